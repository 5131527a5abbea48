import JvmDerived
import JvmDerived.Pilot.@@N@@Statement
import JvmDerived.Pilot.@@N@@Code
set_option linter.unusedVariables false
set_option linter.unusedSimpArgs false
namespace Jvm.RoadKit
open Sem ClassFile Op Lib Jvm.Stand Jvm.Free Jvm.LawKit
def GoW (p : Program) (e : Env) (below : List Frame) (s : State) (Q : Option Value → Heap → List Loc → Prop) (k n : Nat) (u : State) : Prop :=
  ∃ s₂ o, Steps p.tables e below u s₂ ∧ s₂.status = .running ∧ Ended s₂ below o ∧ ∃ v L, o = .returned v ∧ Q v s₂.heap L ∧ FrameEnd s o s₂ L k n
def PureQ (r : Value) (h0 : Heap) (n0 : Nat) (v : Option Value) (h : Heap) (L : List Loc) : Prop := v = some r ∧ Fr n0 L ∧ h = h0
def ValQ (r : Value) (n0 : Nat) (v : Option Value) (h : Heap) (L : List Loc) : Prop := v = some r ∧ Fr n0 L
section New
variable {p : Program} {l : Launch} {e : Env} {R : Room} {s : State} {m : MethodId} {args : Array Value} {below : List Frame} {meth : Method} {c : Code} {T : State} {locs : List Loc} {cells slots : Nat} {Q : Option Value → Heap → List Loc → Prop} {k n : Nat} {u v : State}
theorem GoW.mk (h : GoW p e below s Q k n u) : ∃ s₂ o, Steps p.tables e below u s₂ ∧ s₂.status = .running ∧ Ended s₂ below o ∧ ∃ v L, o = .returned v ∧ Q v s₂.heap L ∧ FrameEnd s o s₂ L k n := h
theorem GoW.st (h : ∀ t, Steps p.tables e below u t → Steps p.tables e below v t) (q : GoW p e below s Q k n u) : GoW p e below s Q k n v := by
  obtain ⟨s₂, o, h1, h2⟩ := q; exact ⟨s₂, o, h _ h1, h2⟩
theorem GoW.sg {T' : State} (g' : JFrame) (h : ∀ t, Steps p.tables e below (T'.setTop g') t → Steps p.tables e below v t) (q : GoW p e below s Q k n (T'.setTop g')) : GoW p e below s Q k n v := GoW.st h q
theorem retI (X : Stand p l e R s m args below meth c T locs cells slots) (hx : p.tables.exec = Jvm.exec) {pc : Nat} {Ls : Array Slot} {z : Int32} {rest : List Value} (hret : meth.sig.returnType = some .int) (hd : decode c.code pc = .ok (.ireturn, 1)) {fs : List Frame}
    (hl : ∀ (f : JFrame) (acts : List Action), f.method = m → f.locked = none → f.entered = [] → (doReturn e (T.setTop f) acts (some (.int z))).1 = T.setFrames fs) : Steps p.tables e below (T.setTop (mkF m pc Ls (.int z :: rest))) (T.setFrames fs) := by
  have hm' : T.vm.method? m = some meth := X.method'
  have hn : narrow .int (.int z) = .int z := rfl
  show Steps p.tables e below (T.setTop { method := m, pc := pc, locals := Ls, stack := _ :: rest, locked := none }) _
  jvm_step X.here [X.here.top, hx, hd, hm', hret, hn]
  first | (intro acts; rw [hl _ acts rfl rfl rfl]) | rw [hl _ _ rfl rfl rfl]
  exact Steps.refl _
theorem GoW.retN (X : Stand p l e R s m args below meth c T locs cells slots) (hx : p.tables.exec = Jvm.exec) {pc : Nat} {Ls : Array Slot} {z : Int32} {t : FieldType} {rest : List Value} (hret : meth.sig.returnType = some t) (ht : t = .boolean ∨ t = .byte ∨ t = .char ∨ t = .short)
    (hd : decode c.code pc = .ok (.ireturn, 1)) (hlk : meth.locks = false) (hq : Q (some (.int (nar t z))) T.heap locs) (hk : cells ≤ k) (hn : slots ≤ n) : GoW p e below s Q k n (T.setTop (mkF m pc Ls (.int z :: rest))) := by
  obtain ⟨fs, hr, hrun, hended, hW, hsame⟩ := X.leave (v := some (.int (nar t z))) (fun h => by rw [hret] at h; cases h) hlk
  exact ⟨_, _, Jvm.RoadKit.retN X hx hret ht hd hr, hrun, hended, _, _, rfl, hq, ⟨_, rfl⟩, hW, hsame.mono hk hn⟩
theorem GoW.retI (X : Stand p l e R s m args below meth c T locs cells slots) (hx : p.tables.exec = Jvm.exec) {pc : Nat} {Ls : Array Slot} {z : Int32} {rest : List Value} (hret : meth.sig.returnType = some .int)
    (hd : decode c.code pc = .ok (.ireturn, 1)) (hlk : meth.locks = false) (hq : Q (some (.int z)) T.heap locs) (hk : cells ≤ k) (hn : slots ≤ n) : GoW p e below s Q k n (T.setTop (mkF m pc Ls (.int z :: rest))) := by
  obtain ⟨fs, hr, hrun, hended, hW, hsame⟩ := X.leave (v := some (.int z)) (fun h => by rw [hret] at h; cases h) hlk
  exact ⟨_, _, Jvm.RoadKit.retI X hx hret hd hr, hrun, hended, _, _, rfl, hq, ⟨_, rfl⟩, hW, hsame.mono hk hn⟩
theorem GoW.retL (X : Stand p l e R s m args below meth c T locs cells slots) (hx : p.tables.exec = Jvm.exec) {pc : Nat} {Ls : Array Slot} {z : Int64} {rest : List Value} (hret : meth.sig.returnType = some .long)
    (hd : decode c.code pc = .ok (.lreturn, 1)) (hlk : meth.locks = false) (hq : Q (some (.long z)) T.heap locs) (hk : cells ≤ k) (hn : slots ≤ n) : GoW p e below s Q k n (T.setTop (mkF m pc Ls (.long z :: rest))) := by
  obtain ⟨fs, hr, hrun, hended, hW, hsame⟩ := X.leave (v := some (.long z)) (fun h => by rw [hret] at h; cases h) hlk
  exact ⟨_, _, retOut X hx hret rfl (Or.inr (Or.inl ⟨rfl, rfl, z, rfl⟩)) hd hr, hrun, hended, _, _, rfl, hq, ⟨_, rfl⟩, hW, hsame.mono hk hn⟩
theorem GoW.retA (X : Stand p l e R s m args below meth c T locs cells slots) (hx : p.tables.exec = Jvm.exec) {pc : Nat} {Ls : Array Slot} {w : Value} {t : FieldType} {rest : List Value} (hret : meth.sig.returnType = some t) (hw : w.isRef = true) (ht : t.isReference = true)
    (hn' : narrow t w = w) (hd : decode c.code pc = .ok (.areturn, 1)) (hlk : meth.locks = false) (hq : Q (some w) T.heap locs) (hk : cells ≤ k) (hn : slots ≤ n) : GoW p e below s Q k n (T.setTop (mkF m pc Ls (w :: rest))) := by
  obtain ⟨fs, hr, hrun, hended, hW, hsame⟩ := X.leave (v := some w) (fun h => by rw [hret] at h; cases h) hlk
  exact ⟨_, _, retOut X hx hret hn' (Or.inr (Or.inr (Or.inr (Or.inr ⟨rfl, ht, hw⟩)))) hd hr, hrun, hended, _, _, rfl, hq, ⟨_, rfl⟩, hW, hsame.mono hk hn⟩
theorem GoW.retV (X : Stand p l e R s m args below meth c T locs cells slots) (hx : p.tables.exec = Jvm.exec) {pc : Nat} {Ls : Array Slot} (hret : meth.sig.returnType = none)
    (hd : decode c.code pc = .ok (.return_, 1)) (hlk : meth.locks = false) (hq : Q none T.heap locs) (hk : cells ≤ k) (hn : slots ≤ n) : GoW p e below s Q k n (T.setTop (mkF m pc Ls [])) := by
  obtain ⟨fs, hr, hrun, hended, hW, hsame⟩ := X.leave (v := none) (fun _ => rfl) hlk
  exact ⟨_, _, X.returnOut hx hret hd hr, hrun, hended, _, _, rfl, hq, ⟨_, rfl⟩, hW, hsame.mono hk hn⟩
theorem hq_ {T : State} {h : Heap} {a : Addr} {c : Cell} (e : T.heap = h) (q : h[a]? = some c) : T.heap[a]? = some c := by rw [e]; exact q
theorem own_b53 (x : Int32) : B53 x.toInt64 := by
  have h := rng32 x
  unfold B53; rw [Int32.toInt_toInt64]; omega
theorem own_eqI {args : Array Value} {first s : State} {o : Option Outcome} {idx : List Nat} {t : Term} {i : Int32} (h : (Jvm.Cond.eq t (.int i)).value args first o s idx = some true) : t.eval args first o idx s = some (.int i) := by
  obtain ⟨x, y, hx, hy, k1, k2⟩ := cmp_v (Or.inl h)
  rw [Term.int_eval] at hy
  cases hy
  obtain ⟨z, rfl⟩ := k2
  have q := gotT (Cond.eq_ints hx (Term.int_eval i)) h
  rw [hx, q]
theorem own_ne {args : Array Value} {first s : State} {o : Option Outcome} {idx : List Nat} {t u : Term} {C n d : String} {i j : Int32} {a b : Addr} (h1 : (Jvm.Cond.eq (.field t C n d) (.int i)).value args first o s idx = some true) (h2 : (Jvm.Cond.eq (.field u C n d) (.int j)).value args first o s idx = some true)
    (ha : t.eval args first o idx s = some (.ref a)) (hb : u.eval args first o idx s = some (.ref b)) (hij : i ≠ j) : a ≠ b := fun e => by
  subst e
  have q1 := own_eqI h1
  have q2 := own_eqI h2
  rw [fld_at ha] at q1
  rw [fld_at hb, q1] at q2
  exact hij (by cases q2; rfl)
theorem own_staK0 {Z : State} {h h' : Heap} {C n d : String} {v : Value} (F : Sta Z h C n d v) (K : Keep h h' []) : Sta Z h' C n d v := by
  obtain ⟨cf, i, k, f, st, cell, h1, h2, h3, h4, h5, r⟩ := F; exact ⟨cf, i, k, f, st, cell, h1, h2, h3, h4, K.2.1 _ _ h5 nin0, r⟩
def NSt (h : Heap) (a : Addr) : Prop := ∀ c : Cell, h[a]? = some c → c.vm.isStatics = false
theorem own_nsE {Z : State} {h : Heap} {a : Addr} {C : String} (E : Exa Z h a C) : NSt h a := fun c hc => by
  obtain ⟨cell2, k2, g1, -, -, g2, -⟩ := E
  cases hc.symm.trans g1
  exact g2
theorem own_nsA {Z : State} {h : Heap} {a : Addr} {k : ClassId} {ty : FieldType} {z : Int32} {vs : List Value} {dv : Value} (A : Arv Z h a k ty z vs dv) : NSt h a := fun c hc => by
  obtain ⟨cl, A, -⟩ := A
  cases hc.symm.trans A.1
  exact A.plain
theorem own_staK {Z : State} {h h' : Heap} {C n d : String} {v : Value} {ws : List Addr} (F : Sta Z h C n d v) (K : Keep h h' ws) (E : ∀ x ∈ ws, NSt h x) : Sta Z h' C n d v := by
  obtain ⟨cf, i, k, f, st, cell, h1, h2, h3, h4, h5, h6, r⟩ := F
  refine ⟨cf, i, k, f, st, cell, h1, h2, h3, h4, K.2.1 _ _ h5 (fun q => ?_), h6, r⟩
  have := E st q cell h5
  rw [h6] at this; cases this
theorem GoW.retD (X : Stand p l e R s m args below meth c T locs cells slots) (hx : p.tables.exec = Jvm.exec) {pc : Nat} {Ls : Array Slot} {z : UInt64} {rest : List Value} (hret : meth.sig.returnType = some .double)
    (hd : decode c.code pc = .ok (.dreturn, 1)) (hlk : meth.locks = false) (hq : Q (some (.double z)) T.heap locs) (hk : cells ≤ k) (hn : slots ≤ n) : GoW p e below s Q k n (T.setTop (mkF m pc Ls (.double z :: rest))) := by
  obtain ⟨fs, hr, hrun, hended, hW, hsame⟩ := X.leave (v := some (.double z)) (fun h => by rw [hret] at h; cases h) hlk
  exact ⟨_, _, retOut X hx hret rfl (Or.inr (Or.inr (Or.inl ⟨rfl, rfl, z, rfl⟩))) hd hr, hrun, hended, _, _, rfl, hq, ⟨_, rfl⟩, hW, hsame.mono hk hn⟩
theorem own_pop2L {tb : Tables} [Ours tb] {e : Env} {below : List Frame} {T target : State} {m : MethodId} {c : Code} {g : JFrame} (h : At T m c below) (hx : tb.exec = Jvm.exec) (hg : g.method = m) {x : Int64} {rest : List Value} (hd : decode c.code g.pc = .ok (.pop2, 1)) (hs : g.stack = .long x :: rest)
    (hr : Steps tb e below (T.setTop { g with pc := g.pc + 1, stack := rest }) target) : Steps tb e below (T.setTop g) target := by
  subst hg
  jvm_step h [h.top, hx, hd, hs, Value.category]
  exact hr
theorem own_callS {Z : State} {a0 : Array Value} {h : Heap} (X : Stand p l e R s m args below meth c T locs cells slots) (hx : p.tables.exec = Jvm.exec) (hZ : Z.Warmed39 s.vm) {own : String} {index : Nat} {y : MethodName} {bytes : ByteArray} {maxL : Nat} {ret : Option FieldType}
    (hown : s.vm.findClass own = some m.cls) (w1 : (Jvm.Cond.methodLink own index y).before a0 Z = true) (w2 : (Jvm.Cond.static y).before a0 Z = true) (w3 : (Jvm.Cond.initialized y.cls).before a0 Z = true) (w4 : (Jvm.Cond.code y bytes maxL ret).before a0 Z = true)
    (hy : y.cls ≠ "java/lang/invoke/MethodHandle" ∧ y.cls ≠ "java/lang/invoke/VarHandle") (W : Nat) {rm : Room} {argsL rest : List Value} {Q : Option Value → Heap → List Loc → Prop}
    (hM : MetFree l y (head1 [Jvm.Cond.code y bytes maxL ret] rm) (fun a U => a = argsL.toArray ∧ Z.Warmed39 U.vm ∧ U.heap = h) (fun _ _ _ _ _ => True) (fun _ U o U' => ∃ v L, o = .returned v ∧ Q v U'.heap L ∧ FrameEnd U o U' L rm.cells rm.slots))
    (hf : rm.frames + 1 ≤ R.frames) (hl : W + (maxL + 11) + rm.locals ≤ R.locals) (eT : T.heap = h) (hc : cells + rm.cells ≤ R.cells) (hs : slots + rm.slots ≤ R.slots)
    {g : JFrame} (hg : g.method = m) (hsize : g.locals.size = c.maxLocals) (hlen : ∀ sig, parseMethodDescriptor y.desc = some sig → argsL.length = sig.parameters.length)
    (hstack : g.stack = argsL.reverse ++ rest) (hW : 2 * g.monitorRoom + (rest.map fun v => v.category).sum ≤ W) (hdg : decode c.code g.pc = .ok (.invokestatic index, 3)) :
    ∃ (v : Option Value) (T' : State) (L : List Loc), Stand p l e R s m args below meth c T' (locs ++ L) (cells + rm.cells) (slots + rm.slots) ∧ Q v T'.heap L ∧
      ∀ target, Steps p.tables e below (T'.setTop { g with pc := g.pc + 3, stack := v.toList ++ rest }) target → Steps p.tables e below (T.setTop g) target := by
  obtain ⟨v, _, ⟨T', L', k', n'⟩, -, X', ⟨Lc, hQ, l', y', z'⟩, st⟩ := Jvm.LawKit.callS X hx (y := y) hown (mvT hZ w1) (mvT hZ w2) (mvT hZ w3) (mvT hZ w4) hy (backOf (W := W) hM hZ w4 w3 hf hl) (g := g) hg hsize (argsL := argsL) (rest := rest) hlen hstack hW hdg (fun _ _ => ⟨rfl, eT, hc, hs⟩)
  dsimp only [Pt.U, Pt.locs, Pt.cells, Pt.slots] at X' l' y' z' st hQ
  subst l' y' z'
  exact ⟨v, T', Lc, X', hQ, st⟩
abbrev MM (l : Launch) (Z : State) (y : MethodName) (code : ByteArray) (ml : Nat) (ret : Option FieldType) (fr ce sl lo : Nat) (argv : Array Value) (h0 : Heap) (Q : Option Value → Heap → List Loc → Prop) : Prop :=
  MetFree l y (head1 [Jvm.Cond.code y code ml ret] { frames := fr, cells := ce, slots := sl, locals := lo }) (fun a U => a = argv ∧ Z.Warmed39 U.vm ∧ U.heap = h0) (fun _ _ _ _ _ => True) (fun _ U o U' => ∃ v L, o = .returned v ∧ Q v U'.heap L ∧ FrameEnd U o U' L ce sl)
theorem own_start {Z : State} {y : MethodName} {code : ByteArray} {ml : Nat} {ret : Option FieldType} {fr ce sl lo : Nat} {argv : Array Value} {h0 : Heap} {Q : Option Value → Heap → List Loc → Prop} (F : MethodId → JFrame) (hpl : plainFor y = true) (ef : ∀ m, entryFrame m argv ml = F m) (n0 : Nat)
    (H : ∀ p e s m below meth c s₁, BodyLoose p l y (head1 [Jvm.Cond.code y code ml ret] { frames := fr, cells := ce, slots := sl, locals := lo }) code ml ret e s m argv below meth c s₁ → p.tables.exec = Jvm.exec → (∀ {pc : Nat} {r : Except ClassFile.DecodeError (ClassFile.Instr × Nat)}, ClassFile.decode code pc = r → ClassFile.decode c.code pc = r) → c.maxLocals = ml → Z.Warmed39 s.vm → s.vm.findClass y.cls = some m.cls → meth.name = y.name →
      Stand p l e { frames := fr, cells := ce, slots := sl, locals := lo } s m argv below meth c s₁ [] 0 0 → s₁.heap = h0 → Fr n0 [] → GoW p e below s Q ce sl (s₁.setTop (F m))) : MM l Z y code ml ret fr ce sl lo argv h0 Q := by
  refine MetFree.of_bodySF hpl hisR ?_
  intro p e s m args below meth c s₁ Bd hml hP hK
  obtain ⟨rfl, hZ, hh⟩ := hP
  refine GoW.mk (GoW.st (fun t k => castTop (ef m) k) ?_)
  exact H p e s m below meth c s₁ Bd Bd.exec (fun h => hb Bd.bytes h) hml hZ (findClass_of_methodNamed Bd.named) (name_of_methodNamed Bd.named Bd.method).1 (Stand.of_body Bd) (by rw [← hh, Bd.state]; rfl) (Fr.nil n0)
theorem own_virt {Z : State} {a0 : Array Value} {h : Heap} (X : Stand p l e R s m args below meth c T locs cells slots) (hx : p.tables.exec = Jvm.exec) (hZ : Z.Warmed39 s.vm) {own C : String} {index : Nat} {y : MethodName} {bytes : ByteArray} {maxL : Nat} {ret : Option FieldType}
    (hown : s.vm.findClass own = some m.cls) (w1 : (Jvm.Cond.methodLink own index y).before a0 Z = true) (w2 : (Jvm.Cond.declares y).before a0 Z = true) (w3 : (Jvm.Cond.selects C y y).before a0 Z = true) (w4 : (Jvm.Cond.instanceMethod y).before a0 Z = true) (w5 : (Jvm.Cond.code y bytes maxL ret).before a0 Z = true) (w6 : (Jvm.Cond.initialized y.cls).before a0 Z = true)
    (hy : y.cls ≠ "java/lang/invoke/MethodHandle" ∧ y.cls ≠ "java/lang/invoke/VarHandle") (W : Nat) {rm : Room} {a : Addr} {argsL rest : List Value} {Q : Option Value → Heap → List Loc → Prop}
    (hM : MetFree l y (head1 [Jvm.Cond.code y bytes maxL ret] rm) (fun a' U => a' = (Value.ref a :: argsL).toArray ∧ Z.Warmed39 U.vm ∧ U.heap = h) (fun _ _ _ _ _ => True) (fun _ U o U' => ∃ v L, o = .returned v ∧ Q v U'.heap L ∧ FrameEnd U o U' L rm.cells rm.slots))
    (hf : rm.frames + 1 ≤ R.frames) (hl : W + (maxL + 11) + rm.locals ≤ R.locals) (eT : T.heap = h) (E : Exa Z h a C) (hc : cells + rm.cells ≤ R.cells) (hs : slots + rm.slots ≤ R.slots)
    {g : JFrame} (hg : g.method = m) (hsize : g.locals.size = c.maxLocals) (hlen : ∀ sig, parseMethodDescriptor y.desc = some sig → argsL.length = sig.parameters.length)
    (hstack : g.stack = argsL.reverse ++ .ref a :: rest) (hW : 2 * g.monitorRoom + (rest.map fun v => v.category).sum ≤ W) (hdg : decode c.code g.pc = .ok (.invokevirtual index, 3)) :
    ∃ (v : Option Value) (T' : State) (L : List Loc), Stand p l e R s m args below meth c T' (locs ++ L) (cells + rm.cells) (slots + rm.slots) ∧ Q v T'.heap L ∧
      ∀ target, Steps p.tables e below (T'.setTop { g with pc := g.pc + 3, stack := v.toList ++ rest }) target → Steps p.tables e below (T.setTop g) target := by
  obtain ⟨cq, kq, qa, qb, qc⟩ := isOf hZ eT E
  obtain ⟨v, _, ⟨T', L', k', n'⟩, -, X', ⟨Lc, hQ, l', y', z'⟩, st⟩ := X.virtualBack hx (y := y) (z := y) hown (mvT hZ w1) (mvT hZ w2) (notFace_of_selects (args := #[]) (mvT hZ w3)) (mvT hZ w3) (mvT hZ w4) hy (backOf (W := W) hM hZ w5 w6 hf hl) qa qc (g := g) hg hsize (Steps.refl _) (argsL := argsL) (rest := rest) hlen hstack hW hdg (fun _ _ => ⟨rfl, eT, hc, hs⟩)
  dsimp only [Pt.U, Pt.locs, Pt.cells, Pt.slots] at X' l' y' z' st hQ
  subst l' y' z'
  exact ⟨v, T', Lc, X', hQ, fun t k => st.trans k⟩
theorem own_priv {Z : State} {a0 : Array Value} {h : Heap} (X : Stand p l e R s m args below meth c T locs cells slots) (hx : p.tables.exec = Jvm.exec) (hZ : Z.Warmed39 s.vm) {own C : String} {index : Nat} {y : MethodName} {nI : Nat} {bytes : ByteArray} {maxL : Nat} {ret : Option FieldType}
    (hown : s.vm.findClass own = some m.cls) (w1 : (Jvm.Cond.methodLink own index y).before a0 Z = true) (w2 : (Jvm.Cond.privateMethod y).before a0 Z = true) (w3 : (Jvm.Cond.instantiable y.cls nI).before a0 Z = true) (w4 : (Jvm.Cond.instanceMethod y).before a0 Z = true) (w5 : (Jvm.Cond.code y bytes maxL ret).before a0 Z = true) (w6 : (Jvm.Cond.initialized y.cls).before a0 Z = true)
    (hy : y.cls ≠ "java/lang/invoke/MethodHandle" ∧ y.cls ≠ "java/lang/invoke/VarHandle") (W : Nat) {rm : Room} {a : Addr} {argsL rest : List Value} {Q : Option Value → Heap → List Loc → Prop}
    (hM : MetFree l y (head1 [Jvm.Cond.code y bytes maxL ret] rm) (fun a' U => a' = (Value.ref a :: argsL).toArray ∧ Z.Warmed39 U.vm ∧ U.heap = h) (fun _ _ _ _ _ => True) (fun _ U o U' => ∃ v L, o = .returned v ∧ Q v U'.heap L ∧ FrameEnd U o U' L rm.cells rm.slots))
    (hf : rm.frames + 1 ≤ R.frames) (hl : W + (maxL + 11) + rm.locals ≤ R.locals) (eT : T.heap = h) (E : Exa Z h a C) (hc : cells + rm.cells ≤ R.cells) (hs : slots + rm.slots ≤ R.slots)
    {g : JFrame} (hg : g.method = m) (hsize : g.locals.size = c.maxLocals) (hlen : ∀ sig, parseMethodDescriptor y.desc = some sig → argsL.length = sig.parameters.length)
    (hstack : g.stack = argsL.reverse ++ .ref a :: rest) (hW : 2 * g.monitorRoom + (rest.map fun v => v.category).sum ≤ W) (hdg : decode c.code g.pc = .ok (.invokevirtual index, 3)) :
    ∃ (v : Option Value) (T' : State) (L : List Loc), Stand p l e R s m args below meth c T' (locs ++ L) (cells + rm.cells) (slots + rm.slots) ∧ Q v T'.heap L ∧
      ∀ target, Steps p.tables e below (T'.setTop { g with pc := g.pc + 3, stack := v.toList ++ rest }) target → Steps p.tables e below (T.setTop g) target := by
  obtain ⟨cq, kq, qa, qb, qc⟩ := isOf hZ eT E
  obtain ⟨cell, hcell, hcls, hst⟩ := qc
  obtain ⟨c0, k0, hc0, hk0, -, hni, -, -⟩ := Cond.instantiable_spec (mvT (args := args) hZ w3)
  have hsel := selects_self_of_private hc0 hk0 (Bool.or_eq_false_iff.mp hni).1 (Cond.privateMethod_at (mvT (args := args) hZ w2)) (mvT (args := args) hZ w4) hy
  obtain ⟨v, _, ⟨T', L', k', n'⟩, -, X', ⟨Lc, hQ, l', y', z'⟩, st⟩ := X.privateBack hx (y := y) hown (mvT hZ w1) (mvT hZ w4) hsel (Cond.privateMethod_at (mvT (args := args) hZ w2)) (mvT hZ w5) hy (backOf (W := W) hM hZ w5 w6 hf hl) (g := g) hg hsize (Steps.refl _) hcell (fun q e => by rw [e] at hst; cases hst) (argsL := argsL) (rest := rest) hlen hstack hW hdg (fun _ _ => ⟨rfl, eT, hc, hs⟩)
  dsimp only [Pt.U, Pt.locs, Pt.cells, Pt.slots] at X' l' y' z' st hQ
  subst l' y' z'
  exact ⟨v, T', Lc, X', hQ, fun t k => st.trans k⟩
theorem own_spec {Z : State} {a0 : Array Value} {h : Heap} (X : Stand p l e R s m args below meth c T locs cells slots) (hx : p.tables.exec = Jvm.exec) (hZ : Z.Warmed39 s.vm) {own : String} {index : Nat} {y : MethodName} {bytes : ByteArray} {maxL : Nat} (hy1 : y.name = "<init>")
    (hown : s.vm.findClass own = some m.cls) (w1 : (Jvm.Cond.methodLink own index y).before a0 Z = true) (w2 : (Jvm.Cond.instanceMethod y).before a0 Z = true) (w3 : (Jvm.Cond.initialized y.cls).before a0 Z = true) (w4 : (Jvm.Cond.code y bytes maxL none).before a0 Z = true)
    (hy : y.cls ≠ "java/lang/invoke/MethodHandle" ∧ y.cls ≠ "java/lang/invoke/VarHandle") (W : Nat) {rm : Room} {a : Addr} {argsL rest : List Value} {Q : Option Value → Heap → List Loc → Prop}
    (hM : MetFree l y (head1 [Jvm.Cond.code y bytes maxL none] rm) (fun a' U => a' = (Value.ref a :: argsL).toArray ∧ Z.Warmed39 U.vm ∧ U.heap = h) (fun _ _ _ _ _ => True) (fun _ U o U' => ∃ v L, o = .returned v ∧ Q v U'.heap L ∧ FrameEnd U o U' L rm.cells rm.slots))
    (hf : rm.frames + 1 ≤ R.frames) (hl : W + (maxL + 11) + rm.locals ≤ R.locals) (eT : T.heap = h) (hc : cells + rm.cells ≤ R.cells) (hs : slots + rm.slots ≤ R.slots)
    {g : JFrame} (hg : g.method = m) (hsize : g.locals.size = c.maxLocals) (hlen : ∀ sig, parseMethodDescriptor y.desc = some sig → argsL.length = sig.parameters.length)
    (hstack : g.stack = argsL.reverse ++ .ref a :: rest) (hW : 2 * g.monitorRoom + (rest.map fun v => v.category).sum ≤ W) (hdg : decode c.code g.pc = .ok (.invokespecial index, 3)) :
    ∃ (v : Option Value) (T' : State) (L : List Loc), Stand p l e R s m args below meth c T' (locs ++ L) (cells + rm.cells) (slots + rm.slots) ∧ Q v T'.heap L ∧
      ∀ target, Steps p.tables e below (T'.setTop { g with pc := g.pc + 3, stack := v.toList ++ rest }) target → Steps p.tables e below (T.setTop g) target := by
  obtain ⟨v, _, ⟨T', L', k', n'⟩, -, X', ⟨Lc, hQ, l', y', z'⟩, st⟩ := X.specialBack hx (y := y) hy1 hown (mvT hZ w1) (mvT hZ w2) (mvT hZ w4) hy (backOf (W := W) hM hZ w4 w3 hf hl) (g := g) hg hsize (Steps.refl _) (a := a) (argsL := argsL) (rest := rest) hlen hstack hW hdg (fun _ _ => ⟨rfl, eT, hc, hs⟩)
  dsimp only [Pt.U, Pt.locs, Pt.cells, Pt.slots] at X' l' y' z' st hQ
  subst l' y' z'
  exact ⟨v, T', Lc, X', hQ, fun t k => st.trans k⟩
def GoV (p : Program) (e : Env) (below : List Frame) (s : State) (Q : Option Value → Heap → List Loc → Prop) (k n : Nat) (u : State) : Prop :=
  ∃ s₂ o, Steps p.tables e below u s₂ ∧ s₂.status = .running ∧ Ended s₂ below o ∧ ∃ v L, o = .returned v ∧ Q v s₂.heap L ∧ ReturnedEndW s o s₂ L k n
theorem GoV.mk (h : GoV p e below s Q k n u) : ∃ s₂ o, Steps p.tables e below u s₂ ∧ s₂.status = .running ∧ Ended s₂ below o ∧ ∃ v L, o = .returned v ∧ Q v s₂.heap L ∧ ReturnedEndW s o s₂ L k n := h
theorem GoV.st (h : ∀ t, Steps p.tables e below u t → Steps p.tables e below v t) (q : GoV p e below s Q k n u) : GoV p e below s Q k n v := by
  obtain ⟨s₂, o, h1, h2⟩ := q; exact ⟨s₂, o, h _ h1, h2⟩
theorem GoV.sg {T' : State} (g' : JFrame) (h : ∀ t, Steps p.tables e below (T'.setTop g') t → Steps p.tables e below v t) (q : GoV p e below s Q k n (T'.setTop g')) : GoV p e below s Q k n v := GoV.st h q
theorem GoV.retN {vm1 : Vm} {n1 : Nat} (X : Stand p l e R (s.setVm vm1) m args below meth c T locs cells slots) (hS : s.Since vm1 n1) (h1 : n1 ≤ T.heap.size) (hx : p.tables.exec = Jvm.exec) {pc : Nat} {Ls : Array Slot} {z : Int32} {t : FieldType} {rest : List Value} (hret : meth.sig.returnType = some t) (ht : t = .boolean ∨ t = .byte ∨ t = .char ∨ t = .short)
    (hd : decode c.code pc = .ok (.ireturn, 1)) (hlk : meth.locks = false) (hq : Q (some (.int (nar t z))) T.heap locs) (hk : cells ≤ k) (hn : slots ≤ n) : GoV p e below s Q k n (T.setTop (mkF m pc Ls (.int z :: rest))) := by
  obtain ⟨fs, hr, hrun, hended, hv, hW, hB, hs⟩ := X.leaveW hS h1 (v := some (.int (nar t z))) (fun h => by rw [hret] at h; cases h) hlk
  exact ⟨_, _, Jvm.RoadKit.retN X hx hret ht hd hr, hrun, hended, _, _, rfl, hq, hv, hW, hB, hs.mono hk hn⟩
def GoU (p : Program) (e : Env) (below : List Frame) (s : State) (Q : Option Value → Heap → Vm → List Loc → Prop) (k n : Nat) (u : State) : Prop :=
  ∃ s₂ o, Steps p.tables e below u s₂ ∧ s₂.status = .running ∧ Ended s₂ below o ∧ ∃ v L, o = .returned v ∧ Q v s₂.heap s₂.vm L ∧ ReturnedEndW s o s₂ L k n
section Wide
variable {QQ : Option Value → Heap → Vm → List Loc → Prop}
theorem GoU.mk (h : GoU p e below s QQ k n u) : ∃ s₂ o, Steps p.tables e below u s₂ ∧ s₂.status = .running ∧ Ended s₂ below o ∧ ∃ v L, o = .returned v ∧ QQ v s₂.heap s₂.vm L ∧ ReturnedEndW s o s₂ L k n := h
theorem GoU.st (h : ∀ t, Steps p.tables e below u t → Steps p.tables e below v t) (q : GoU p e below s QQ k n u) : GoU p e below s QQ k n v := by
  obtain ⟨s₂, o, h1, h2⟩ := q; exact ⟨s₂, o, h _ h1, h2⟩
theorem GoU.sg {T' : State} (g' : JFrame) (h : ∀ t, Steps p.tables e below (T'.setTop g') t → Steps p.tables e below v t) (q : GoU p e below s QQ k n (T'.setTop g')) : GoU p e below s QQ k n v := GoU.st h q
theorem GoU.retV {vm1 : Vm} {n1 : Nat} (X : Stand p l e R (s.setVm vm1) m args below meth c T locs cells slots) (hS : s.Since vm1 n1) (h1 : n1 ≤ T.heap.size) (hx : p.tables.exec = Jvm.exec) {pc : Nat} {Ls : Array Slot} (hret : meth.sig.returnType = none)
    (hd : decode c.code pc = .ok (.return_, 1)) (hlk : meth.locks = false) (hq : QQ none T.heap T.vm locs) (hk : cells ≤ k) (hn : slots ≤ n) : GoU p e below s QQ k n (T.setTop (mkF m pc Ls [])) := by
  obtain ⟨fs, hr, hrun, hended, hv, hW, hB, hs⟩ := X.leaveW hS h1 (v := none) (fun _ => rfl) hlk
  exact ⟨_, _, X.returnOut hx hret hd hr, hrun, hended, _, _, rfl, hq, hv, hW, hB, hs.mono hk hn⟩
theorem GoU.retA {vm1 : Vm} {n1 : Nat} (X : Stand p l e R (s.setVm vm1) m args below meth c T locs cells slots) (hS : s.Since vm1 n1) (h1 : n1 ≤ T.heap.size) (hx : p.tables.exec = Jvm.exec) {pc : Nat} {Ls : Array Slot} {w : Value} {t : FieldType} {rest : List Value} (hret : meth.sig.returnType = some t) (hw : w.isRef = true) (ht : t.isReference = true)
    (hn' : narrow t w = w) (hd : decode c.code pc = .ok (.areturn, 1)) (hlk : meth.locks = false) (hq : QQ (some w) T.heap T.vm locs) (hk : cells ≤ k) (hn : slots ≤ n) : GoU p e below s QQ k n (T.setTop (mkF m pc Ls (w :: rest))) := by
  obtain ⟨fs, hr, hrun, hended, hv, hW, hB, hs⟩ := X.leaveW hS h1 (v := some w) (fun h => by rw [hret] at h; cases h) hlk
  exact ⟨_, _, retOut X hx hret hn' (Or.inr (Or.inr (Or.inr (Or.inr ⟨rfl, ht, hw⟩)))) hd hr, hrun, hended, _, _, rfl, hq, hv, hW, hB, hs.mono hk hn⟩
theorem own_ibW {Z : State} {vm0 vm1 : Vm} {Ts : List String} (I : IB Z vm0 Ts) (h : vm1.interned = vm0.interned) : IB Z vm1 Ts := by
  obtain ⟨more, h1, h2⟩ := I; exact ⟨more, h.trans h1, h2⟩
theorem own_backU {Z : State} {a0 : Array Value} {h : Heap} {y : MethodName} {bytes : ByteArray} {maxL : Nat} {ret : Option FieldType} {rm : Room} {len W : Nat} {as' : Array Value} {PV : Vm → Prop}
    (hM : MetFree l y (head1 [Jvm.Cond.code y bytes maxL ret] rm) (fun a U => a = as' ∧ Z.Warmed39 U.vm ∧ U.heap = h ∧ PV U.vm) (fun _ _ _ _ _ => True) (fun _ U o U' => ∃ v L, o = .returned v ∧ QQ v U'.heap U'.vm L ∧ ReturnedEndW U o U' L rm.cells rm.slots))
    (hZ : Z.Warmed39 s.vm) (hI : ∀ vm1, s.WarmedH vm1 → PV vm1) (wc : (Jvm.Cond.code y bytes maxL ret).before a0 Z = true) (wz : (Jvm.Cond.initialized y.cls).before a0 Z = true) (hf : rm.frames + 1 ≤ R.frames) (hl : W + (maxL + 11) + rm.locals ≤ R.locals) :
    BackS l R p e below s args y len W (fun A a => a = as' ∧ A.U.heap = h ∧ A.cells + rm.cells ≤ R.cells ∧ A.slots + rm.slots ≤ R.slots)
      (fun A _ v B => ∃ L, QQ v B.U.heap B.U.vm L ∧ B.locs = A.locs ++ L ∧ B.cells = A.cells + rm.cells ∧ B.slots = A.slots + rm.slots) :=
  BackS.of_freeW (bytes := bytes) (maxL := maxL) (ret := ret) (E := fun _ _ o t L k n => k = rm.cells ∧ n = rm.slots ∧ ∃ v, o = .returned v ∧ QQ v t.heap t.vm L) hM hf hl
    (fun m meth c A a Y hp => have hU : Z.Warmed39 A.U.vm := wtrans hZ Y.warmed
      ⟨by show (Jvm.Cond.and _ .tt).before a A.U = true; rw [Cond.before_and, mv hU wc]; rfl, mv hU wc, mv hU wz, hp.2.2.1, hp.2.2.2⟩)
    (fun m meth c A a g mk Y hp => ⟨hp.1, wtrans hZ Y.warmed, hp.2.1, hI _ Y.warmed⟩) (fun _ _ _ _ _ _ _ _ _ => trivial)
    (fun _ _ _ _ ⟨v, L, h1, h2, h3⟩ => ⟨L, _, _, h3, rfl, rfl, v, h1, h2⟩)
    (fun m meth c A a g mk v t L k n Y hp _ _ ⟨e1, e2, v', e3, e4⟩ => by cases e3; subst e1 e2; exact ⟨L, e4, rfl, rfl, rfl⟩)
theorem own_specU {Z : State} {a0 : Array Value} {h : Heap} {vm0 : Vm} {k0 : Nat} (X : Stand p l e R (s.setVm vm0) m args below meth c T locs cells slots) (hx : p.tables.exec = Jvm.exec) (hZ : Z.Warmed39 (s.setVm vm0).vm) (hS : s.Since vm0 k0) (hk0 : k0 ≤ h.size) {own : String} {index : Nat} {y : MethodName} {bytes : ByteArray} {maxL : Nat} (hy1 : y.name = "<init>")
    (hown : (s.setVm vm0).vm.findClass own = some m.cls) (w1 : (Jvm.Cond.methodLink own index y).before a0 Z = true) (w2 : (Jvm.Cond.instanceMethod y).before a0 Z = true) (w3 : (Jvm.Cond.initialized y.cls).before a0 Z = true) (w4 : (Jvm.Cond.code y bytes maxL none).before a0 Z = true)
    (hy : y.cls ≠ "java/lang/invoke/MethodHandle" ∧ y.cls ≠ "java/lang/invoke/VarHandle") (W : Nat) {rm : Room} {a : Addr} {argsL rest : List Value} {PV : Vm → Prop}
    (hM : MetFree l y (head1 [Jvm.Cond.code y bytes maxL none] rm) (fun a' U => a' = (Value.ref a :: argsL).toArray ∧ Z.Warmed39 U.vm ∧ U.heap = h ∧ PV U.vm) (fun _ _ _ _ _ => True) (fun _ U o U' => ∃ v L, o = .returned v ∧ QQ v U'.heap U'.vm L ∧ ReturnedEndW U o U' L rm.cells rm.slots)) (hI : ∀ vm1, (s.setVm vm0).WarmedH vm1 → PV vm1)
    (hf : rm.frames + 1 ≤ R.frames) (hl : W + (maxL + 11) + rm.locals ≤ R.locals) (eT : T.heap = h) (hc : cells + rm.cells ≤ R.cells) (hs : slots + rm.slots ≤ R.slots)
    {g : JFrame} (hg : g.method = m) (hsize : g.locals.size = c.maxLocals) (hlen : ∀ sig, parseMethodDescriptor y.desc = some sig → argsL.length = sig.parameters.length)
    (hstack : g.stack = argsL.reverse ++ .ref a :: rest) (hW : 2 * g.monitorRoom + (rest.map fun v => v.category).sum ≤ W) (hdg : decode c.code g.pc = .ok (.invokespecial index, 3)) :
    ∃ (v : Option Value) (T' : State) (L : List Loc), Stand p l e R (s.setVm T'.vm) m args below meth c T' (locs ++ L) (cells + rm.cells) (slots + rm.slots) ∧ s.Since T'.vm T'.heap.size ∧ Z.Warmed39 (s.setVm T'.vm).vm ∧ (s.setVm T'.vm).vm.findClass own = some m.cls ∧ QQ v T'.heap T'.vm L ∧
      ∀ target, Steps p.tables e below (T'.setTop { g with pc := g.pc + 3, stack := v.toList ++ rest }) target → Steps p.tables e below (T.setTop g) target := by
  obtain ⟨v, _, ⟨T', L', k', n'⟩, -, X', hS', hgr, ⟨Lc, hQ, l', y', z'⟩, st⟩ := X.specialBackS hx (y := y) hy1 hown (mvT hZ w1) (mvT hZ w2) (mvT hZ w4) hy (own_backU (W := W) hM hZ hI w4 w3 hf hl) (g := g) hg hsize (Steps.refl _) (a := a) (argsL := argsL) (rest := rest) hlen hstack hW hdg (fun _ _ => ⟨rfl, eT, hc, hs⟩)
  dsimp only [Pt.U, Pt.locs, Pt.cells, Pt.slots] at X' l' y' z' st hQ hS' hgr
  subst l' y' z'
  exact ⟨v, T', Lc, X', foldS hS (by rw [eT]; exact hk0) hS' hgr, State.Warmed39.trans (t := s.setVm vm0) hZ hS'.1, by rw [show (s.setVm T'.vm).vm = T'.vm from rfl, hS'.1.alike.findClass]; exact hown, hQ, fun t k => st.trans k⟩
theorem own_callU {Z : State} {a0 : Array Value} {h : Heap} {vm0 : Vm} {k0 : Nat} (X : Stand p l e R (s.setVm vm0) m args below meth c T locs cells slots) (hx : p.tables.exec = Jvm.exec) (hZ : Z.Warmed39 (s.setVm vm0).vm) (hS : s.Since vm0 k0) (hk0 : k0 ≤ h.size) {own : String} {index : Nat} {y : MethodName} {bytes : ByteArray} {maxL : Nat} {ret : Option FieldType}
    (hown : (s.setVm vm0).vm.findClass own = some m.cls) (w1 : (Jvm.Cond.methodLink own index y).before a0 Z = true) (w2 : (Jvm.Cond.static y).before a0 Z = true) (w3 : (Jvm.Cond.initialized y.cls).before a0 Z = true) (w4 : (Jvm.Cond.code y bytes maxL ret).before a0 Z = true)
    (hy : y.cls ≠ "java/lang/invoke/MethodHandle" ∧ y.cls ≠ "java/lang/invoke/VarHandle") (W : Nat) {rm : Room} {argsL rest : List Value} {PV : Vm → Prop}
    (hM : MetFree l y (head1 [Jvm.Cond.code y bytes maxL ret] rm) (fun a' U => a' = argsL.toArray ∧ Z.Warmed39 U.vm ∧ U.heap = h ∧ PV U.vm) (fun _ _ _ _ _ => True) (fun _ U o U' => ∃ v L, o = .returned v ∧ QQ v U'.heap U'.vm L ∧ ReturnedEndW U o U' L rm.cells rm.slots)) (hI : ∀ vm1, (s.setVm vm0).WarmedH vm1 → PV vm1)
    (hf : rm.frames + 1 ≤ R.frames) (hl : W + (maxL + 11) + rm.locals ≤ R.locals) (eT : T.heap = h) (hc : cells + rm.cells ≤ R.cells) (hs : slots + rm.slots ≤ R.slots)
    {g : JFrame} (hg : g.method = m) (hsize : g.locals.size = c.maxLocals) (hlen : ∀ sig, parseMethodDescriptor y.desc = some sig → argsL.length = sig.parameters.length)
    (hstack : g.stack = argsL.reverse ++ rest) (hW : 2 * g.monitorRoom + (rest.map fun v => v.category).sum ≤ W) (hdg : decode c.code g.pc = .ok (.invokestatic index, 3)) :
    ∃ (v : Option Value) (T' : State) (L : List Loc), Stand p l e R (s.setVm T'.vm) m args below meth c T' (locs ++ L) (cells + rm.cells) (slots + rm.slots) ∧ s.Since T'.vm T'.heap.size ∧ Z.Warmed39 (s.setVm T'.vm).vm ∧ (s.setVm T'.vm).vm.findClass own = some m.cls ∧ QQ v T'.heap T'.vm L ∧
      ∀ target, Steps p.tables e below (T'.setTop { g with pc := g.pc + 3, stack := v.toList ++ rest }) target → Steps p.tables e below (T.setTop g) target := by
  obtain ⟨v, _, ⟨T', L', k', n'⟩, -, X', hS', hgr, ⟨Lc, hQ, l', y', z'⟩, st⟩ := callSS X hx (y := y) hown (mvT hZ w1) (mvT hZ w2) (mvT hZ w3) (mvT hZ w4) hy (own_backU (W := W) hM hZ hI w4 w3 hf hl) (g := g) hg hsize (argsL := argsL) (rest := rest) hlen hstack hW hdg (fun _ _ => ⟨rfl, eT, hc, hs⟩)
  dsimp only [Pt.U, Pt.locs, Pt.cells, Pt.slots] at X' l' y' z' st hQ hS' hgr
  subst l' y' z'
  exact ⟨v, T', Lc, X', foldS hS (by rw [eT]; exact hk0) hS' hgr, State.Warmed39.trans (t := s.setVm vm0) hZ hS'.1, by rw [show (s.setVm T'.vm).vm = T'.vm from rfl, hS'.1.alike.findClass]; exact hown, hQ, fun t k => st.trans k⟩
end Wide
end New
end Jvm.RoadKit
namespace Jvm.Pilot.@@N@@
open Jvm Jvm.ClassFile Sem Op Lib Jvm.Free Jvm.Stand Jvm.LawKit Jvm.RoadKit Bundle Jvm.Pilot.@@N@@.Jvm.D
set_option maxRecDepth 65536
set_option maxHeartbeats 40000000
abbrev HW (a0 : Array Value) (Z : State) : Prop := ∀ d ∈ tables_1, d.before a0 Z = true
theorem ww {Z : State} {a0 : Array Value} (hw : ∀ d ∈ tables_1, d.before a0 Z = true) (i : Nat) {d : Jvm.Cond} (h : tables_1[i]? = some d) : d.before a0 Z = true := hw _ (List.mem_of_getElem? h)
abbrev HSn : String := "com/example/nearterm/nearterm/retrieval/HighestScores"
abbrev Sh0 (p0 : Addr) (p1 : UInt64) : Array Slot := #[.val (.ref p0), .val (.double p1), .second]
theorem pn_com_example_nearterm_nearterm_retrieval_HighestScores : plainName "com/example/nearterm/nearterm/retrieval/HighestScores" = true := by first | (simp [plainName, overriddenIn]; done) | decide +kernel
theorem d4_0 : decode prog_43_method_2_code 0 = .ok (.aload_n 0, 1) := by decide +kernel
theorem d4_1 : decode prog_43_method_2_code 1 = .ok (.getfield 13, 3) := by decide +kernel
theorem d4_4 : decode prog_43_method_2_code 4 = .ok (.aload_n 0, 1) := by decide +kernel
theorem d4_5 : decode prog_43_method_2_code 5 = .ok (.getfield 7, 3) := by decide +kernel
theorem d4_8 : decode prog_43_method_2_code 8 = .ok (.arraylength, 1) := by decide +kernel
theorem d4_9 : decode prog_43_method_2_code 9 = .ok (.if_icmp .ge 31, 3) := by decide +kernel
theorem d4_12 : decode prog_43_method_2_code 12 = .ok (.aload_n 0, 1) := by decide +kernel
theorem d4_13 : decode prog_43_method_2_code 13 = .ok (.getfield 7, 3) := by decide +kernel
theorem d4_16 : decode prog_43_method_2_code 16 = .ok (.aload_n 0, 1) := by decide +kernel
theorem d4_17 : decode prog_43_method_2_code 17 = .ok (.getfield 13, 3) := by decide +kernel
theorem d4_20 : decode prog_43_method_2_code 20 = .ok (.dload_n 1, 1) := by decide +kernel
theorem d4_21 : decode prog_43_method_2_code 21 = .ok (.dastore, 1) := by decide +kernel
theorem d4_22 : decode prog_43_method_2_code 22 = .ok (.aload_n 0, 1) := by decide +kernel
theorem d4_23 : decode prog_43_method_2_code 23 = .ok (.aload_n 0, 1) := by decide +kernel
theorem d4_24 : decode prog_43_method_2_code 24 = .ok (.dup, 1) := by decide +kernel
theorem d4_25 : decode prog_43_method_2_code 25 = .ok (.getfield 13, 3) := by decide +kernel
theorem d4_28 : decode prog_43_method_2_code 28 = .ok (.dup_x1, 1) := by decide +kernel
theorem d4_29 : decode prog_43_method_2_code 29 = .ok (.iconst 1, 1) := by decide +kernel
theorem d4_30 : decode prog_43_method_2_code 30 = .ok (.iadd, 1) := by decide +kernel
theorem d4_31 : decode prog_43_method_2_code 31 = .ok (.putfield 13, 3) := by decide +kernel
abbrev Sh1 (p0 : Addr) (p1 : Int32) : Array Slot := #[.val (.ref p0), .val (.int p1), .unset, .unset]
theorem d5_0 : decode prog_43_method_4_code 0 = .ok (.aload_n 0, 1) := by decide +kernel
theorem d5_1 : decode prog_43_method_4_code 1 = .ok (.getfield 7, 3) := by decide +kernel
theorem d5_4 : decode prog_43_method_4_code 4 = .ok (.iload_n 1, 1) := by decide +kernel
theorem d5_5 : decode prog_43_method_4_code 5 = .ok (.daload, 1) := by decide +kernel
theorem d5_6 : decode prog_43_method_4_code 6 = .ok (.dstore_n 2, 1) := by decide +kernel
abbrev Sh2 (p0 : Addr) (p1 : Int32) (p2 : UInt64) : Array Slot := #[.val (.ref p0), .val (.int p1), .val (.double p2), .second]
theorem d5_7 : decode prog_43_method_4_code 7 = .ok (.iload_n 1, 1) := by decide +kernel
theorem d5_8 : decode prog_43_method_4_code 8 = .ok (.ifCond .le 43, 3) := by decide +kernel
theorem d5_51 : decode prog_43_method_4_code 51 = .ok (.aload_n 0, 1) := by decide +kernel
theorem d5_52 : decode prog_43_method_4_code 52 = .ok (.getfield 7, 3) := by decide +kernel
theorem d5_55 : decode prog_43_method_4_code 55 = .ok (.iload_n 1, 1) := by decide +kernel
theorem d5_56 : decode prog_43_method_4_code 56 = .ok (.dload_n 2, 1) := by decide +kernel
theorem d5_57 : decode prog_43_method_4_code 57 = .ok (.dastore, 1) := by decide +kernel
theorem d5_58 : decode prog_43_method_4_code 58 = .ok (.return_, 1) := by decide +kernel
abbrev Y5 : MethodName := ⟨"com/example/nearterm/nearterm/retrieval/HighestScores", "up", "(I)V"⟩
theorem pd_28I29V : parseMethodDescriptor "(I)V" = some ⟨[.int], none⟩ := by decide +kernel
theorem d4_34 : decode prog_43_method_2_code 34 = .ok (.invokevirtual 17, 3) := by decide +kernel
theorem d4_37 : decode prog_43_method_2_code 37 = .ok (.goto 26, 3) := by decide +kernel
theorem d4_63 : decode prog_43_method_2_code 63 = .ok (.return_, 1) := by decide +kernel
abbrev Y4 : MethodName := ⟨"com/example/nearterm/nearterm/retrieval/HighestScores", "offer", "(D)V"⟩
theorem d4_40 : decode prog_43_method_2_code 40 = .ok (.dload_n 1, 1) := by decide +kernel
theorem d4_41 : decode prog_43_method_2_code 41 = .ok (.aload_n 0, 1) := by decide +kernel
theorem d4_42 : decode prog_43_method_2_code 42 = .ok (.getfield 7, 3) := by decide +kernel
theorem d4_45 : decode prog_43_method_2_code 45 = .ok (.iconst 0, 1) := by decide +kernel
theorem d4_46 : decode prog_43_method_2_code 46 = .ok (.daload, 1) := by decide +kernel
theorem d4_47 : decode prog_43_method_2_code 47 = .ok (.dcmp .l, 1) := by decide +kernel
theorem d4_48 : decode prog_43_method_2_code 48 = .ok (.ifCond .le 15, 3) := by decide +kernel
theorem d4_51 : decode prog_43_method_2_code 51 = .ok (.aload_n 0, 1) := by decide +kernel
theorem d4_52 : decode prog_43_method_2_code 52 = .ok (.getfield 7, 3) := by decide +kernel
theorem d4_55 : decode prog_43_method_2_code 55 = .ok (.iconst 0, 1) := by decide +kernel
theorem d4_56 : decode prog_43_method_2_code 56 = .ok (.dload_n 1, 1) := by decide +kernel
theorem d4_57 : decode prog_43_method_2_code 57 = .ok (.dastore, 1) := by decide +kernel
theorem d4_58 : decode prog_43_method_2_code 58 = .ok (.aload_n 0, 1) := by decide +kernel
theorem d4_59 : decode prog_43_method_2_code 59 = .ok (.iconst 0, 1) := by decide +kernel
abbrev Sh3 (p0 : Addr) (p1 : Int32) : Array Slot := #[.val (.ref p0), .val (.int p1), .unset, .unset, .unset]
theorem d8_0 : decode prog_43_method_5_code 0 = .ok (.aload_n 0, 1) := by decide +kernel
theorem d8_1 : decode prog_43_method_5_code 1 = .ok (.getfield 7, 3) := by decide +kernel
theorem d8_4 : decode prog_43_method_5_code 4 = .ok (.iload_n 1, 1) := by decide +kernel
theorem d8_5 : decode prog_43_method_5_code 5 = .ok (.daload, 1) := by decide +kernel
theorem d8_6 : decode prog_43_method_5_code 6 = .ok (.dstore_n 2, 1) := by decide +kernel
abbrev Sh4 (p0 : Addr) (p1 : Int32) (p2 : UInt64) : Array Slot := #[.val (.ref p0), .val (.int p1), .val (.double p2), .second, .unset]
theorem d8_7 : decode prog_43_method_5_code 7 = .ok (.iconst 2, 1) := by decide +kernel
theorem d8_8 : decode prog_43_method_5_code 8 = .ok (.iload_n 1, 1) := by decide +kernel
theorem d8_9 : decode prog_43_method_5_code 9 = .ok (.imul, 1) := by decide +kernel
theorem d8_10 : decode prog_43_method_5_code 10 = .ok (.iconst 1, 1) := by decide +kernel
theorem d8_11 : decode prog_43_method_5_code 11 = .ok (.iadd, 1) := by decide +kernel
theorem d8_12 : decode prog_43_method_5_code 12 = .ok (.aload_n 0, 1) := by decide +kernel
theorem d8_13 : decode prog_43_method_5_code 13 = .ok (.getfield 13, 3) := by decide +kernel
theorem d8_16 : decode prog_43_method_5_code 16 = .ok (.if_icmp .ge 78, 3) := by decide +kernel
theorem d8_94 : decode prog_43_method_5_code 94 = .ok (.aload_n 0, 1) := by decide +kernel
theorem d8_95 : decode prog_43_method_5_code 95 = .ok (.getfield 7, 3) := by decide +kernel
theorem d8_98 : decode prog_43_method_5_code 98 = .ok (.iload_n 1, 1) := by decide +kernel
theorem d8_99 : decode prog_43_method_5_code 99 = .ok (.dload_n 2, 1) := by decide +kernel
theorem d8_100 : decode prog_43_method_5_code 100 = .ok (.dastore, 1) := by decide +kernel
theorem d8_101 : decode prog_43_method_5_code 101 = .ok (.return_, 1) := by decide +kernel
abbrev Y8 : MethodName := ⟨"com/example/nearterm/nearterm/retrieval/HighestScores", "down", "(I)V"⟩
theorem d4_60 : decode prog_43_method_2_code 60 = .ok (.invokevirtual 21, 3) := by decide +kernel
theorem d5_11 : decode prog_43_method_4_code 11 = .ok (.aload_n 0, 1) := by decide +kernel
theorem d5_12 : decode prog_43_method_4_code 12 = .ok (.getfield 7, 3) := by decide +kernel
theorem d5_15 : decode prog_43_method_4_code 15 = .ok (.iload_n 1, 1) := by decide +kernel
theorem d5_16 : decode prog_43_method_4_code 16 = .ok (.iconst 1, 1) := by decide +kernel
theorem d5_17 : decode prog_43_method_4_code 17 = .ok (.isub, 1) := by decide +kernel
theorem d5_18 : decode prog_43_method_4_code 18 = .ok (.iconst 2, 1) := by decide +kernel
theorem d5_19 : decode prog_43_method_4_code 19 = .ok (.idiv, 1) := by decide +kernel
theorem d5_20 : decode prog_43_method_4_code 20 = .ok (.daload, 1) := by decide +kernel
theorem d5_21 : decode prog_43_method_4_code 21 = .ok (.dload_n 2, 1) := by decide +kernel
theorem d5_22 : decode prog_43_method_4_code 22 = .ok (.dcmp .l, 1) := by decide +kernel
theorem d5_23 : decode prog_43_method_4_code 23 = .ok (.ifCond .le 28, 3) := by decide +kernel
theorem d5_26 : decode prog_43_method_4_code 26 = .ok (.aload_n 0, 1) := by decide +kernel
theorem d5_27 : decode prog_43_method_4_code 27 = .ok (.getfield 7, 3) := by decide +kernel
theorem d5_30 : decode prog_43_method_4_code 30 = .ok (.iload_n 1, 1) := by decide +kernel
theorem d5_31 : decode prog_43_method_4_code 31 = .ok (.aload_n 0, 1) := by decide +kernel
theorem d5_32 : decode prog_43_method_4_code 32 = .ok (.getfield 7, 3) := by decide +kernel
theorem d5_35 : decode prog_43_method_4_code 35 = .ok (.iload_n 1, 1) := by decide +kernel
theorem d5_36 : decode prog_43_method_4_code 36 = .ok (.iconst 1, 1) := by decide +kernel
theorem d5_37 : decode prog_43_method_4_code 37 = .ok (.isub, 1) := by decide +kernel
theorem d5_38 : decode prog_43_method_4_code 38 = .ok (.iconst 2, 1) := by decide +kernel
theorem d5_39 : decode prog_43_method_4_code 39 = .ok (.idiv, 1) := by decide +kernel
theorem d5_40 : decode prog_43_method_4_code 40 = .ok (.daload, 1) := by decide +kernel
theorem d5_41 : decode prog_43_method_4_code 41 = .ok (.dastore, 1) := by decide +kernel
theorem d5_42 : decode prog_43_method_4_code 42 = .ok (.iload_n 1, 1) := by decide +kernel
theorem d5_43 : decode prog_43_method_4_code 43 = .ok (.iconst 1, 1) := by decide +kernel
theorem d5_44 : decode prog_43_method_4_code 44 = .ok (.isub, 1) := by decide +kernel
theorem d5_45 : decode prog_43_method_4_code 45 = .ok (.iconst 2, 1) := by decide +kernel
theorem d5_46 : decode prog_43_method_4_code 46 = .ok (.idiv, 1) := by decide +kernel
theorem d5_47 : decode prog_43_method_4_code 47 = .ok (.istore_n 1, 1) := by decide +kernel
theorem d5_48 : decode prog_43_method_4_code 48 = .ok (.goto (-41), 3) := by decide +kernel
theorem d8_19 : decode prog_43_method_5_code 19 = .ok (.iconst 2, 1) := by decide +kernel
theorem d8_20 : decode prog_43_method_5_code 20 = .ok (.iload_n 1, 1) := by decide +kernel
theorem d8_21 : decode prog_43_method_5_code 21 = .ok (.imul, 1) := by decide +kernel
theorem d8_22 : decode prog_43_method_5_code 22 = .ok (.iconst 1, 1) := by decide +kernel
theorem d8_23 : decode prog_43_method_5_code 23 = .ok (.iadd, 1) := by decide +kernel
theorem d8_24 : decode prog_43_method_5_code 24 = .ok (.istore 4, 2) := by decide +kernel
abbrev Sh5 (p0 : Addr) (p1 : Int32) (p2 : UInt64) (p3 : Int32) : Array Slot := #[.val (.ref p0), .val (.int p1), .val (.double p2), .second, .val (.int p3)]
theorem d8_26 : decode prog_43_method_5_code 26 = .ok (.iload 4, 2) := by decide +kernel
theorem d8_28 : decode prog_43_method_5_code 28 = .ok (.iconst 1, 1) := by decide +kernel
theorem d8_29 : decode prog_43_method_5_code 29 = .ok (.iadd, 1) := by decide +kernel
theorem d8_30 : decode prog_43_method_5_code 30 = .ok (.aload_n 0, 1) := by decide +kernel
theorem d8_31 : decode prog_43_method_5_code 31 = .ok (.getfield 13, 3) := by decide +kernel
theorem d8_34 : decode prog_43_method_5_code 34 = .ok (.if_icmp .ge 26, 3) := by decide +kernel
theorem d8_60 : decode prog_43_method_5_code 60 = .ok (.aload_n 0, 1) := by decide +kernel
theorem d8_61 : decode prog_43_method_5_code 61 = .ok (.getfield 7, 3) := by decide +kernel
theorem d8_64 : decode prog_43_method_5_code 64 = .ok (.iload 4, 2) := by decide +kernel
theorem d8_66 : decode prog_43_method_5_code 66 = .ok (.daload, 1) := by decide +kernel
theorem d8_67 : decode prog_43_method_5_code 67 = .ok (.dload_n 2, 1) := by decide +kernel
theorem d8_68 : decode prog_43_method_5_code 68 = .ok (.dcmp .l, 1) := by decide +kernel
theorem d8_69 : decode prog_43_method_5_code 69 = .ok (.ifCond .lt 6, 3) := by decide +kernel
theorem d8_75 : decode prog_43_method_5_code 75 = .ok (.aload_n 0, 1) := by decide +kernel
theorem d8_76 : decode prog_43_method_5_code 76 = .ok (.getfield 7, 3) := by decide +kernel
theorem d8_79 : decode prog_43_method_5_code 79 = .ok (.iload_n 1, 1) := by decide +kernel
theorem d8_80 : decode prog_43_method_5_code 80 = .ok (.aload_n 0, 1) := by decide +kernel
theorem d8_81 : decode prog_43_method_5_code 81 = .ok (.getfield 7, 3) := by decide +kernel
theorem d8_84 : decode prog_43_method_5_code 84 = .ok (.iload 4, 2) := by decide +kernel
theorem d8_86 : decode prog_43_method_5_code 86 = .ok (.daload, 1) := by decide +kernel
theorem d8_87 : decode prog_43_method_5_code 87 = .ok (.dastore, 1) := by decide +kernel
theorem d8_88 : decode prog_43_method_5_code 88 = .ok (.iload 4, 2) := by decide +kernel
theorem d8_90 : decode prog_43_method_5_code 90 = .ok (.istore_n 1, 1) := by decide +kernel
theorem d8_91 : decode prog_43_method_5_code 91 = .ok (.goto (-84), 3) := by decide +kernel
theorem d8_72 : decode prog_43_method_5_code 72 = .ok (.goto 22, 3) := by decide +kernel
theorem d8_37 : decode prog_43_method_5_code 37 = .ok (.aload_n 0, 1) := by decide +kernel
theorem d8_38 : decode prog_43_method_5_code 38 = .ok (.getfield 7, 3) := by decide +kernel
theorem d8_41 : decode prog_43_method_5_code 41 = .ok (.iload 4, 2) := by decide +kernel
theorem d8_43 : decode prog_43_method_5_code 43 = .ok (.iconst 1, 1) := by decide +kernel
theorem d8_44 : decode prog_43_method_5_code 44 = .ok (.iadd, 1) := by decide +kernel
theorem d8_45 : decode prog_43_method_5_code 45 = .ok (.daload, 1) := by decide +kernel
theorem d8_46 : decode prog_43_method_5_code 46 = .ok (.aload_n 0, 1) := by decide +kernel
theorem d8_47 : decode prog_43_method_5_code 47 = .ok (.getfield 7, 3) := by decide +kernel
theorem d8_50 : decode prog_43_method_5_code 50 = .ok (.iload 4, 2) := by decide +kernel
theorem d8_52 : decode prog_43_method_5_code 52 = .ok (.daload, 1) := by decide +kernel
theorem d8_53 : decode prog_43_method_5_code 53 = .ok (.dcmp .g, 1) := by decide +kernel
theorem d8_54 : decode prog_43_method_5_code 54 = .ok (.ifCond .ge 6, 3) := by decide +kernel
theorem d8_57 : decode prog_43_method_5_code 57 = .ok (.iinc 4 1, 3) := by decide +kernel
abbrev Sh6 (p0 : Int64) (p1 : Int64) (p2 : Int64) (p3 : Int64) (p4 : Int64) (p5 : Int64) : Array Slot := #[.val (.long p0), .second, .val (.long p1), .second, .val (.long p2), .second, .val (.long p3), .second, .val (.long p4), .second, .val (.long p5), .second]
theorem pn_com_example_nearterm_nearterm_retrieval_HighestScoresLowestPinLaw : plainName "com/example/nearterm/nearterm/retrieval/HighestScoresLowestPinLaw" = true := by first | (simp [plainName, overriddenIn]; done) | decide +kernel
theorem d7_0 : decode method_3_code 0 = .ok (.lload_n 2, 1) := by decide +kernel
theorem d7_1 : decode method_3_code 1 = .ok (.lload_n 0, 1) := by decide +kernel
theorem d7_2 : decode method_3_code 2 = .ok (.lcmp, 1) := by decide +kernel
theorem d7_3 : decode method_3_code 3 = .ok (.ifCond .lt 7, 3) := by decide +kernel
theorem d7_10 : decode method_3_code 10 = .ok (.iconst 0, 1) := by decide +kernel
theorem d7_6 : decode method_3_code 6 = .ok (.iconst 1, 1) := by decide +kernel
theorem d7_7 : decode method_3_code 7 = .ok (.goto 4, 3) := by decide +kernel
theorem d7_11 : decode method_3_code 11 = .ok (.lload 4, 2) := by decide +kernel
theorem d7_13 : decode method_3_code 13 = .ok (.lload_n 0, 1) := by decide +kernel
theorem d7_14 : decode method_3_code 14 = .ok (.lcmp, 1) := by decide +kernel
theorem d7_15 : decode method_3_code 15 = .ok (.ifCond .lt 7, 3) := by decide +kernel
theorem d7_22 : decode method_3_code 22 = .ok (.iconst 0, 1) := by decide +kernel
theorem d7_18 : decode method_3_code 18 = .ok (.iconst 1, 1) := by decide +kernel
theorem d7_19 : decode method_3_code 19 = .ok (.goto 4, 3) := by decide +kernel
theorem d7_23 : decode method_3_code 23 = .ok (.iadd, 1) := by decide +kernel
theorem d7_24 : decode method_3_code 24 = .ok (.lload 6, 2) := by decide +kernel
theorem d7_26 : decode method_3_code 26 = .ok (.lload_n 0, 1) := by decide +kernel
theorem d7_27 : decode method_3_code 27 = .ok (.lcmp, 1) := by decide +kernel
theorem d7_28 : decode method_3_code 28 = .ok (.ifCond .lt 7, 3) := by decide +kernel
theorem d7_35 : decode method_3_code 35 = .ok (.iconst 0, 1) := by decide +kernel
theorem d7_31 : decode method_3_code 31 = .ok (.iconst 1, 1) := by decide +kernel
theorem d7_32 : decode method_3_code 32 = .ok (.goto 4, 3) := by decide +kernel
theorem d7_36 : decode method_3_code 36 = .ok (.iadd, 1) := by decide +kernel
theorem d7_37 : decode method_3_code 37 = .ok (.lload 8, 2) := by decide +kernel
theorem d7_39 : decode method_3_code 39 = .ok (.lload_n 0, 1) := by decide +kernel
theorem d7_40 : decode method_3_code 40 = .ok (.lcmp, 1) := by decide +kernel
theorem d7_41 : decode method_3_code 41 = .ok (.ifCond .lt 7, 3) := by decide +kernel
theorem d7_48 : decode method_3_code 48 = .ok (.iconst 0, 1) := by decide +kernel
theorem d7_44 : decode method_3_code 44 = .ok (.iconst 1, 1) := by decide +kernel
theorem d7_45 : decode method_3_code 45 = .ok (.goto 4, 3) := by decide +kernel
theorem d7_49 : decode method_3_code 49 = .ok (.iadd, 1) := by decide +kernel
theorem d7_50 : decode method_3_code 50 = .ok (.lload 10, 2) := by decide +kernel
theorem d7_52 : decode method_3_code 52 = .ok (.lload_n 0, 1) := by decide +kernel
theorem d7_53 : decode method_3_code 53 = .ok (.lcmp, 1) := by decide +kernel
theorem d7_54 : decode method_3_code 54 = .ok (.ifCond .lt 7, 3) := by decide +kernel
theorem d7_61 : decode method_3_code 61 = .ok (.iconst 0, 1) := by decide +kernel
theorem d7_57 : decode method_3_code 57 = .ok (.iconst 1, 1) := by decide +kernel
theorem d7_58 : decode method_3_code 58 = .ok (.goto 4, 3) := by decide +kernel
theorem d7_62 : decode method_3_code 62 = .ok (.iadd, 1) := by decide +kernel
theorem d7_63 : decode method_3_code 63 = .ok (.ireturn, 1) := by decide +kernel
abbrev Y7 : MethodName := ⟨"com/example/nearterm/nearterm/retrieval/HighestScoresLowestPinLaw", "atLeast", "(JJJJJJ)I"⟩
abbrev Sh7 (p0 : Int64) (p1 : Int64) (p2 : Int32) (p3 : Int64) (p4 : Int64) (p5 : Int64) (p6 : Int64) (p7 : Int64) : Array Slot := #[.val (.long p0), .second, .val (.long p1), .second, .val (.int p2), .val (.long p3), .second, .val (.long p4), .second, .val (.long p5), .second, .val (.long p6), .second, .val (.long p7), .second]
theorem d6_0 : decode method_4_code 0 = .ok (.lload_n 2, 1) := by decide +kernel
theorem d6_1 : decode method_4_code 1 = .ok (.lload 5, 2) := by decide +kernel
theorem d6_3 : decode method_4_code 3 = .ok (.lload 7, 2) := by decide +kernel
theorem d6_5 : decode method_4_code 5 = .ok (.lload 9, 2) := by decide +kernel
theorem d6_7 : decode method_4_code 7 = .ok (.lload 11, 2) := by decide +kernel
theorem d6_9 : decode method_4_code 9 = .ok (.lload 13, 2) := by decide +kernel
theorem pd_28JJJJJJ29I : parseMethodDescriptor "(JJJJJJ)I" = some ⟨[.long, .long, .long, .long, .long, .long], some .int⟩ := by decide +kernel
theorem d6_11 : decode method_4_code 11 = .ok (.invokestatic 34, 3) := by decide +kernel
theorem d6_14 : decode method_4_code 14 = .ok (.iload 4, 2) := by decide +kernel
theorem d6_16 : decode method_4_code 16 = .ok (.if_icmp .lt 11, 3) := by decide +kernel
theorem d6_27 : decode method_4_code 27 = .ok (.lload_n 0, 1) := by decide +kernel
theorem d6_28 : decode method_4_code 28 = .ok (.lreturn, 1) := by decide +kernel
theorem d6_19 : decode method_4_code 19 = .ok (.lload_n 2, 1) := by decide +kernel
theorem d6_20 : decode method_4_code 20 = .ok (.lload_n 0, 1) := by decide +kernel
theorem d6_21 : decode method_4_code 21 = .ok (.lcmp, 1) := by decide +kernel
theorem d6_22 : decode method_4_code 22 = .ok (.ifCond .le 5, 3) := by decide +kernel
theorem d6_25 : decode method_4_code 25 = .ok (.lload_n 2, 1) := by decide +kernel
theorem d6_26 : decode method_4_code 26 = .ok (.lreturn, 1) := by decide +kernel
abbrev Y6 : MethodName := ⟨"com/example/nearterm/nearterm/retrieval/HighestScoresLowestPinLaw", "pick", "(JJIJJJJJ)J"⟩
abbrev Sh8 (p0 : Int32) (p1 : Int32) (p2 : Int32) (p3 : Int32) (p4 : Int32) (p5 : Int32) : Array Slot := #[.val (.int p0), .val (.int p1), .val (.int p2), .val (.int p3), .val (.int p4), .val (.int p5), .unset, .unset, .unset, .unset, .unset, .unset, .unset, .unset, .unset, .unset, .unset, .unset, .unset, .unset, .unset, .unset, .unset, .unset, .unset]
abbrev Sh9 (p0 : Int32) (p1 : Int32) (p2 : Int32) (p3 : Int32) (p4 : Int32) (p5 : Int32) (p6 : Int32) : Array Slot := #[.val (.int p0), .val (.int p1), .val (.int p2), .val (.int p3), .val (.int p4), .val (.int p5), .val (.int p6), .unset, .unset, .unset, .unset, .unset, .unset, .unset, .unset, .unset, .unset, .unset, .unset, .unset, .unset, .unset, .unset, .unset, .unset]
abbrev Sh10 (p0 : Int32) (p1 : Int32) (p2 : Int32) (p3 : Int32) (p4 : Int32) (p5 : Int32) (p6 : Int32) (p7 : Int32) (p8 : Int64) (p9 : Int64) (p10 : Int64) (p11 : Int64) (p12 : Int64) (p13 : Int64) (p14 : Addr) (p15 : UInt64) : Array Slot := #[.val (.int p0), .val (.int p1), .val (.int p2), .val (.int p3), .val (.int p4), .val (.int p5), .val (.int p6), .val (.int p7), .val (.long p8), .second, .val (.long p9), .second, .val (.long p10), .second, .val (.long p11), .second, .val (.long p12), .second, .val (.long p13), .second, .val (.ref p14), .val (.double p15), .second, .unset, .unset]
abbrev Sh11 (p0 : Int32) (p1 : Int32) (p2 : Int32) (p3 : Int32) (p4 : Int32) (p5 : Int32) (p6 : Int32) (p7 : Int32) (p8 : Int64) (p9 : Int64) (p10 : Int64) (p11 : Int64) (p12 : Int64) (p13 : Int64) (p14 : Addr) (p15 : UInt64) (p16 : Int64) : Array Slot := #[.val (.int p0), .val (.int p1), .val (.int p2), .val (.int p3), .val (.int p4), .val (.int p5), .val (.int p6), .val (.int p7), .val (.long p8), .second, .val (.long p9), .second, .val (.long p10), .second, .val (.long p11), .second, .val (.long p12), .second, .val (.long p13), .second, .val (.ref p14), .val (.double p15), .second, .val (.long p16), .second]
theorem pd_28JJIJJJJJ29J : parseMethodDescriptor "(JJIJJJJJ)J" = some ⟨[.long, .long, .int, .long, .long, .long, .long, .long], some .long⟩ := by decide +kernel
abbrev Sh12 (p0 : Int32) (p1 : Int32) (p2 : Int32) (p3 : Int32) (p4 : Int32) (p5 : Int32) (p6 : Int32) (p7 : Int32) : Array Slot := #[.val (.int p0), .val (.int p1), .val (.int p2), .val (.int p3), .val (.int p4), .val (.int p5), .val (.int p6), .val (.int p7), .unset, .unset, .unset, .unset, .unset, .unset, .unset, .unset, .unset, .unset, .unset, .unset, .unset, .unset, .unset, .unset, .unset]
abbrev Sh13 (p0 : Int32) (p1 : Int32) (p2 : Int32) (p3 : Int32) (p4 : Int32) (p5 : Int32) (p6 : Int32) (p7 : Int32) (p8 : Int64) : Array Slot := #[.val (.int p0), .val (.int p1), .val (.int p2), .val (.int p3), .val (.int p4), .val (.int p5), .val (.int p6), .val (.int p7), .val (.long p8), .second, .unset, .unset, .unset, .unset, .unset, .unset, .unset, .unset, .unset, .unset, .unset, .unset, .unset, .unset, .unset]
abbrev Sh14 (p0 : Int32) (p1 : Int32) (p2 : Int32) (p3 : Int32) (p4 : Int32) (p5 : Int32) (p6 : Int32) (p7 : Int32) (p8 : Int64) (p9 : Int64) : Array Slot := #[.val (.int p0), .val (.int p1), .val (.int p2), .val (.int p3), .val (.int p4), .val (.int p5), .val (.int p6), .val (.int p7), .val (.long p8), .second, .val (.long p9), .second, .unset, .unset, .unset, .unset, .unset, .unset, .unset, .unset, .unset, .unset, .unset, .unset, .unset]
abbrev Sh15 (p0 : Int32) (p1 : Int32) (p2 : Int32) (p3 : Int32) (p4 : Int32) (p5 : Int32) (p6 : Int32) (p7 : Int32) (p8 : Int64) (p9 : Int64) (p10 : Int64) : Array Slot := #[.val (.int p0), .val (.int p1), .val (.int p2), .val (.int p3), .val (.int p4), .val (.int p5), .val (.int p6), .val (.int p7), .val (.long p8), .second, .val (.long p9), .second, .val (.long p10), .second, .unset, .unset, .unset, .unset, .unset, .unset, .unset, .unset, .unset, .unset, .unset]
abbrev Sh16 (p0 : Int32) (p1 : Int32) (p2 : Int32) (p3 : Int32) (p4 : Int32) (p5 : Int32) (p6 : Int32) (p7 : Int32) (p8 : Int64) (p9 : Int64) (p10 : Int64) (p11 : Int64) : Array Slot := #[.val (.int p0), .val (.int p1), .val (.int p2), .val (.int p3), .val (.int p4), .val (.int p5), .val (.int p6), .val (.int p7), .val (.long p8), .second, .val (.long p9), .second, .val (.long p10), .second, .val (.long p11), .second, .unset, .unset, .unset, .unset, .unset, .unset, .unset, .unset, .unset]
abbrev Sh17 (p0 : Int32) (p1 : Int32) (p2 : Int32) (p3 : Int32) (p4 : Int32) (p5 : Int32) (p6 : Int32) (p7 : Int32) (p8 : Int64) (p9 : Int64) (p10 : Int64) (p11 : Int64) (p12 : Int64) : Array Slot := #[.val (.int p0), .val (.int p1), .val (.int p2), .val (.int p3), .val (.int p4), .val (.int p5), .val (.int p6), .val (.int p7), .val (.long p8), .second, .val (.long p9), .second, .val (.long p10), .second, .val (.long p11), .second, .val (.long p12), .second, .unset, .unset, .unset, .unset, .unset, .unset, .unset]
abbrev Sh18 (p0 : Int32) (p1 : Int32) (p2 : Int32) (p3 : Int32) (p4 : Int32) (p5 : Int32) (p6 : Int32) (p7 : Int32) (p8 : Int64) (p9 : Int64) (p10 : Int64) (p11 : Int64) (p12 : Int64) (p13 : Int64) : Array Slot := #[.val (.int p0), .val (.int p1), .val (.int p2), .val (.int p3), .val (.int p4), .val (.int p5), .val (.int p6), .val (.int p7), .val (.long p8), .second, .val (.long p9), .second, .val (.long p10), .second, .val (.long p11), .second, .val (.long p12), .second, .val (.long p13), .second, .unset, .unset, .unset, .unset, .unset]
theorem d1_0 : decode prog_43_method_1_code 0 = .ok (.aload_n 0, 1) := by decide +kernel
theorem d1_1 : decode prog_43_method_1_code 1 = .ok (.invokespecial 1, 3) := by decide +kernel
theorem d1_4 : decode prog_43_method_1_code 4 = .ok (.aload_n 0, 1) := by decide +kernel
theorem d1_5 : decode prog_43_method_1_code 5 = .ok (.iload_n 1, 1) := by decide +kernel
theorem d1_6 : decode prog_43_method_1_code 6 = .ok (.newarray .double, 2) := by decide +kernel
theorem d1_8 : decode prog_43_method_1_code 8 = .ok (.putfield 7, 3) := by decide +kernel
theorem d1_11 : decode prog_43_method_1_code 11 = .ok (.return_, 1) := by decide +kernel
abbrev Y1 : MethodName := ⟨"com/example/nearterm/nearterm/retrieval/HighestScores", "<init>", "(I)V"⟩
abbrev Sh19 (p0 : Int32) (p1 : Int32) (p2 : Int32) (p3 : Int32) (p4 : Int32) (p5 : Int32) (p6 : Int32) (p7 : Int32) (p8 : Int64) (p9 : Int64) (p10 : Int64) (p11 : Int64) (p12 : Int64) (p13 : Int64) (p14 : Addr) : Array Slot := #[.val (.int p0), .val (.int p1), .val (.int p2), .val (.int p3), .val (.int p4), .val (.int p5), .val (.int p6), .val (.int p7), .val (.long p8), .second, .val (.long p9), .second, .val (.long p10), .second, .val (.long p11), .second, .val (.long p12), .second, .val (.long p13), .second, .val (.ref p14), .unset, .unset, .unset, .unset]
theorem d3_0 : decode prog_43_method_3_code 0 = .ok (.aload_n 0, 1) := by decide +kernel
theorem d3_1 : decode prog_43_method_3_code 1 = .ok (.getfield 13, 3) := by decide +kernel
theorem d3_4 : decode prog_43_method_3_code 4 = .ok (.aload_n 0, 1) := by decide +kernel
theorem d3_5 : decode prog_43_method_3_code 5 = .ok (.getfield 7, 3) := by decide +kernel
theorem d3_8 : decode prog_43_method_3_code 8 = .ok (.arraylength, 1) := by decide +kernel
theorem d3_9 : decode prog_43_method_3_code 9 = .ok (.if_icmp .ge 9, 3) := by decide +kernel
theorem d3_12 : decode prog_43_method_3_code 12 = .ok (.ldc2_w 26, 3) := by decide +kernel
theorem d3_15 : decode prog_43_method_3_code 15 = .ok (.goto 9, 3) := by decide +kernel
theorem d3_24 : decode prog_43_method_3_code 24 = .ok (.dreturn, 1) := by decide +kernel
abbrev Y3 : MethodName := ⟨"com/example/nearterm/nearterm/retrieval/HighestScores", "lowest", "()D"⟩
theorem pd_2829D : parseMethodDescriptor "()D" = some ⟨[], some .double⟩ := by decide +kernel
theorem pd_28D29V : parseMethodDescriptor "(D)V" = some ⟨[.double], none⟩ := by decide +kernel
theorem d3_18 : decode prog_43_method_3_code 18 = .ok (.aload_n 0, 1) := by decide +kernel
theorem d3_19 : decode prog_43_method_3_code 19 = .ok (.getfield 7, 3) := by decide +kernel
theorem d3_22 : decode prog_43_method_3_code 22 = .ok (.iconst 0, 1) := by decide +kernel
theorem d3_23 : decode prog_43_method_3_code 23 = .ok (.daload, 1) := by decide +kernel
def cn (z : Int) (v : Int32) : Int := if z ≤ v.toInt then 1 else 0
theorem own_cn (z : Int) (v : Int32) : (z ≤ v.toInt ∧ cn z v = 1) ∨ (v.toInt < z ∧ cn z v = 0) := by
  unfold cn; by_cases h : z ≤ v.toInt
  · exact Or.inl ⟨h, if_pos h⟩
  · exact Or.inr ⟨by omega, if_neg h⟩
theorem own_cne {w v : Int32} (h : v ≠ w) : cn w.toInt v = cn (w.toInt + 1) v := by
  have h' : v.toInt ≠ w.toInt := fun q => h (Int32.toInt_inj.mp q)
  rcases own_cn w.toInt v with a | a <;> rcases own_cn (w.toInt + 1) v with b | b <;> omega
def c64 (v p : Int64) : Int := if v.toInt ≤ p.toInt then 1 else 0
theorem own_c64i (v : Int64) (x : Int32) : c64 v (Int32.toInt64 x) = cn v.toInt x := by
  unfold c64 cn; rw [Int32.toInt_toInt64]
theorem own_c64m (x : Int32) : c64 (Int32.toInt64 x) (-9223372036854775808 : Int64) = 0 := by
  unfold c64; rw [Int32.toInt_toInt64]
  have h := rng32 x
  have e : (-9223372036854775808 : Int64).toInt = -9223372036854775808 := by decide
  rw [e]; exact if_neg (by omega)
theorem own_c64l (p : Int64) : c64 (-9223372036854775808 : Int64) p = 1 := by
  unfold c64
  have e : (-9223372036854775808 : Int64).toInt = -9223372036854775808 := by decide
  rw [e]; exact if_pos p.le_toInt
theorem own_k4 (x : Int32) : ((1 : Int32) + (x &&& (3 : Int32))) = (1 : Int32) ∨ ((1 : Int32) + (x &&& (3 : Int32))) = (2 : Int32) ∨ ((1 : Int32) + (x &&& (3 : Int32))) = (3 : Int32) ∨ ((1 : Int32) + (x &&& (3 : Int32))) = (4 : Int32) := by
  have h := c_and x 3 (by decide)
  generalize x &&& (3 : Int32) = u at *
  have e3 : (3 : Int32).toInt = 3 := by decide
  have e : u.toInt = 0 ∨ u.toInt = 1 ∨ u.toInt = 2 ∨ u.toInt = 3 := by omega
  rcases e with e | e | e | e
  · rw [show u = 0 from Int32.toInt_inj.mp e]; decide
  · rw [show u = 1 from Int32.toInt_inj.mp e]; decide
  · rw [show u = 2 from Int32.toInt_inj.mp e]; decide
  · rw [show u = 3 from Int32.toInt_inj.mp e]; decide
theorem own_n6 (x : Int32) : ((x &&& (7 : Int32)) % (6 : Int32)) = (0 : Int32) ∨ ((x &&& (7 : Int32)) % (6 : Int32)) = (1 : Int32) ∨ ((x &&& (7 : Int32)) % (6 : Int32)) = (2 : Int32) ∨ ((x &&& (7 : Int32)) % (6 : Int32)) = (3 : Int32) ∨ ((x &&& (7 : Int32)) % (6 : Int32)) = (4 : Int32) ∨ ((x &&& (7 : Int32)) % (6 : Int32)) = (5 : Int32) := by
  have h := c_and x 7 (by decide)
  generalize x &&& (7 : Int32) = u at *
  have e7 : (7 : Int32).toInt = 7 := by decide
  have e : u.toInt = 0 ∨ u.toInt = 1 ∨ u.toInt = 2 ∨ u.toInt = 3 ∨ u.toInt = 4 ∨ u.toInt = 5 ∨ u.toInt = 6 ∨ u.toInt = 7 := by omega
  rcases e with e | e | e | e | e | e | e | e
  · rw [show u = 0 from Int32.toInt_inj.mp e]; decide
  · rw [show u = 1 from Int32.toInt_inj.mp e]; decide
  · rw [show u = 2 from Int32.toInt_inj.mp e]; decide
  · rw [show u = 3 from Int32.toInt_inj.mp e]; decide
  · rw [show u = 4 from Int32.toInt_inj.mp e]; decide
  · rw [show u = 5 from Int32.toInt_inj.mp e]; decide
  · rw [show u = 6 from Int32.toInt_inj.mp e]; decide
  · rw [show u = 7 from Int32.toInt_inj.mp e]; decide
theorem own_lc (x : Int64) : lcmpW x x = 0 := by simp [lcmpW]
def Q5_1 (Z : State) (a1c a2c : Addr) (ka2c : ClassId) (x1c : UInt64) (x2c : Int32) (h0 : Heap) (n0 : Nat) (v : Option Value) (h : Heap) (L : List Loc) : Prop := v = none ∧ Fr n0 L ∧ (Keep h0 h [a2c]) ∧ (Arv Z h a2c ka2c .double 1 [(.double x1c)] (.double 0))
theorem rm5_1 (l : Launch) (Z : State) (a0 : Array Value) (hw : HW a0 Z) (a1c a2c : Addr) (ka2c : ClassId) (x1c : UInt64) (x2c : Int32) (h0 : Heap) (n0 : Nat) (P0 : Fld Z h0 a1c HSn "heap" "[D" (.ref a2c)) (P1 : Arv Z h0 a2c ka2c .double 1 [(.double x1c)] (.double 0)) (g_a2c : n0 ≤ a2c) (hx1c : x1c = FP.l2d (Int32.toInt64 x2c)) :
  MM l Z Y5 prog_43_method_4_code 4 none 0 0 0 0 #[(.ref a1c), (.int 0)] h0 (Q5_1 Z a1c a2c ka2c x1c x2c h0 n0) := by
 refine own_start (fun m => (mkF m 0 (Sh1 a1c 0) [])) (plainFor_of_name pn_com_example_nearterm_nearterm_retrieval_HighestScores) (by simp [entryFrame, mkF, argsToLocals, Value.category]) n0 ?_
 intro p e s m below meth c s₁ Bd hx B hml hZ hown hnm X0 e0 N0
 refine GoW.sg (mkF m 1 (Sh1 a1c 0) [(.ref a1c)]) (fun t k => XS.aloadN X0.here hx rfl (B d5_0) rfl rfl k) ?_
 obtain ⟨T13, X13, e13, st13⟩ := getF X0 hx hZ hown (host := "") (Or.inl (ww hw 11 rfl)) Via.refl e0 P0 (g := (mkF m 1 (Sh1 a1c 0) [(.ref a1c)])) rfl rfl (B d5_1)
 refine GoW.sg (mkF m 4 (Sh1 a1c 0) [(.ref a2c)]) (fun t k => st13 t k) ?_
 refine GoW.sg (mkF m 5 (Sh1 a1c 0) [(.int 0), (.ref a2c)]) (fun t k => XS.iloadN X13.here hx rfl (B d5_4) rfl k) ?_
 obtain ⟨cl14, Ar14, q14, Sz14, Nn14, Hh14, Gg14⟩ := id P1
 have hin14 : ¬ ((0 : Int32) < 0 ∨ cl14.slots.size ≤ ((0 : Int32)).toNatClampNeg) := inb_of Sz14 ⟨by decide, by decide⟩
 refine GoW.sg (mkF m 6 (Sh1 a1c 0) [(.double x1c)]) (fun t k => X13.daload hx (j := (0 : Int32)) (v := (.double x1c)) (hq_ e13 Ar14.1) (State.isArrayOf_alike hZ.alike Ar14.2.1) Ar14.2.2 hin14 (Hh14.at hin14 rfl) (g := (mkF m 5 (Sh1 a1c 0) [(.int 0), (.ref a2c)])) rfl rfl (B d5_5) t k) ?_
 refine GoW.sg (mkF m 52 (Sh2 a1c 0 x1c) [(.ref a1c)]) (fun t k => XS.dstoreN X13.here hx rfl (B d5_6) rfl (l' := (Sh2 a1c 0 x1c)) rfl (XS.iloadN X13.here hx rfl (B d5_7) rfl (XS.ifYes X13.here hx rfl (pc0 := 8) (pc' := 51) rfl (B d5_8) rfl (by decide) (by decide) (by decide) (XS.aloadN X13.here hx rfl (B d5_51) rfl rfl k)))) ?_
 obtain ⟨T15, X15, e15, st15⟩ := getF X13 hx hZ hown (host := "") (Or.inl (ww hw 11 rfl)) Via.refl e13 P0 (g := (mkF m 52 (Sh2 a1c 0 x1c) [(.ref a1c)])) rfl rfl (B d5_52)
 refine GoW.sg (mkF m 55 (Sh2 a1c 0 x1c) [(.ref a2c)]) (fun t k => st15 t k) ?_
 refine GoW.sg (mkF m 57 (Sh2 a1c 0 x1c) [(.double x1c), (.int 0), (.ref a2c)]) (fun t k => XS.iloadN X15.here hx rfl (B d5_55) rfl (XS.dloadN X15.here hx rfl (B d5_56) rfl k)) ?_
 obtain ⟨cl16, Ar16, q16, Sz16, Nn16, Hh16, Gg16⟩ := P1
 have hin16 : ¬ ((0 : Int32) < 0 ∨ cl16.slots.size ≤ ((0 : Int32)).toNatClampNeg) := inb_of Sz16 ⟨by decide, by decide⟩
 obtain ⟨T16, h16, X16, e16, W16, st16⟩ := stD X15 hx hZ e15 Ar16 (j := (0 : Int32)) hin16 (g := (mkF m 57 (Sh2 a1c 0 x1c) [(.double x1c), (.int 0), (.ref a2c)])) rfl rfl (B d5_57)
 have f16_1 := (Keep.refl h0 [a2c]).wr W16 (Or.inl (List.mem_of_getElem? (i := 0) rfl))
 have V16 : Arv Z h16 a2c ka2c .double (1 : Int32) [(.double x1c)] (.double (0 : UInt64)) := Arv.set Ar16 q16 Sz16 Nn16 Hh16 Gg16 rfl W16 0 rfl (Nat.le_of_ble_eq_true rfl)
 have N16 := Fr.snoc X16 N0 g_a2c
 refine GoW.sg (mkF m 58 (Sh2 a1c 0 x1c) []) (fun t k => st16 t k) ?_
 refine GoW.retV X16 hx Bd.returns (B d5_58) Bd.notSynchronized ?_ (by decide) (by decide)
 rw [e16]
 exact ⟨rfl, N16, f16_1, V16⟩
def QO10 (Z : State) (a1 : Addr) (dx : UInt64) (x : Int32) (a2 : Addr) (ka2 : ClassId) (h0 : Heap) (n0 : Nat) (v : Option Value) (h : Heap) (L : List Loc) : Prop := ∃ w0 : Int32, ∃ f0 : UInt64, v = none ∧ Fr n0 L ∧ (Keep h0 h [a1, a2]) ∧ (Exa Z h a1 HSn) ∧ (Fld Z h a1 HSn "size" "I" (.int 1)) ∧ (Fld Z h a1 HSn "heap" "[D" (.ref a2)) ∧ (Arv Z h a2 ka2 .double 1 [(.double f0)] (.double 0)) ∧ (f0 = FP.l2d (Int32.toInt64 w0) ∧ (True) ∧ (∀ z : Int, cn z w0 = cn z x))
theorem rmO10 (l : Launch) (Z : State) (a0 : Array Value) (hw : HW a0 Z) (a1 : Addr) (dx : UInt64) (x : Int32) (a2 : Addr) (ka2 : ClassId) (h0 : Heap) (n0 : Nat) (P0 : Exa Z h0 a1 HSn) (P1 : Fld Z h0 a1 HSn "size" "I" (.int 0)) (P2 : Fld Z h0 a1 HSn "heap" "[D" (.ref a2)) (P3 : Arv Z h0 a2 ka2 .double 1 [(.double 0)] (.double 0)) (g_a1 : n0 ≤ a1) (g_a2 : n0 ≤ a2) (ne_a1_a2 : a1 ≠ a2) (hdx : dx = FP.l2d (Int32.toInt64 x)) (hH : True) :
  MM l Z Y4 prog_43_method_2_code 3 none 1 0 0 15 #[(.ref a1), (.double dx)] h0 (QO10 Z a1 dx x a2 ka2 h0 n0) := by
 refine own_start (fun m => (mkF m 0 (Sh0 a1 dx) [])) (plainFor_of_name pn_com_example_nearterm_nearterm_retrieval_HighestScores) (by simp [entryFrame, mkF, argsToLocals, Value.category]) n0 ?_
 intro p e s m below meth c s₁ Bd hx B hml hZ hown hnm X0 e0 N0
 refine GoW.sg (mkF m 1 (Sh0 a1 dx) [(.ref a1)]) (fun t k => XS.aloadN X0.here hx rfl (B d4_0) rfl rfl k) ?_
 obtain ⟨T1, X1, e1, st1⟩ := getF X0 hx hZ hown (host := "") (Or.inl (ww hw 18 rfl)) Via.refl e0 P1 (g := (mkF m 1 (Sh0 a1 dx) [(.ref a1)])) rfl rfl (B d4_1)
 refine GoW.sg (mkF m 4 (Sh0 a1 dx) [(.int 0)]) (fun t k => st1 t k) ?_
 refine GoW.sg (mkF m 5 (Sh0 a1 dx) [(.ref a1), (.int 0)]) (fun t k => XS.aloadN X1.here hx rfl (B d4_4) rfl rfl k) ?_
 obtain ⟨T2, X2, e2, st2⟩ := getF X1 hx hZ hown (host := "") (Or.inl (ww hw 11 rfl)) Via.refl e1 P2 (g := (mkF m 5 (Sh0 a1 dx) [(.ref a1), (.int 0)])) rfl rfl (B d4_5)
 refine GoW.sg (mkF m 8 (Sh0 a1 dx) [(.ref a2), (.int 0)]) (fun t k => st2 t k) ?_
 obtain ⟨cl3, Ar3, q3, Sz3, Nn3, Hh3, Gg3⟩ := id P3
 have st3 := X2.arraylength hx (hq_ e2 Ar3.1) (State.isArrayOf_alike hZ.alike Ar3.2.1) (g := (mkF m 8 (Sh0 a1 dx) [(.ref a2), (.int 0)])) rfl rfl (B d4_8)
 rw [len_of Sz3 Nn3] at st3
 refine GoW.sg (mkF m 9 (Sh0 a1 dx) [(.int 1), (.int 0)]) (fun t k => st3 t k) ?_
 refine GoW.sg (mkF m 13 (Sh0 a1 dx) [(.ref a1)]) (fun t k => XS.icmpNo X2.here hx rfl (B d4_9) rfl (by decide) (XS.aloadN X2.here hx rfl (B d4_12) rfl rfl k)) ?_
 obtain ⟨T4, X4, e4, st4⟩ := getF X2 hx hZ hown (host := "") (Or.inl (ww hw 11 rfl)) Via.refl e2 P2 (g := (mkF m 13 (Sh0 a1 dx) [(.ref a1)])) rfl rfl (B d4_13)
 refine GoW.sg (mkF m 16 (Sh0 a1 dx) [(.ref a2)]) (fun t k => st4 t k) ?_
 refine GoW.sg (mkF m 17 (Sh0 a1 dx) [(.ref a1), (.ref a2)]) (fun t k => XS.aloadN X4.here hx rfl (B d4_16) rfl rfl k) ?_
 obtain ⟨T5, X5, e5, st5⟩ := getF X4 hx hZ hown (host := "") (Or.inl (ww hw 18 rfl)) Via.refl e4 P1 (g := (mkF m 17 (Sh0 a1 dx) [(.ref a1), (.ref a2)])) rfl rfl (B d4_17)
 refine GoW.sg (mkF m 20 (Sh0 a1 dx) [(.int 0), (.ref a2)]) (fun t k => st5 t k) ?_
 refine GoW.sg (mkF m 21 (Sh0 a1 dx) [(.double dx), (.int 0), (.ref a2)]) (fun t k => XS.dloadN X5.here hx rfl (B d4_20) rfl k) ?_
 obtain ⟨cl6, Ar6, q6, Sz6, Nn6, Hh6, Gg6⟩ := P3
 have hin6 : ¬ ((0 : Int32) < 0 ∨ cl6.slots.size ≤ ((0 : Int32)).toNatClampNeg) := inb_of Sz6 ⟨by decide, by decide⟩
 obtain ⟨T6, h6, X6, e6, W6, st6⟩ := stD X5 hx hZ e5 Ar6 (j := (0 : Int32)) hin6 (g := (mkF m 21 (Sh0 a1 dx) [(.double dx), (.int 0), (.ref a2)])) rfl rfl (B d4_21)
 have f6_1 := P0.wr W6
 have f6_2 := P1.other W6 (Or.inl ne_a1_a2)
 have f6_3 := P2.other W6 (Or.inl ne_a1_a2)
 have f6_4 := (Keep.refl h0 [a1, a2]).wr W6 (Or.inl (List.mem_of_getElem? (i := 1) rfl))
 have V6 : Arv Z h6 a2 ka2 .double (1 : Int32) [(.double dx)] (.double (0 : UInt64)) := Arv.set Ar6 q6 Sz6 Nn6 Hh6 Gg6 rfl W6 0 rfl (Nat.le_of_ble_eq_true rfl)
 have N6 := Fr.snoc X6 N0 g_a2
 refine GoW.sg (mkF m 22 (Sh0 a1 dx) []) (fun t k => st6 t k) ?_
 refine GoW.sg (mkF m 25 (Sh0 a1 dx) [(.ref a1), (.ref a1), (.ref a1)]) (fun t k => XS.aloadN X6.here hx rfl (B d4_22) rfl rfl (XS.aloadN X6.here hx rfl (B d4_23) rfl rfl (XS.dup X6.here hx rfl (B d4_24) rfl rfl k))) ?_
 obtain ⟨T7, X7, e7, st7⟩ := getF X6 hx hZ hown (host := "") (Or.inl (ww hw 18 rfl)) Via.refl e6 f6_2 (g := (mkF m 25 (Sh0 a1 dx) [(.ref a1), (.ref a1), (.ref a1)])) rfl rfl (B d4_25)
 refine GoW.sg (mkF m 28 (Sh0 a1 dx) [(.int 0), (.ref a1), (.ref a1)]) (fun t k => st7 t k) ?_
 refine GoW.sg (mkF m 29 (Sh0 a1 dx) [(.int 0), (.ref a1), (.int 0), (.ref a1)]) (fun t k => XT.dupX1 X7.here hx rfl (B d4_28) rfl rfl rfl k) ?_
 refine GoW.sg (mkF m 30 (Sh0 a1 dx) [(.int 1), (.int 0), (.ref a1), (.int 0), (.ref a1)]) (fun t k => XS.iconst X7.here hx rfl (B d4_29) k) ?_
 refine GoW.st (fun t k => XS.iadd X7.here hx rfl (B d4_30) rfl k) ?_
 rw [show ((0 : Int32) + (1 : Int32)) = (1 : Int32) from by decide]
 show GoW p e below s (QO10 Z a1 dx x a2 ka2 h0 n0) 0 0 (T7.setTop (mkF m 31 (Sh0 a1 dx) [(.int 1), (.ref a1), (.int 0), (.ref a1)]))
 obtain ⟨T8, h8, X8, e8, W8, st8⟩ := putF X7 hx hZ hown (host := "") (Or.inl (ww hw 18 rfl)) Via.refl e7 f6_2 f6_1 (Or.inl (ww hw 19 rfl)) (ww hw 2 rfl) (ty := .int) (by decide) rfl rfl (g := (mkF m 31 (Sh0 a1 dx) [(.int 1), (.ref a1), (.int 0), (.ref a1)])) rfl rfl (B d4_31)
 have N8 := Fr.snoc X8 N6 g_a1
 have f8_5 := f6_1.wr W8
 have f8_6 := f6_3.other W8 (Or.inr (slot_ne (t := (.array .double)) (t' := .int) (Or.inr (ww hw 12 rfl)) (Or.inl (ww hw 19 rfl)) (by decide) (by decide) (by decide)))
 have f8_7 := V6.other W8 (Ne.symm ne_a1_a2)
 have f8_8 := f6_4.wr W8 (Or.inl (List.mem_of_getElem? (i := 0) rfl))
 have F8size : Fld Z h8 a1 HSn "size" "I" (.int (1 : Int32)) := f6_2.same W8
 refine GoW.sg (mkF m 34 (Sh0 a1 dx) [(.int 0), (.ref a1)]) (fun t k => st8 t k) ?_
 obtain ⟨_, T17, L17, X17, hQ17, st17⟩ := own_priv X8 hx hZ (y := Y5) hown (ww hw 27 rfl) (ww hw 29 rfl) (ww hw 2 rfl) (ww hw 28 rfl) (ww hw 30 rfl) (ww hw 3 rfl) (by decide) 0 (a := a1) (rm5_1 l Z a0 hw a1 a2 ka2 dx x h8 n0 f8_6 f8_7 g_a2 hdx ) (by decide) (by decide) e8 f8_5 (by decide) (by decide) (g := (mkF m 34 (Sh0 a1 dx) [(.int 0), (.ref a1)])) rfl (by rw [hml]; rfl) (argsL := [(.int (0 : Int32))]) (rest := []) (lenOf pd_28I29V rfl) rfl (Nat.le_of_eq rfl) (B d4_34)
 obtain ⟨rfl, N17q, K17, p17_0⟩ := hQ17
 have N17 := Fr.app N8 N17q
 have f17_9 := f8_5.keep K17
 have f17_10 := F8size.keep K17 (ninS ne_a1_a2 nin0)
 have f17_11 := f8_6.keep K17 (ninS ne_a1_a2 nin0)
 have f17_12 := f8_8.trans K17 (allS (Or.inl (List.mem_of_getElem? (i := 1) rfl)) all0)
 refine GoW.sg (mkF m 37 (Sh0 a1 dx) []) (fun t k => st17 t k) ?_
 refine GoW.sg (mkF m 63 (Sh0 a1 dx) []) (fun t k => XS.goto X17.here hx rfl (pc0 := 37) (pc' := 63) rfl (B d4_37) (by decide) (by decide) k) ?_
 refine GoW.retV X17 hx Bd.returns (B d4_63) Bd.notSynchronized ?_ (by decide) (by decide)
 exact ⟨x, dx, rfl, N17, f17_12, f17_9, f17_10, f17_11, p17_0, hdx, by trivial, fun z => by omega⟩
def Q8_2 (Z : State) (a1c a2c : Addr) (ka2c : ClassId) (x1c : UInt64) (x2c : Int32) (h0 : Heap) (n0 : Nat) (v : Option Value) (h : Heap) (L : List Loc) : Prop := v = none ∧ Fr n0 L ∧ (Keep h0 h [a2c]) ∧ (Arv Z h a2c ka2c .double 1 [(.double x1c)] (.double 0))
theorem rm8_2 (l : Launch) (Z : State) (a0 : Array Value) (hw : HW a0 Z) (a1c a2c : Addr) (ka2c : ClassId) (x1c : UInt64) (x2c : Int32) (h0 : Heap) (n0 : Nat) (P0 : Fld Z h0 a1c HSn "heap" "[D" (.ref a2c)) (P1 : Fld Z h0 a1c HSn "size" "I" (.int 1)) (P2 : Arv Z h0 a2c ka2c .double 1 [(.double x1c)] (.double 0)) (g_a2c : n0 ≤ a2c) (hx1c : x1c = FP.l2d (Int32.toInt64 x2c)) :
  MM l Z Y8 prog_43_method_5_code 5 none 0 0 0 0 #[(.ref a1c), (.int 0)] h0 (Q8_2 Z a1c a2c ka2c x1c x2c h0 n0) := by
 refine own_start (fun m => (mkF m 0 (Sh3 a1c 0) [])) (plainFor_of_name pn_com_example_nearterm_nearterm_retrieval_HighestScores) (by simp [entryFrame, mkF, argsToLocals, Value.category]) n0 ?_
 intro p e s m below meth c s₁ Bd hx B hml hZ hown hnm X0 e0 N0
 refine GoW.sg (mkF m 1 (Sh3 a1c 0) [(.ref a1c)]) (fun t k => XS.aloadN X0.here hx rfl (B d8_0) rfl rfl k) ?_
 obtain ⟨T31, X31, e31, st31⟩ := getF X0 hx hZ hown (host := "") (Or.inl (ww hw 11 rfl)) Via.refl e0 P0 (g := (mkF m 1 (Sh3 a1c 0) [(.ref a1c)])) rfl rfl (B d8_1)
 refine GoW.sg (mkF m 4 (Sh3 a1c 0) [(.ref a2c)]) (fun t k => st31 t k) ?_
 refine GoW.sg (mkF m 5 (Sh3 a1c 0) [(.int 0), (.ref a2c)]) (fun t k => XS.iloadN X31.here hx rfl (B d8_4) rfl k) ?_
 obtain ⟨cl32, Ar32, q32, Sz32, Nn32, Hh32, Gg32⟩ := id P2
 have hin32 : ¬ ((0 : Int32) < 0 ∨ cl32.slots.size ≤ ((0 : Int32)).toNatClampNeg) := inb_of Sz32 ⟨by decide, by decide⟩
 refine GoW.sg (mkF m 6 (Sh3 a1c 0) [(.double x1c)]) (fun t k => X31.daload hx (j := (0 : Int32)) (v := (.double x1c)) (hq_ e31 Ar32.1) (State.isArrayOf_alike hZ.alike Ar32.2.1) Ar32.2.2 hin32 (Hh32.at hin32 rfl) (g := (mkF m 5 (Sh3 a1c 0) [(.int 0), (.ref a2c)])) rfl rfl (B d8_5) t k) ?_
 refine GoW.sg (mkF m 9 (Sh4 a1c 0 x1c) [(.int 0), (.int 2)]) (fun t k => XS.dstoreN X31.here hx rfl (B d8_6) rfl (l' := (Sh4 a1c 0 x1c)) rfl (XS.iconst X31.here hx rfl (B d8_7) (XS.iloadN X31.here hx rfl (B d8_8) rfl k))) ?_
 refine GoW.st (fun t k => XS.imul X31.here hx rfl (B d8_9) rfl k) ?_
 rw [show ((2 : Int32) * (0 : Int32)) = (0 : Int32) from by decide]
 show GoW p e below s (Q8_2 Z a1c a2c ka2c x1c x2c h0 n0) 0 0 (T31.setTop (mkF m 10 (Sh4 a1c 0 x1c) [(.int 0)]))
 refine GoW.sg (mkF m 11 (Sh4 a1c 0 x1c) [(.int 1), (.int 0)]) (fun t k => XS.iconst X31.here hx rfl (B d8_10) k) ?_
 refine GoW.st (fun t k => XS.iadd X31.here hx rfl (B d8_11) rfl k) ?_
 rw [show ((0 : Int32) + (1 : Int32)) = (1 : Int32) from by decide]
 show GoW p e below s (Q8_2 Z a1c a2c ka2c x1c x2c h0 n0) 0 0 (T31.setTop (mkF m 12 (Sh4 a1c 0 x1c) [(.int 1)]))
 refine GoW.sg (mkF m 13 (Sh4 a1c 0 x1c) [(.ref a1c), (.int 1)]) (fun t k => XS.aloadN X31.here hx rfl (B d8_12) rfl rfl k) ?_
 obtain ⟨T33, X33, e33, st33⟩ := getF X31 hx hZ hown (host := "") (Or.inl (ww hw 18 rfl)) Via.refl e31 P1 (g := (mkF m 13 (Sh4 a1c 0 x1c) [(.ref a1c), (.int 1)])) rfl rfl (B d8_13)
 refine GoW.sg (mkF m 16 (Sh4 a1c 0 x1c) [(.int 1), (.int 1)]) (fun t k => st33 t k) ?_
 refine GoW.sg (mkF m 95 (Sh4 a1c 0 x1c) [(.ref a1c)]) (fun t k => XS.icmpYes X33.here hx rfl (pc0 := 16) (pc' := 94) rfl (B d8_16) rfl (by decide) (by decide) (by decide) (XS.aloadN X33.here hx rfl (B d8_94) rfl rfl k)) ?_
 obtain ⟨T34, X34, e34, st34⟩ := getF X33 hx hZ hown (host := "") (Or.inl (ww hw 11 rfl)) Via.refl e33 P0 (g := (mkF m 95 (Sh4 a1c 0 x1c) [(.ref a1c)])) rfl rfl (B d8_95)
 refine GoW.sg (mkF m 98 (Sh4 a1c 0 x1c) [(.ref a2c)]) (fun t k => st34 t k) ?_
 refine GoW.sg (mkF m 100 (Sh4 a1c 0 x1c) [(.double x1c), (.int 0), (.ref a2c)]) (fun t k => XS.iloadN X34.here hx rfl (B d8_98) rfl (XS.dloadN X34.here hx rfl (B d8_99) rfl k)) ?_
 obtain ⟨cl35, Ar35, q35, Sz35, Nn35, Hh35, Gg35⟩ := P2
 have hin35 : ¬ ((0 : Int32) < 0 ∨ cl35.slots.size ≤ ((0 : Int32)).toNatClampNeg) := inb_of Sz35 ⟨by decide, by decide⟩
 obtain ⟨T35, h35, X35, e35, W35, st35⟩ := stD X34 hx hZ e34 Ar35 (j := (0 : Int32)) hin35 (g := (mkF m 100 (Sh4 a1c 0 x1c) [(.double x1c), (.int 0), (.ref a2c)])) rfl rfl (B d8_100)
 have f35_1 := (Keep.refl h0 [a2c]).wr W35 (Or.inl (List.mem_of_getElem? (i := 0) rfl))
 have V35 : Arv Z h35 a2c ka2c .double (1 : Int32) [(.double x1c)] (.double (0 : UInt64)) := Arv.set Ar35 q35 Sz35 Nn35 Hh35 Gg35 rfl W35 0 rfl (Nat.le_of_ble_eq_true rfl)
 have N35 := Fr.snoc X35 N0 g_a2c
 refine GoW.sg (mkF m 101 (Sh4 a1c 0 x1c) []) (fun t k => st35 t k) ?_
 refine GoW.retV X35 hx Bd.returns (B d8_101) Bd.notSynchronized ?_ (by decide) (by decide)
 rw [e35]
 exact ⟨rfl, N35, f35_1, V35⟩
def QO11 (Z : State) (a1 : Addr) (dx : UInt64) (x v0 : Int32) (d0 : UInt64) (a2 : Addr) (ka2 : ClassId) (h0 : Heap) (n0 : Nat) (v : Option Value) (h : Heap) (L : List Loc) : Prop := ∃ w0 : Int32, ∃ f0 : UInt64, v = none ∧ Fr n0 L ∧ (Keep h0 h [a1, a2]) ∧ (Exa Z h a1 HSn) ∧ (Fld Z h a1 HSn "size" "I" (.int 1)) ∧ (Fld Z h a1 HSn "heap" "[D" (.ref a2)) ∧ (Arv Z h a2 ka2 .double 1 [(.double f0)] (.double 0)) ∧ (f0 = FP.l2d (Int32.toInt64 w0) ∧ (True) ∧ (∀ z : Int, cn z w0 = min 1 (cn z v0 + cn z x)))
theorem rmO11 (l : Launch) (Z : State) (a0 : Array Value) (hw : HW a0 Z) (a1 : Addr) (dx : UInt64) (x v0 : Int32) (d0 : UInt64) (a2 : Addr) (ka2 : ClassId) (h0 : Heap) (n0 : Nat) (P0 : Exa Z h0 a1 HSn) (P1 : Fld Z h0 a1 HSn "size" "I" (.int 1)) (P2 : Fld Z h0 a1 HSn "heap" "[D" (.ref a2)) (P3 : Arv Z h0 a2 ka2 .double 1 [(.double d0)] (.double 0)) (g_a1 : n0 ≤ a1) (g_a2 : n0 ≤ a2) (ne_a1_a2 : a1 ≠ a2) (hd0 : d0 = FP.l2d (Int32.toInt64 v0)) (hdx : dx = FP.l2d (Int32.toInt64 x)) (hH : True) :
  MM l Z Y4 prog_43_method_2_code 3 none 1 0 0 16 #[(.ref a1), (.double dx)] h0 (QO11 Z a1 dx x v0 d0 a2 ka2 h0 n0) := by
 refine own_start (fun m => (mkF m 0 (Sh0 a1 dx) [])) (plainFor_of_name pn_com_example_nearterm_nearterm_retrieval_HighestScores) (by simp [entryFrame, mkF, argsToLocals, Value.category]) n0 ?_
 intro p e s m below meth c s₁ Bd hx B hml hZ hown hnm X0 e0 N0
 refine GoW.sg (mkF m 1 (Sh0 a1 dx) [(.ref a1)]) (fun t k => XS.aloadN X0.here hx rfl (B d4_0) rfl rfl k) ?_
 obtain ⟨T18, X18, e18, st18⟩ := getF X0 hx hZ hown (host := "") (Or.inl (ww hw 18 rfl)) Via.refl e0 P1 (g := (mkF m 1 (Sh0 a1 dx) [(.ref a1)])) rfl rfl (B d4_1)
 refine GoW.sg (mkF m 4 (Sh0 a1 dx) [(.int 1)]) (fun t k => st18 t k) ?_
 refine GoW.sg (mkF m 5 (Sh0 a1 dx) [(.ref a1), (.int 1)]) (fun t k => XS.aloadN X18.here hx rfl (B d4_4) rfl rfl k) ?_
 obtain ⟨T19, X19, e19, st19⟩ := getF X18 hx hZ hown (host := "") (Or.inl (ww hw 11 rfl)) Via.refl e18 P2 (g := (mkF m 5 (Sh0 a1 dx) [(.ref a1), (.int 1)])) rfl rfl (B d4_5)
 refine GoW.sg (mkF m 8 (Sh0 a1 dx) [(.ref a2), (.int 1)]) (fun t k => st19 t k) ?_
 obtain ⟨cl20, Ar20, q20, Sz20, Nn20, Hh20, Gg20⟩ := id P3
 have st20 := X19.arraylength hx (hq_ e19 Ar20.1) (State.isArrayOf_alike hZ.alike Ar20.2.1) (g := (mkF m 8 (Sh0 a1 dx) [(.ref a2), (.int 1)])) rfl rfl (B d4_8)
 rw [len_of Sz20 Nn20] at st20
 refine GoW.sg (mkF m 9 (Sh0 a1 dx) [(.int 1), (.int 1)]) (fun t k => st20 t k) ?_
 refine GoW.sg (mkF m 42 (Sh0 a1 dx) [(.ref a1), (.double dx)]) (fun t k => XS.icmpYes X19.here hx rfl (pc0 := 9) (pc' := 40) rfl (B d4_9) rfl (by decide) (by decide) (by decide) (XS.dloadN X19.here hx rfl (B d4_40) rfl (XS.aloadN X19.here hx rfl (B d4_41) rfl rfl k))) ?_
 obtain ⟨T21, X21, e21, st21⟩ := getF X19 hx hZ hown (host := "") (Or.inl (ww hw 11 rfl)) Via.refl e19 P2 (g := (mkF m 42 (Sh0 a1 dx) [(.ref a1), (.double dx)])) rfl rfl (B d4_42)
 refine GoW.sg (mkF m 45 (Sh0 a1 dx) [(.ref a2), (.double dx)]) (fun t k => st21 t k) ?_
 refine GoW.sg (mkF m 46 (Sh0 a1 dx) [(.int 0), (.ref a2), (.double dx)]) (fun t k => XS.iconst X21.here hx rfl (B d4_45) k) ?_
 obtain ⟨cl22, Ar22, q22, Sz22, Nn22, Hh22, Gg22⟩ := id P3
 have hin22 : ¬ ((0 : Int32) < 0 ∨ cl22.slots.size ≤ ((0 : Int32)).toNatClampNeg) := inb_of Sz22 ⟨by decide, by decide⟩
 refine GoW.sg (mkF m 47 (Sh0 a1 dx) [(.double d0), (.double dx)]) (fun t k => X21.daload hx (j := (0 : Int32)) (v := (.double d0)) (hq_ e21 Ar22.1) (State.isArrayOf_alike hZ.alike Ar22.2.1) Ar22.2.2 hin22 (Hh22.at hin22 rfl) (g := (mkF m 46 (Sh0 a1 dx) [(.int 0), (.ref a2), (.double dx)])) rfl rfl (B d4_46) t k) ?_
 refine GoW.sg (mkF m 48 (Sh0 a1 dx) [(.int (lcmpW (Int32.toInt64 x) (Int32.toInt64 v0)))]) (fun t k => XS.dcmpS X21.here hx rfl (B d4_47) rfl (v := (lcmpW (Int32.toInt64 x) (Int32.toInt64 v0))) (by rw [hdx, hd0]; exact dcmpV_w (own_b53 _) (own_b53 _) _) k) ?_
 by_cases c23 : (Int32.toInt64 v0) < (Int32.toInt64 x)
 ·refine GoW.sg (mkF m 52 (Sh0 a1 dx) [(.ref a1)]) (fun t k => XS.ifNo X21.here hx rfl (B d4_48) rfl ((if0 _ _).trans (tlt ((lw_gt _ _).mpr c23)).2.2.2) (XS.aloadN X21.here hx rfl (B d4_51) rfl rfl k)) ?_
  obtain ⟨T24, X24, e24, st24⟩ := getF X21 hx hZ hown (host := "") (Or.inl (ww hw 11 rfl)) Via.refl e21 P2 (g := (mkF m 52 (Sh0 a1 dx) [(.ref a1)])) rfl rfl (B d4_52)
  refine GoW.sg (mkF m 55 (Sh0 a1 dx) [(.ref a2)]) (fun t k => st24 t k) ?_
  refine GoW.sg (mkF m 57 (Sh0 a1 dx) [(.double dx), (.int 0), (.ref a2)]) (fun t k => XS.iconst X24.here hx rfl (B d4_55) (XS.dloadN X24.here hx rfl (B d4_56) rfl k)) ?_
  obtain ⟨cl25, Ar25, q25, Sz25, Nn25, Hh25, Gg25⟩ := P3
  have hin25 : ¬ ((0 : Int32) < 0 ∨ cl25.slots.size ≤ ((0 : Int32)).toNatClampNeg) := inb_of Sz25 ⟨by decide, by decide⟩
  obtain ⟨T25, h25, X25, e25, W25, st25⟩ := stD X24 hx hZ e24 Ar25 (j := (0 : Int32)) hin25 (g := (mkF m 57 (Sh0 a1 dx) [(.double dx), (.int 0), (.ref a2)])) rfl rfl (B d4_57)
  have f25_1 := P0.wr W25
  have f25_2 := P1.other W25 (Or.inl ne_a1_a2)
  have f25_3 := P2.other W25 (Or.inl ne_a1_a2)
  have f25_4 := (Keep.refl h0 [a1, a2]).wr W25 (Or.inl (List.mem_of_getElem? (i := 1) rfl))
  have V25 : Arv Z h25 a2 ka2 .double (1 : Int32) [(.double dx)] (.double (0 : UInt64)) := Arv.set Ar25 q25 Sz25 Nn25 Hh25 Gg25 rfl W25 0 rfl (Nat.le_of_ble_eq_true rfl)
  have N25 := Fr.snoc X25 N0 g_a2
  refine GoW.sg (mkF m 58 (Sh0 a1 dx) []) (fun t k => st25 t k) ?_
  refine GoW.sg (mkF m 60 (Sh0 a1 dx) [(.int 0), (.ref a1)]) (fun t k => XS.aloadN X25.here hx rfl (B d4_58) rfl rfl (XS.iconst X25.here hx rfl (B d4_59) k)) ?_
  obtain ⟨_, T36, L36, X36, hQ36, st36⟩ := own_priv X25 hx hZ (y := Y8) hown (ww hw 38 rfl) (ww hw 40 rfl) (ww hw 2 rfl) (ww hw 39 rfl) (ww hw 41 rfl) (ww hw 3 rfl) (by decide) 0 (a := a1) (rm8_2 l Z a0 hw a1 a2 ka2 dx x h25 n0 f25_3 f25_2 V25 g_a2 hdx ) (by decide) (by decide) e25 f25_1 (by decide) (by decide) (g := (mkF m 60 (Sh0 a1 dx) [(.int 0), (.ref a1)])) rfl (by rw [hml]; rfl) (argsL := [(.int (0 : Int32))]) (rest := []) (lenOf pd_28I29V rfl) rfl (Nat.le_of_eq rfl) (B d4_60)
  obtain ⟨rfl, N36q, K36, p36_0⟩ := hQ36
  have N36 := Fr.app N25 N36q
  have f36_5 := f25_1.keep K36
  have f36_6 := f25_2.keep K36 (ninS ne_a1_a2 nin0)
  have f36_7 := f25_3.keep K36 (ninS ne_a1_a2 nin0)
  have f36_8 := f25_4.trans K36 (allS (Or.inl (List.mem_of_getElem? (i := 1) rfl)) all0)
  refine GoW.sg (mkF m 63 (Sh0 a1 dx) []) (fun t k => st36 t k) ?_
  refine GoW.retV X36 hx Bd.returns (B d4_63) Bd.notSynchronized ?_ (by decide) (by decide)
  simp only [Int64.lt_iff_toInt_lt, Int32.toInt_toInt64] at c23
  exact ⟨x, dx, rfl, N36, f36_8, f36_5, f36_6, f36_7, p36_0, hdx, by trivial, fun z => by have _k0 := own_cn z v0; have _k1 := own_cn z x; omega⟩
 ·refine GoW.sg (mkF m 63 (Sh0 a1 dx) []) (fun t k => XS.ifYes X21.here hx rfl (pc0 := 48) (pc' := 63) rfl (B d4_48) rfl ((if0 _ _).trans (flt (mt (lw_gt _ _).mp c23)).2.2.2) (by decide) (by decide) k) ?_
  refine GoW.retV X21 hx Bd.returns (B d4_63) Bd.notSynchronized ?_ (by decide) (by decide)
  rw [e21]
  simp only [Int64.lt_iff_toInt_lt, Int32.toInt_toInt64] at c23
  exact ⟨v0, d0, rfl, N0, (Keep.refl h0 [a1, a2]), P0, P1, P2, P3, hd0, by trivial, fun z => by have _k0 := own_cn z v0; have _k1 := own_cn z x; omega⟩
def Q5_3 (Z : State) (a1c a2c : Addr) (ka2c : ClassId) (x1c : UInt64) (x2c : Int32) (h0 : Heap) (n0 : Nat) (v : Option Value) (h : Heap) (L : List Loc) : Prop := v = none ∧ Fr n0 L ∧ (Keep h0 h [a2c]) ∧ (Arv Z h a2c ka2c .double 2 [(.double x1c), (.double 0)] (.double 0))
theorem rm5_3 (l : Launch) (Z : State) (a0 : Array Value) (hw : HW a0 Z) (a1c a2c : Addr) (ka2c : ClassId) (x1c : UInt64) (x2c : Int32) (h0 : Heap) (n0 : Nat) (P0 : Fld Z h0 a1c HSn "heap" "[D" (.ref a2c)) (P1 : Arv Z h0 a2c ka2c .double 2 [(.double x1c), (.double 0)] (.double 0)) (g_a2c : n0 ≤ a2c) (hx1c : x1c = FP.l2d (Int32.toInt64 x2c)) :
  MM l Z Y5 prog_43_method_4_code 4 none 0 0 0 0 #[(.ref a1c), (.int 0)] h0 (Q5_3 Z a1c a2c ka2c x1c x2c h0 n0) := by
 refine own_start (fun m => (mkF m 0 (Sh1 a1c 0) [])) (plainFor_of_name pn_com_example_nearterm_nearterm_retrieval_HighestScores) (by simp [entryFrame, mkF, argsToLocals, Value.category]) n0 ?_
 intro p e s m below meth c s₁ Bd hx B hml hZ hown hnm X0 e0 N0
 refine GoW.sg (mkF m 1 (Sh1 a1c 0) [(.ref a1c)]) (fun t k => XS.aloadN X0.here hx rfl (B d5_0) rfl rfl k) ?_
 obtain ⟨T49, X49, e49, st49⟩ := getF X0 hx hZ hown (host := "") (Or.inl (ww hw 11 rfl)) Via.refl e0 P0 (g := (mkF m 1 (Sh1 a1c 0) [(.ref a1c)])) rfl rfl (B d5_1)
 refine GoW.sg (mkF m 4 (Sh1 a1c 0) [(.ref a2c)]) (fun t k => st49 t k) ?_
 refine GoW.sg (mkF m 5 (Sh1 a1c 0) [(.int 0), (.ref a2c)]) (fun t k => XS.iloadN X49.here hx rfl (B d5_4) rfl k) ?_
 obtain ⟨cl50, Ar50, q50, Sz50, Nn50, Hh50, Gg50⟩ := id P1
 have hin50 : ¬ ((0 : Int32) < 0 ∨ cl50.slots.size ≤ ((0 : Int32)).toNatClampNeg) := inb_of Sz50 ⟨by decide, by decide⟩
 refine GoW.sg (mkF m 6 (Sh1 a1c 0) [(.double x1c)]) (fun t k => X49.daload hx (j := (0 : Int32)) (v := (.double x1c)) (hq_ e49 Ar50.1) (State.isArrayOf_alike hZ.alike Ar50.2.1) Ar50.2.2 hin50 (Hh50.at hin50 rfl) (g := (mkF m 5 (Sh1 a1c 0) [(.int 0), (.ref a2c)])) rfl rfl (B d5_5) t k) ?_
 refine GoW.sg (mkF m 52 (Sh2 a1c 0 x1c) [(.ref a1c)]) (fun t k => XS.dstoreN X49.here hx rfl (B d5_6) rfl (l' := (Sh2 a1c 0 x1c)) rfl (XS.iloadN X49.here hx rfl (B d5_7) rfl (XS.ifYes X49.here hx rfl (pc0 := 8) (pc' := 51) rfl (B d5_8) rfl (by decide) (by decide) (by decide) (XS.aloadN X49.here hx rfl (B d5_51) rfl rfl k)))) ?_
 obtain ⟨T51, X51, e51, st51⟩ := getF X49 hx hZ hown (host := "") (Or.inl (ww hw 11 rfl)) Via.refl e49 P0 (g := (mkF m 52 (Sh2 a1c 0 x1c) [(.ref a1c)])) rfl rfl (B d5_52)
 refine GoW.sg (mkF m 55 (Sh2 a1c 0 x1c) [(.ref a2c)]) (fun t k => st51 t k) ?_
 refine GoW.sg (mkF m 57 (Sh2 a1c 0 x1c) [(.double x1c), (.int 0), (.ref a2c)]) (fun t k => XS.iloadN X51.here hx rfl (B d5_55) rfl (XS.dloadN X51.here hx rfl (B d5_56) rfl k)) ?_
 obtain ⟨cl52, Ar52, q52, Sz52, Nn52, Hh52, Gg52⟩ := P1
 have hin52 : ¬ ((0 : Int32) < 0 ∨ cl52.slots.size ≤ ((0 : Int32)).toNatClampNeg) := inb_of Sz52 ⟨by decide, by decide⟩
 obtain ⟨T52, h52, X52, e52, W52, st52⟩ := stD X51 hx hZ e51 Ar52 (j := (0 : Int32)) hin52 (g := (mkF m 57 (Sh2 a1c 0 x1c) [(.double x1c), (.int 0), (.ref a2c)])) rfl rfl (B d5_57)
 have f52_1 := (Keep.refl h0 [a2c]).wr W52 (Or.inl (List.mem_of_getElem? (i := 0) rfl))
 have V52 : Arv Z h52 a2c ka2c .double (2 : Int32) [(.double x1c), (.double (0 : UInt64))] (.double (0 : UInt64)) := Arv.set Ar52 q52 Sz52 Nn52 Hh52 Gg52 rfl W52 0 rfl (Nat.le_of_ble_eq_true rfl)
 have N52 := Fr.snoc X52 N0 g_a2c
 refine GoW.sg (mkF m 58 (Sh2 a1c 0 x1c) []) (fun t k => st52 t k) ?_
 refine GoW.retV X52 hx Bd.returns (B d5_58) Bd.notSynchronized ?_ (by decide) (by decide)
 rw [e52]
 exact ⟨rfl, N52, f52_1, V52⟩
def QO20 (Z : State) (a1 : Addr) (dx : UInt64) (x : Int32) (a2 : Addr) (ka2 : ClassId) (h0 : Heap) (n0 : Nat) (v : Option Value) (h : Heap) (L : List Loc) : Prop := ∃ w0 : Int32, ∃ f0 : UInt64, v = none ∧ Fr n0 L ∧ (Keep h0 h [a1, a2]) ∧ (Exa Z h a1 HSn) ∧ (Fld Z h a1 HSn "size" "I" (.int 1)) ∧ (Fld Z h a1 HSn "heap" "[D" (.ref a2)) ∧ (Arv Z h a2 ka2 .double 2 [(.double f0), (.double 0)] (.double 0)) ∧ (f0 = FP.l2d (Int32.toInt64 w0) ∧ (True) ∧ (∀ z : Int, cn z w0 = cn z x))
theorem rmO20 (l : Launch) (Z : State) (a0 : Array Value) (hw : HW a0 Z) (a1 : Addr) (dx : UInt64) (x : Int32) (a2 : Addr) (ka2 : ClassId) (h0 : Heap) (n0 : Nat) (P0 : Exa Z h0 a1 HSn) (P1 : Fld Z h0 a1 HSn "size" "I" (.int 0)) (P2 : Fld Z h0 a1 HSn "heap" "[D" (.ref a2)) (P3 : Arv Z h0 a2 ka2 .double 2 [(.double 0), (.double 0)] (.double 0)) (g_a1 : n0 ≤ a1) (g_a2 : n0 ≤ a2) (ne_a1_a2 : a1 ≠ a2) (hdx : dx = FP.l2d (Int32.toInt64 x)) (hH : True) :
  MM l Z Y4 prog_43_method_2_code 3 none 1 0 0 15 #[(.ref a1), (.double dx)] h0 (QO20 Z a1 dx x a2 ka2 h0 n0) := by
 refine own_start (fun m => (mkF m 0 (Sh0 a1 dx) [])) (plainFor_of_name pn_com_example_nearterm_nearterm_retrieval_HighestScores) (by simp [entryFrame, mkF, argsToLocals, Value.category]) n0 ?_
 intro p e s m below meth c s₁ Bd hx B hml hZ hown hnm X0 e0 N0
 refine GoW.sg (mkF m 1 (Sh0 a1 dx) [(.ref a1)]) (fun t k => XS.aloadN X0.here hx rfl (B d4_0) rfl rfl k) ?_
 obtain ⟨T37, X37, e37, st37⟩ := getF X0 hx hZ hown (host := "") (Or.inl (ww hw 18 rfl)) Via.refl e0 P1 (g := (mkF m 1 (Sh0 a1 dx) [(.ref a1)])) rfl rfl (B d4_1)
 refine GoW.sg (mkF m 4 (Sh0 a1 dx) [(.int 0)]) (fun t k => st37 t k) ?_
 refine GoW.sg (mkF m 5 (Sh0 a1 dx) [(.ref a1), (.int 0)]) (fun t k => XS.aloadN X37.here hx rfl (B d4_4) rfl rfl k) ?_
 obtain ⟨T38, X38, e38, st38⟩ := getF X37 hx hZ hown (host := "") (Or.inl (ww hw 11 rfl)) Via.refl e37 P2 (g := (mkF m 5 (Sh0 a1 dx) [(.ref a1), (.int 0)])) rfl rfl (B d4_5)
 refine GoW.sg (mkF m 8 (Sh0 a1 dx) [(.ref a2), (.int 0)]) (fun t k => st38 t k) ?_
 obtain ⟨cl39, Ar39, q39, Sz39, Nn39, Hh39, Gg39⟩ := id P3
 have st39 := X38.arraylength hx (hq_ e38 Ar39.1) (State.isArrayOf_alike hZ.alike Ar39.2.1) (g := (mkF m 8 (Sh0 a1 dx) [(.ref a2), (.int 0)])) rfl rfl (B d4_8)
 rw [len_of Sz39 Nn39] at st39
 refine GoW.sg (mkF m 9 (Sh0 a1 dx) [(.int 2), (.int 0)]) (fun t k => st39 t k) ?_
 refine GoW.sg (mkF m 13 (Sh0 a1 dx) [(.ref a1)]) (fun t k => XS.icmpNo X38.here hx rfl (B d4_9) rfl (by decide) (XS.aloadN X38.here hx rfl (B d4_12) rfl rfl k)) ?_
 obtain ⟨T40, X40, e40, st40⟩ := getF X38 hx hZ hown (host := "") (Or.inl (ww hw 11 rfl)) Via.refl e38 P2 (g := (mkF m 13 (Sh0 a1 dx) [(.ref a1)])) rfl rfl (B d4_13)
 refine GoW.sg (mkF m 16 (Sh0 a1 dx) [(.ref a2)]) (fun t k => st40 t k) ?_
 refine GoW.sg (mkF m 17 (Sh0 a1 dx) [(.ref a1), (.ref a2)]) (fun t k => XS.aloadN X40.here hx rfl (B d4_16) rfl rfl k) ?_
 obtain ⟨T41, X41, e41, st41⟩ := getF X40 hx hZ hown (host := "") (Or.inl (ww hw 18 rfl)) Via.refl e40 P1 (g := (mkF m 17 (Sh0 a1 dx) [(.ref a1), (.ref a2)])) rfl rfl (B d4_17)
 refine GoW.sg (mkF m 20 (Sh0 a1 dx) [(.int 0), (.ref a2)]) (fun t k => st41 t k) ?_
 refine GoW.sg (mkF m 21 (Sh0 a1 dx) [(.double dx), (.int 0), (.ref a2)]) (fun t k => XS.dloadN X41.here hx rfl (B d4_20) rfl k) ?_
 obtain ⟨cl42, Ar42, q42, Sz42, Nn42, Hh42, Gg42⟩ := P3
 have hin42 : ¬ ((0 : Int32) < 0 ∨ cl42.slots.size ≤ ((0 : Int32)).toNatClampNeg) := inb_of Sz42 ⟨by decide, by decide⟩
 obtain ⟨T42, h42, X42, e42, W42, st42⟩ := stD X41 hx hZ e41 Ar42 (j := (0 : Int32)) hin42 (g := (mkF m 21 (Sh0 a1 dx) [(.double dx), (.int 0), (.ref a2)])) rfl rfl (B d4_21)
 have f42_1 := P0.wr W42
 have f42_2 := P1.other W42 (Or.inl ne_a1_a2)
 have f42_3 := P2.other W42 (Or.inl ne_a1_a2)
 have f42_4 := (Keep.refl h0 [a1, a2]).wr W42 (Or.inl (List.mem_of_getElem? (i := 1) rfl))
 have V42 : Arv Z h42 a2 ka2 .double (2 : Int32) [(.double dx), (.double (0 : UInt64))] (.double (0 : UInt64)) := Arv.set Ar42 q42 Sz42 Nn42 Hh42 Gg42 rfl W42 0 rfl (Nat.le_of_ble_eq_true rfl)
 have N42 := Fr.snoc X42 N0 g_a2
 refine GoW.sg (mkF m 22 (Sh0 a1 dx) []) (fun t k => st42 t k) ?_
 refine GoW.sg (mkF m 25 (Sh0 a1 dx) [(.ref a1), (.ref a1), (.ref a1)]) (fun t k => XS.aloadN X42.here hx rfl (B d4_22) rfl rfl (XS.aloadN X42.here hx rfl (B d4_23) rfl rfl (XS.dup X42.here hx rfl (B d4_24) rfl rfl k))) ?_
 obtain ⟨T43, X43, e43, st43⟩ := getF X42 hx hZ hown (host := "") (Or.inl (ww hw 18 rfl)) Via.refl e42 f42_2 (g := (mkF m 25 (Sh0 a1 dx) [(.ref a1), (.ref a1), (.ref a1)])) rfl rfl (B d4_25)
 refine GoW.sg (mkF m 28 (Sh0 a1 dx) [(.int 0), (.ref a1), (.ref a1)]) (fun t k => st43 t k) ?_
 refine GoW.sg (mkF m 29 (Sh0 a1 dx) [(.int 0), (.ref a1), (.int 0), (.ref a1)]) (fun t k => XT.dupX1 X43.here hx rfl (B d4_28) rfl rfl rfl k) ?_
 refine GoW.sg (mkF m 30 (Sh0 a1 dx) [(.int 1), (.int 0), (.ref a1), (.int 0), (.ref a1)]) (fun t k => XS.iconst X43.here hx rfl (B d4_29) k) ?_
 refine GoW.st (fun t k => XS.iadd X43.here hx rfl (B d4_30) rfl k) ?_
 rw [show ((0 : Int32) + (1 : Int32)) = (1 : Int32) from by decide]
 show GoW p e below s (QO20 Z a1 dx x a2 ka2 h0 n0) 0 0 (T43.setTop (mkF m 31 (Sh0 a1 dx) [(.int 1), (.ref a1), (.int 0), (.ref a1)]))
 obtain ⟨T44, h44, X44, e44, W44, st44⟩ := putF X43 hx hZ hown (host := "") (Or.inl (ww hw 18 rfl)) Via.refl e43 f42_2 f42_1 (Or.inl (ww hw 19 rfl)) (ww hw 2 rfl) (ty := .int) (by decide) rfl rfl (g := (mkF m 31 (Sh0 a1 dx) [(.int 1), (.ref a1), (.int 0), (.ref a1)])) rfl rfl (B d4_31)
 have N44 := Fr.snoc X44 N42 g_a1
 have f44_5 := f42_1.wr W44
 have f44_6 := f42_3.other W44 (Or.inr (slot_ne (t := (.array .double)) (t' := .int) (Or.inr (ww hw 12 rfl)) (Or.inl (ww hw 19 rfl)) (by decide) (by decide) (by decide)))
 have f44_7 := V42.other W44 (Ne.symm ne_a1_a2)
 have f44_8 := f42_4.wr W44 (Or.inl (List.mem_of_getElem? (i := 0) rfl))
 have F44size : Fld Z h44 a1 HSn "size" "I" (.int (1 : Int32)) := f42_2.same W44
 refine GoW.sg (mkF m 34 (Sh0 a1 dx) [(.int 0), (.ref a1)]) (fun t k => st44 t k) ?_
 obtain ⟨_, T53, L53, X53, hQ53, st53⟩ := own_priv X44 hx hZ (y := Y5) hown (ww hw 27 rfl) (ww hw 29 rfl) (ww hw 2 rfl) (ww hw 28 rfl) (ww hw 30 rfl) (ww hw 3 rfl) (by decide) 0 (a := a1) (rm5_3 l Z a0 hw a1 a2 ka2 dx x h44 n0 f44_6 f44_7 g_a2 hdx ) (by decide) (by decide) e44 f44_5 (by decide) (by decide) (g := (mkF m 34 (Sh0 a1 dx) [(.int 0), (.ref a1)])) rfl (by rw [hml]; rfl) (argsL := [(.int (0 : Int32))]) (rest := []) (lenOf pd_28I29V rfl) rfl (Nat.le_of_eq rfl) (B d4_34)
 obtain ⟨rfl, N53q, K53, p53_0⟩ := hQ53
 have N53 := Fr.app N44 N53q
 have f53_9 := f44_5.keep K53
 have f53_10 := F44size.keep K53 (ninS ne_a1_a2 nin0)
 have f53_11 := f44_6.keep K53 (ninS ne_a1_a2 nin0)
 have f53_12 := f44_8.trans K53 (allS (Or.inl (List.mem_of_getElem? (i := 1) rfl)) all0)
 refine GoW.sg (mkF m 37 (Sh0 a1 dx) []) (fun t k => st53 t k) ?_
 refine GoW.sg (mkF m 63 (Sh0 a1 dx) []) (fun t k => XS.goto X53.here hx rfl (pc0 := 37) (pc' := 63) rfl (B d4_37) (by decide) (by decide) k) ?_
 refine GoW.retV X53 hx Bd.returns (B d4_63) Bd.notSynchronized ?_ (by decide) (by decide)
 exact ⟨x, dx, rfl, N53, f53_12, f53_9, f53_10, f53_11, p53_0, hdx, by trivial, fun z => by omega⟩
def Q5_4 (Z : State) (a1c a2c : Addr) (ka2c : ClassId) (x1c x2c : UInt64) (x3c x4c : Int32) (h0 : Heap) (n0 : Nat) (v : Option Value) (h : Heap) (L : List Loc) : Prop := v = none ∧ Fr n0 L ∧ (Keep h0 h [a2c]) ∧ (Arv Z h a2c ka2c .double 2 [(.double x2c), (.double x1c)] (.double 0))
theorem rm5_4 (l : Launch) (Z : State) (a0 : Array Value) (hw : HW a0 Z) (a1c a2c : Addr) (ka2c : ClassId) (x1c x2c : UInt64) (x3c x4c : Int32) (h0 : Heap) (n0 : Nat) (P0 : Fld Z h0 a1c HSn "heap" "[D" (.ref a2c)) (P1 : Arv Z h0 a2c ka2c .double 2 [(.double x1c), (.double x2c)] (.double 0)) (g_a2c : n0 ≤ a2c) (ne_a1c_a2c : a1c ≠ a2c) (u0 : (Int32.toInt64 x3c) < (Int32.toInt64 x4c)) (hx1c : x1c = FP.l2d (Int32.toInt64 x4c)) (hx2c : x2c = FP.l2d (Int32.toInt64 x3c)) :
  MM l Z Y5 prog_43_method_4_code 4 none 0 0 0 0 #[(.ref a1c), (.int 1)] h0 (Q5_4 Z a1c a2c ka2c x1c x2c x3c x4c h0 n0) := by
 refine own_start (fun m => (mkF m 0 (Sh1 a1c 1) [])) (plainFor_of_name pn_com_example_nearterm_nearterm_retrieval_HighestScores) (by simp [entryFrame, mkF, argsToLocals, Value.category]) n0 ?_
 intro p e s m below meth c s₁ Bd hx B hml hZ hown hnm X0 e0 N0
 refine GoW.sg (mkF m 1 (Sh1 a1c 1) [(.ref a1c)]) (fun t k => XS.aloadN X0.here hx rfl (B d5_0) rfl rfl k) ?_
 obtain ⟨T77, X77, e77, st77⟩ := getF X0 hx hZ hown (host := "") (Or.inl (ww hw 11 rfl)) Via.refl e0 P0 (g := (mkF m 1 (Sh1 a1c 1) [(.ref a1c)])) rfl rfl (B d5_1)
 refine GoW.sg (mkF m 4 (Sh1 a1c 1) [(.ref a2c)]) (fun t k => st77 t k) ?_
 refine GoW.sg (mkF m 5 (Sh1 a1c 1) [(.int 1), (.ref a2c)]) (fun t k => XS.iloadN X77.here hx rfl (B d5_4) rfl k) ?_
 obtain ⟨cl78, Ar78, q78, Sz78, Nn78, Hh78, Gg78⟩ := id P1
 have hin78 : ¬ ((1 : Int32) < 0 ∨ cl78.slots.size ≤ ((1 : Int32)).toNatClampNeg) := inb_of Sz78 ⟨by decide, by decide⟩
 refine GoW.sg (mkF m 6 (Sh1 a1c 1) [(.double x2c)]) (fun t k => X77.daload hx (j := (1 : Int32)) (v := (.double x2c)) (hq_ e77 Ar78.1) (State.isArrayOf_alike hZ.alike Ar78.2.1) Ar78.2.2 hin78 (Hh78.at hin78 rfl) (g := (mkF m 5 (Sh1 a1c 1) [(.int 1), (.ref a2c)])) rfl rfl (B d5_5) t k) ?_
 refine GoW.sg (mkF m 12 (Sh2 a1c 1 x2c) [(.ref a1c)]) (fun t k => XS.dstoreN X77.here hx rfl (B d5_6) rfl (l' := (Sh2 a1c 1 x2c)) rfl (XS.iloadN X77.here hx rfl (B d5_7) rfl (XS.ifNo X77.here hx rfl (B d5_8) rfl (by decide) (XS.aloadN X77.here hx rfl (B d5_11) rfl rfl k)))) ?_
 obtain ⟨T79, X79, e79, st79⟩ := getF X77 hx hZ hown (host := "") (Or.inl (ww hw 11 rfl)) Via.refl e77 P0 (g := (mkF m 12 (Sh2 a1c 1 x2c) [(.ref a1c)])) rfl rfl (B d5_12)
 refine GoW.sg (mkF m 15 (Sh2 a1c 1 x2c) [(.ref a2c)]) (fun t k => st79 t k) ?_
 refine GoW.sg (mkF m 17 (Sh2 a1c 1 x2c) [(.int 1), (.int 1), (.ref a2c)]) (fun t k => XS.iloadN X79.here hx rfl (B d5_15) rfl (XS.iconst X79.here hx rfl (B d5_16) k)) ?_
 refine GoW.st (fun t k => XS.isub X79.here hx rfl (B d5_17) rfl k) ?_
 rw [show ((1 : Int32) - (1 : Int32)) = (0 : Int32) from by decide]
 show GoW p e below s (Q5_4 Z a1c a2c ka2c x1c x2c x3c x4c h0 n0) 0 0 (T79.setTop (mkF m 18 (Sh2 a1c 1 x2c) [(.int 0), (.ref a2c)]))
 refine GoW.sg (mkF m 19 (Sh2 a1c 1 x2c) [(.int 2), (.int 0), (.ref a2c)]) (fun t k => XS.iconst X79.here hx rfl (B d5_18) k) ?_
 refine GoW.st (fun t k => XS.idiv X79.here hx rfl (B d5_19) rfl (by decide) k) ?_
 rw [show ((0 : Int32) / (2 : Int32)) = (0 : Int32) from by decide]
 show GoW p e below s (Q5_4 Z a1c a2c ka2c x1c x2c x3c x4c h0 n0) 0 0 (T79.setTop (mkF m 20 (Sh2 a1c 1 x2c) [(.int 0), (.ref a2c)]))
 obtain ⟨cl80, Ar80, q80, Sz80, Nn80, Hh80, Gg80⟩ := id P1
 have hin80 : ¬ ((0 : Int32) < 0 ∨ cl80.slots.size ≤ ((0 : Int32)).toNatClampNeg) := inb_of Sz80 ⟨by decide, by decide⟩
 refine GoW.sg (mkF m 21 (Sh2 a1c 1 x2c) [(.double x1c)]) (fun t k => X79.daload hx (j := (0 : Int32)) (v := (.double x1c)) (hq_ e79 Ar80.1) (State.isArrayOf_alike hZ.alike Ar80.2.1) Ar80.2.2 hin80 (Hh80.at hin80 rfl) (g := (mkF m 20 (Sh2 a1c 1 x2c) [(.int 0), (.ref a2c)])) rfl rfl (B d5_20) t k) ?_
 refine GoW.sg (mkF m 27 (Sh2 a1c 1 x2c) [(.ref a1c)]) (fun t k => XS.dloadN X79.here hx rfl (B d5_21) rfl (XS.dcmpS X79.here hx rfl (B d5_22) rfl (v := (lcmpW (Int32.toInt64 x4c) (Int32.toInt64 x3c))) (by rw [hx1c, hx2c]; exact dcmpV_w (own_b53 _) (own_b53 _) _) (XS.ifNo X79.here hx rfl (B d5_23) rfl ((if0 _ _).trans (tlt ((lw_gt _ _).mpr u0)).2.2.2) (XS.aloadN X79.here hx rfl (B d5_26) rfl rfl k)))) ?_
 obtain ⟨T81, X81, e81, st81⟩ := getF X79 hx hZ hown (host := "") (Or.inl (ww hw 11 rfl)) Via.refl e79 P0 (g := (mkF m 27 (Sh2 a1c 1 x2c) [(.ref a1c)])) rfl rfl (B d5_27)
 refine GoW.sg (mkF m 30 (Sh2 a1c 1 x2c) [(.ref a2c)]) (fun t k => st81 t k) ?_
 refine GoW.sg (mkF m 32 (Sh2 a1c 1 x2c) [(.ref a1c), (.int 1), (.ref a2c)]) (fun t k => XS.iloadN X81.here hx rfl (B d5_30) rfl (XS.aloadN X81.here hx rfl (B d5_31) rfl rfl k)) ?_
 obtain ⟨T82, X82, e82, st82⟩ := getF X81 hx hZ hown (host := "") (Or.inl (ww hw 11 rfl)) Via.refl e81 P0 (g := (mkF m 32 (Sh2 a1c 1 x2c) [(.ref a1c), (.int 1), (.ref a2c)])) rfl rfl (B d5_32)
 refine GoW.sg (mkF m 35 (Sh2 a1c 1 x2c) [(.ref a2c), (.int 1), (.ref a2c)]) (fun t k => st82 t k) ?_
 refine GoW.sg (mkF m 37 (Sh2 a1c 1 x2c) [(.int 1), (.int 1), (.ref a2c), (.int 1), (.ref a2c)]) (fun t k => XS.iloadN X82.here hx rfl (B d5_35) rfl (XS.iconst X82.here hx rfl (B d5_36) k)) ?_
 refine GoW.st (fun t k => XS.isub X82.here hx rfl (B d5_37) rfl k) ?_
 rw [show ((1 : Int32) - (1 : Int32)) = (0 : Int32) from by decide]
 show GoW p e below s (Q5_4 Z a1c a2c ka2c x1c x2c x3c x4c h0 n0) 0 0 (T82.setTop (mkF m 38 (Sh2 a1c 1 x2c) [(.int 0), (.ref a2c), (.int 1), (.ref a2c)]))
 refine GoW.sg (mkF m 39 (Sh2 a1c 1 x2c) [(.int 2), (.int 0), (.ref a2c), (.int 1), (.ref a2c)]) (fun t k => XS.iconst X82.here hx rfl (B d5_38) k) ?_
 refine GoW.st (fun t k => XS.idiv X82.here hx rfl (B d5_39) rfl (by decide) k) ?_
 rw [show ((0 : Int32) / (2 : Int32)) = (0 : Int32) from by decide]
 show GoW p e below s (Q5_4 Z a1c a2c ka2c x1c x2c x3c x4c h0 n0) 0 0 (T82.setTop (mkF m 40 (Sh2 a1c 1 x2c) [(.int 0), (.ref a2c), (.int 1), (.ref a2c)]))
 obtain ⟨cl83, Ar83, q83, Sz83, Nn83, Hh83, Gg83⟩ := id P1
 have hin83 : ¬ ((0 : Int32) < 0 ∨ cl83.slots.size ≤ ((0 : Int32)).toNatClampNeg) := inb_of Sz83 ⟨by decide, by decide⟩
 refine GoW.sg (mkF m 41 (Sh2 a1c 1 x2c) [(.double x1c), (.int 1), (.ref a2c)]) (fun t k => X82.daload hx (j := (0 : Int32)) (v := (.double x1c)) (hq_ e82 Ar83.1) (State.isArrayOf_alike hZ.alike Ar83.2.1) Ar83.2.2 hin83 (Hh83.at hin83 rfl) (g := (mkF m 40 (Sh2 a1c 1 x2c) [(.int 0), (.ref a2c), (.int 1), (.ref a2c)])) rfl rfl (B d5_40) t k) ?_
 obtain ⟨cl84, Ar84, q84, Sz84, Nn84, Hh84, Gg84⟩ := P1
 have hin84 : ¬ ((1 : Int32) < 0 ∨ cl84.slots.size ≤ ((1 : Int32)).toNatClampNeg) := inb_of Sz84 ⟨by decide, by decide⟩
 obtain ⟨T84, h84, X84, e84, W84, st84⟩ := stD X82 hx hZ e82 Ar84 (j := (1 : Int32)) hin84 (g := (mkF m 41 (Sh2 a1c 1 x2c) [(.double x1c), (.int 1), (.ref a2c)])) rfl rfl (B d5_41)
 have f84_1 := P0.other W84 (Or.inl ne_a1c_a2c)
 have f84_2 := (Keep.refl h0 [a2c]).wr W84 (Or.inl (List.mem_of_getElem? (i := 0) rfl))
 have V84 : Arv Z h84 a2c ka2c .double (2 : Int32) [(.double x1c), (.double x1c)] (.double (0 : UInt64)) := Arv.set Ar84 q84 Sz84 Nn84 Hh84 Gg84 rfl W84 1 rfl (Nat.le_of_ble_eq_true rfl)
 have N84 := Fr.snoc X84 N0 g_a2c
 refine GoW.sg (mkF m 42 (Sh2 a1c 1 x2c) []) (fun t k => st84 t k) ?_
 refine GoW.sg (mkF m 44 (Sh2 a1c 1 x2c) [(.int 1), (.int 1)]) (fun t k => XS.iloadN X84.here hx rfl (B d5_42) rfl (XS.iconst X84.here hx rfl (B d5_43) k)) ?_
 refine GoW.st (fun t k => XS.isub X84.here hx rfl (B d5_44) rfl k) ?_
 rw [show ((1 : Int32) - (1 : Int32)) = (0 : Int32) from by decide]
 show GoW p e below s (Q5_4 Z a1c a2c ka2c x1c x2c x3c x4c h0 n0) 0 0 (T84.setTop (mkF m 45 (Sh2 a1c 1 x2c) [(.int 0)]))
 refine GoW.sg (mkF m 46 (Sh2 a1c 1 x2c) [(.int 2), (.int 0)]) (fun t k => XS.iconst X84.here hx rfl (B d5_45) k) ?_
 refine GoW.st (fun t k => XS.idiv X84.here hx rfl (B d5_46) rfl (by decide) k) ?_
 rw [show ((0 : Int32) / (2 : Int32)) = (0 : Int32) from by decide]
 show GoW p e below s (Q5_4 Z a1c a2c ka2c x1c x2c x3c x4c h0 n0) 0 0 (T84.setTop (mkF m 47 (Sh2 a1c 1 x2c) [(.int 0)]))
 refine GoW.sg (mkF m 52 (Sh2 a1c 0 x2c) [(.ref a1c)]) (fun t k => XS.istoreN X84.here hx rfl (B d5_47) rfl (l' := (Sh2 a1c 0 x2c)) rfl (XS.goto X84.here hx rfl (pc0 := 48) (pc' := 7) rfl (B d5_48) (by decide) (by decide) (XS.iloadN X84.here hx rfl (B d5_7) rfl (XS.ifYes X84.here hx rfl (pc0 := 8) (pc' := 51) rfl (B d5_8) rfl (by decide) (by decide) (by decide) (XS.aloadN X84.here hx rfl (B d5_51) rfl rfl k))))) ?_
 obtain ⟨T85, X85, e85, st85⟩ := getF X84 hx hZ hown (host := "") (Or.inl (ww hw 11 rfl)) Via.refl e84 f84_1 (g := (mkF m 52 (Sh2 a1c 0 x2c) [(.ref a1c)])) rfl rfl (B d5_52)
 refine GoW.sg (mkF m 55 (Sh2 a1c 0 x2c) [(.ref a2c)]) (fun t k => st85 t k) ?_
 refine GoW.sg (mkF m 57 (Sh2 a1c 0 x2c) [(.double x2c), (.int 0), (.ref a2c)]) (fun t k => XS.iloadN X85.here hx rfl (B d5_55) rfl (XS.dloadN X85.here hx rfl (B d5_56) rfl k)) ?_
 obtain ⟨cl86, Ar86, q86, Sz86, Nn86, Hh86, Gg86⟩ := V84
 have hin86 : ¬ ((0 : Int32) < 0 ∨ cl86.slots.size ≤ ((0 : Int32)).toNatClampNeg) := inb_of Sz86 ⟨by decide, by decide⟩
 obtain ⟨T86, h86, X86, e86, W86, st86⟩ := stD X85 hx hZ e85 Ar86 (j := (0 : Int32)) hin86 (g := (mkF m 57 (Sh2 a1c 0 x2c) [(.double x2c), (.int 0), (.ref a2c)])) rfl rfl (B d5_57)
 have f86_4 := f84_2.wr W86 (Or.inl (List.mem_of_getElem? (i := 0) rfl))
 have V86 : Arv Z h86 a2c ka2c .double (2 : Int32) [(.double x2c), (.double x1c)] (.double (0 : UInt64)) := Arv.set Ar86 q86 Sz86 Nn86 Hh86 Gg86 rfl W86 0 rfl (Nat.le_of_ble_eq_true rfl)
 have N86 := Fr.snoc X86 N84 g_a2c
 refine GoW.sg (mkF m 58 (Sh2 a1c 0 x2c) []) (fun t k => st86 t k) ?_
 refine GoW.retV X86 hx Bd.returns (B d5_58) Bd.notSynchronized ?_ (by decide) (by decide)
 rw [e86]
 exact ⟨rfl, N86, f86_4, V86⟩
def Q5_5 (Z : State) (a1c a2c : Addr) (ka2c : ClassId) (x1c x2c : UInt64) (x3c x4c : Int32) (h0 : Heap) (n0 : Nat) (v : Option Value) (h : Heap) (L : List Loc) : Prop := v = none ∧ Fr n0 L ∧ (Keep h0 h [a2c]) ∧ (Arv Z h a2c ka2c .double 2 [(.double x1c), (.double x2c)] (.double 0))
theorem rm5_5 (l : Launch) (Z : State) (a0 : Array Value) (hw : HW a0 Z) (a1c a2c : Addr) (ka2c : ClassId) (x1c x2c : UInt64) (x3c x4c : Int32) (h0 : Heap) (n0 : Nat) (P0 : Fld Z h0 a1c HSn "heap" "[D" (.ref a2c)) (P1 : Arv Z h0 a2c ka2c .double 2 [(.double x1c), (.double x2c)] (.double 0)) (g_a2c : n0 ≤ a2c) (u0 : ¬ ((Int32.toInt64 x3c) < (Int32.toInt64 x4c))) (hx1c : x1c = FP.l2d (Int32.toInt64 x4c)) (hx2c : x2c = FP.l2d (Int32.toInt64 x3c)) :
  MM l Z Y5 prog_43_method_4_code 4 none 0 0 0 0 #[(.ref a1c), (.int 1)] h0 (Q5_5 Z a1c a2c ka2c x1c x2c x3c x4c h0 n0) := by
 refine own_start (fun m => (mkF m 0 (Sh1 a1c 1) [])) (plainFor_of_name pn_com_example_nearterm_nearterm_retrieval_HighestScores) (by simp [entryFrame, mkF, argsToLocals, Value.category]) n0 ?_
 intro p e s m below meth c s₁ Bd hx B hml hZ hown hnm X0 e0 N0
 refine GoW.sg (mkF m 1 (Sh1 a1c 1) [(.ref a1c)]) (fun t k => XS.aloadN X0.here hx rfl (B d5_0) rfl rfl k) ?_
 obtain ⟨T94, X94, e94, st94⟩ := getF X0 hx hZ hown (host := "") (Or.inl (ww hw 11 rfl)) Via.refl e0 P0 (g := (mkF m 1 (Sh1 a1c 1) [(.ref a1c)])) rfl rfl (B d5_1)
 refine GoW.sg (mkF m 4 (Sh1 a1c 1) [(.ref a2c)]) (fun t k => st94 t k) ?_
 refine GoW.sg (mkF m 5 (Sh1 a1c 1) [(.int 1), (.ref a2c)]) (fun t k => XS.iloadN X94.here hx rfl (B d5_4) rfl k) ?_
 obtain ⟨cl95, Ar95, q95, Sz95, Nn95, Hh95, Gg95⟩ := id P1
 have hin95 : ¬ ((1 : Int32) < 0 ∨ cl95.slots.size ≤ ((1 : Int32)).toNatClampNeg) := inb_of Sz95 ⟨by decide, by decide⟩
 refine GoW.sg (mkF m 6 (Sh1 a1c 1) [(.double x2c)]) (fun t k => X94.daload hx (j := (1 : Int32)) (v := (.double x2c)) (hq_ e94 Ar95.1) (State.isArrayOf_alike hZ.alike Ar95.2.1) Ar95.2.2 hin95 (Hh95.at hin95 rfl) (g := (mkF m 5 (Sh1 a1c 1) [(.int 1), (.ref a2c)])) rfl rfl (B d5_5) t k) ?_
 refine GoW.sg (mkF m 12 (Sh2 a1c 1 x2c) [(.ref a1c)]) (fun t k => XS.dstoreN X94.here hx rfl (B d5_6) rfl (l' := (Sh2 a1c 1 x2c)) rfl (XS.iloadN X94.here hx rfl (B d5_7) rfl (XS.ifNo X94.here hx rfl (B d5_8) rfl (by decide) (XS.aloadN X94.here hx rfl (B d5_11) rfl rfl k)))) ?_
 obtain ⟨T96, X96, e96, st96⟩ := getF X94 hx hZ hown (host := "") (Or.inl (ww hw 11 rfl)) Via.refl e94 P0 (g := (mkF m 12 (Sh2 a1c 1 x2c) [(.ref a1c)])) rfl rfl (B d5_12)
 refine GoW.sg (mkF m 15 (Sh2 a1c 1 x2c) [(.ref a2c)]) (fun t k => st96 t k) ?_
 refine GoW.sg (mkF m 17 (Sh2 a1c 1 x2c) [(.int 1), (.int 1), (.ref a2c)]) (fun t k => XS.iloadN X96.here hx rfl (B d5_15) rfl (XS.iconst X96.here hx rfl (B d5_16) k)) ?_
 refine GoW.st (fun t k => XS.isub X96.here hx rfl (B d5_17) rfl k) ?_
 rw [show ((1 : Int32) - (1 : Int32)) = (0 : Int32) from by decide]
 show GoW p e below s (Q5_5 Z a1c a2c ka2c x1c x2c x3c x4c h0 n0) 0 0 (T96.setTop (mkF m 18 (Sh2 a1c 1 x2c) [(.int 0), (.ref a2c)]))
 refine GoW.sg (mkF m 19 (Sh2 a1c 1 x2c) [(.int 2), (.int 0), (.ref a2c)]) (fun t k => XS.iconst X96.here hx rfl (B d5_18) k) ?_
 refine GoW.st (fun t k => XS.idiv X96.here hx rfl (B d5_19) rfl (by decide) k) ?_
 rw [show ((0 : Int32) / (2 : Int32)) = (0 : Int32) from by decide]
 show GoW p e below s (Q5_5 Z a1c a2c ka2c x1c x2c x3c x4c h0 n0) 0 0 (T96.setTop (mkF m 20 (Sh2 a1c 1 x2c) [(.int 0), (.ref a2c)]))
 obtain ⟨cl97, Ar97, q97, Sz97, Nn97, Hh97, Gg97⟩ := id P1
 have hin97 : ¬ ((0 : Int32) < 0 ∨ cl97.slots.size ≤ ((0 : Int32)).toNatClampNeg) := inb_of Sz97 ⟨by decide, by decide⟩
 refine GoW.sg (mkF m 21 (Sh2 a1c 1 x2c) [(.double x1c)]) (fun t k => X96.daload hx (j := (0 : Int32)) (v := (.double x1c)) (hq_ e96 Ar97.1) (State.isArrayOf_alike hZ.alike Ar97.2.1) Ar97.2.2 hin97 (Hh97.at hin97 rfl) (g := (mkF m 20 (Sh2 a1c 1 x2c) [(.int 0), (.ref a2c)])) rfl rfl (B d5_20) t k) ?_
 refine GoW.sg (mkF m 52 (Sh2 a1c 1 x2c) [(.ref a1c)]) (fun t k => XS.dloadN X96.here hx rfl (B d5_21) rfl (XS.dcmpS X96.here hx rfl (B d5_22) rfl (v := (lcmpW (Int32.toInt64 x4c) (Int32.toInt64 x3c))) (by rw [hx1c, hx2c]; exact dcmpV_w (own_b53 _) (own_b53 _) _) (XS.ifYes X96.here hx rfl (pc0 := 23) (pc' := 51) rfl (B d5_23) rfl ((if0 _ _).trans (flt (mt (lw_gt _ _).mp u0)).2.2.2) (by decide) (by decide) (XS.aloadN X96.here hx rfl (B d5_51) rfl rfl k)))) ?_
 obtain ⟨T98, X98, e98, st98⟩ := getF X96 hx hZ hown (host := "") (Or.inl (ww hw 11 rfl)) Via.refl e96 P0 (g := (mkF m 52 (Sh2 a1c 1 x2c) [(.ref a1c)])) rfl rfl (B d5_52)
 refine GoW.sg (mkF m 55 (Sh2 a1c 1 x2c) [(.ref a2c)]) (fun t k => st98 t k) ?_
 refine GoW.sg (mkF m 57 (Sh2 a1c 1 x2c) [(.double x2c), (.int 1), (.ref a2c)]) (fun t k => XS.iloadN X98.here hx rfl (B d5_55) rfl (XS.dloadN X98.here hx rfl (B d5_56) rfl k)) ?_
 obtain ⟨cl99, Ar99, q99, Sz99, Nn99, Hh99, Gg99⟩ := P1
 have hin99 : ¬ ((1 : Int32) < 0 ∨ cl99.slots.size ≤ ((1 : Int32)).toNatClampNeg) := inb_of Sz99 ⟨by decide, by decide⟩
 obtain ⟨T99, h99, X99, e99, W99, st99⟩ := stD X98 hx hZ e98 Ar99 (j := (1 : Int32)) hin99 (g := (mkF m 57 (Sh2 a1c 1 x2c) [(.double x2c), (.int 1), (.ref a2c)])) rfl rfl (B d5_57)
 have f99_1 := (Keep.refl h0 [a2c]).wr W99 (Or.inl (List.mem_of_getElem? (i := 0) rfl))
 have V99 : Arv Z h99 a2c ka2c .double (2 : Int32) [(.double x1c), (.double x2c)] (.double (0 : UInt64)) := Arv.set Ar99 q99 Sz99 Nn99 Hh99 Gg99 rfl W99 1 rfl (Nat.le_of_ble_eq_true rfl)
 have N99 := Fr.snoc X99 N0 g_a2c
 refine GoW.sg (mkF m 58 (Sh2 a1c 1 x2c) []) (fun t k => st99 t k) ?_
 refine GoW.retV X99 hx Bd.returns (B d5_58) Bd.notSynchronized ?_ (by decide) (by decide)
 rw [e99]
 exact ⟨rfl, N99, f99_1, V99⟩
def QO21 (Z : State) (a1 : Addr) (dx : UInt64) (x v0 : Int32) (d0 : UInt64) (a2 : Addr) (ka2 : ClassId) (h0 : Heap) (n0 : Nat) (v : Option Value) (h : Heap) (L : List Loc) : Prop := ∃ w0 : Int32, ∃ w1 : Int32, ∃ f0 : UInt64, ∃ f1 : UInt64, v = none ∧ Fr n0 L ∧ (Keep h0 h [a1, a2]) ∧ (Exa Z h a1 HSn) ∧ (Fld Z h a1 HSn "size" "I" (.int 2)) ∧ (Fld Z h a1 HSn "heap" "[D" (.ref a2)) ∧ (Arv Z h a2 ka2 .double 2 [(.double f0), (.double f1)] (.double 0)) ∧ (f0 = FP.l2d (Int32.toInt64 w0) ∧ f1 = FP.l2d (Int32.toInt64 w1) ∧ (w0.toInt ≤ w1.toInt) ∧ (∀ z : Int, cn z w0 + cn z w1 = cn z v0 + cn z x))
theorem rmO21 (l : Launch) (Z : State) (a0 : Array Value) (hw : HW a0 Z) (a1 : Addr) (dx : UInt64) (x v0 : Int32) (d0 : UInt64) (a2 : Addr) (ka2 : ClassId) (h0 : Heap) (n0 : Nat) (P0 : Exa Z h0 a1 HSn) (P1 : Fld Z h0 a1 HSn "size" "I" (.int 1)) (P2 : Fld Z h0 a1 HSn "heap" "[D" (.ref a2)) (P3 : Arv Z h0 a2 ka2 .double 2 [(.double d0), (.double 0)] (.double 0)) (g_a1 : n0 ≤ a1) (g_a2 : n0 ≤ a2) (ne_a1_a2 : a1 ≠ a2) (hd0 : d0 = FP.l2d (Int32.toInt64 v0)) (hdx : dx = FP.l2d (Int32.toInt64 x)) (hH : True) :
  MM l Z Y4 prog_43_method_2_code 3 none 1 0 0 15 #[(.ref a1), (.double dx)] h0 (QO21 Z a1 dx x v0 d0 a2 ka2 h0 n0) := by
 refine own_start (fun m => (mkF m 0 (Sh0 a1 dx) [])) (plainFor_of_name pn_com_example_nearterm_nearterm_retrieval_HighestScores) (by simp [entryFrame, mkF, argsToLocals, Value.category]) n0 ?_
 intro p e s m below meth c s₁ Bd hx B hml hZ hown hnm X0 e0 N0
 refine GoW.sg (mkF m 1 (Sh0 a1 dx) [(.ref a1)]) (fun t k => XS.aloadN X0.here hx rfl (B d4_0) rfl rfl k) ?_
 obtain ⟨T54, X54, e54, st54⟩ := getF X0 hx hZ hown (host := "") (Or.inl (ww hw 18 rfl)) Via.refl e0 P1 (g := (mkF m 1 (Sh0 a1 dx) [(.ref a1)])) rfl rfl (B d4_1)
 refine GoW.sg (mkF m 4 (Sh0 a1 dx) [(.int 1)]) (fun t k => st54 t k) ?_
 refine GoW.sg (mkF m 5 (Sh0 a1 dx) [(.ref a1), (.int 1)]) (fun t k => XS.aloadN X54.here hx rfl (B d4_4) rfl rfl k) ?_
 obtain ⟨T55, X55, e55, st55⟩ := getF X54 hx hZ hown (host := "") (Or.inl (ww hw 11 rfl)) Via.refl e54 P2 (g := (mkF m 5 (Sh0 a1 dx) [(.ref a1), (.int 1)])) rfl rfl (B d4_5)
 refine GoW.sg (mkF m 8 (Sh0 a1 dx) [(.ref a2), (.int 1)]) (fun t k => st55 t k) ?_
 obtain ⟨cl56, Ar56, q56, Sz56, Nn56, Hh56, Gg56⟩ := id P3
 have st56 := X55.arraylength hx (hq_ e55 Ar56.1) (State.isArrayOf_alike hZ.alike Ar56.2.1) (g := (mkF m 8 (Sh0 a1 dx) [(.ref a2), (.int 1)])) rfl rfl (B d4_8)
 rw [len_of Sz56 Nn56] at st56
 refine GoW.sg (mkF m 9 (Sh0 a1 dx) [(.int 2), (.int 1)]) (fun t k => st56 t k) ?_
 refine GoW.sg (mkF m 13 (Sh0 a1 dx) [(.ref a1)]) (fun t k => XS.icmpNo X55.here hx rfl (B d4_9) rfl (by decide) (XS.aloadN X55.here hx rfl (B d4_12) rfl rfl k)) ?_
 obtain ⟨T57, X57, e57, st57⟩ := getF X55 hx hZ hown (host := "") (Or.inl (ww hw 11 rfl)) Via.refl e55 P2 (g := (mkF m 13 (Sh0 a1 dx) [(.ref a1)])) rfl rfl (B d4_13)
 refine GoW.sg (mkF m 16 (Sh0 a1 dx) [(.ref a2)]) (fun t k => st57 t k) ?_
 refine GoW.sg (mkF m 17 (Sh0 a1 dx) [(.ref a1), (.ref a2)]) (fun t k => XS.aloadN X57.here hx rfl (B d4_16) rfl rfl k) ?_
 obtain ⟨T58, X58, e58, st58⟩ := getF X57 hx hZ hown (host := "") (Or.inl (ww hw 18 rfl)) Via.refl e57 P1 (g := (mkF m 17 (Sh0 a1 dx) [(.ref a1), (.ref a2)])) rfl rfl (B d4_17)
 refine GoW.sg (mkF m 20 (Sh0 a1 dx) [(.int 1), (.ref a2)]) (fun t k => st58 t k) ?_
 refine GoW.sg (mkF m 21 (Sh0 a1 dx) [(.double dx), (.int 1), (.ref a2)]) (fun t k => XS.dloadN X58.here hx rfl (B d4_20) rfl k) ?_
 obtain ⟨cl59, Ar59, q59, Sz59, Nn59, Hh59, Gg59⟩ := P3
 have hin59 : ¬ ((1 : Int32) < 0 ∨ cl59.slots.size ≤ ((1 : Int32)).toNatClampNeg) := inb_of Sz59 ⟨by decide, by decide⟩
 obtain ⟨T59, h59, X59, e59, W59, st59⟩ := stD X58 hx hZ e58 Ar59 (j := (1 : Int32)) hin59 (g := (mkF m 21 (Sh0 a1 dx) [(.double dx), (.int 1), (.ref a2)])) rfl rfl (B d4_21)
 have f59_1 := P0.wr W59
 have f59_2 := P1.other W59 (Or.inl ne_a1_a2)
 have f59_3 := P2.other W59 (Or.inl ne_a1_a2)
 have f59_4 := (Keep.refl h0 [a1, a2]).wr W59 (Or.inl (List.mem_of_getElem? (i := 1) rfl))
 have V59 : Arv Z h59 a2 ka2 .double (2 : Int32) [(.double d0), (.double dx)] (.double (0 : UInt64)) := Arv.set Ar59 q59 Sz59 Nn59 Hh59 Gg59 rfl W59 1 rfl (Nat.le_of_ble_eq_true rfl)
 have N59 := Fr.snoc X59 N0 g_a2
 refine GoW.sg (mkF m 22 (Sh0 a1 dx) []) (fun t k => st59 t k) ?_
 refine GoW.sg (mkF m 25 (Sh0 a1 dx) [(.ref a1), (.ref a1), (.ref a1)]) (fun t k => XS.aloadN X59.here hx rfl (B d4_22) rfl rfl (XS.aloadN X59.here hx rfl (B d4_23) rfl rfl (XS.dup X59.here hx rfl (B d4_24) rfl rfl k))) ?_
 obtain ⟨T60, X60, e60, st60⟩ := getF X59 hx hZ hown (host := "") (Or.inl (ww hw 18 rfl)) Via.refl e59 f59_2 (g := (mkF m 25 (Sh0 a1 dx) [(.ref a1), (.ref a1), (.ref a1)])) rfl rfl (B d4_25)
 refine GoW.sg (mkF m 28 (Sh0 a1 dx) [(.int 1), (.ref a1), (.ref a1)]) (fun t k => st60 t k) ?_
 refine GoW.sg (mkF m 29 (Sh0 a1 dx) [(.int 1), (.ref a1), (.int 1), (.ref a1)]) (fun t k => XT.dupX1 X60.here hx rfl (B d4_28) rfl rfl rfl k) ?_
 refine GoW.sg (mkF m 30 (Sh0 a1 dx) [(.int 1), (.int 1), (.ref a1), (.int 1), (.ref a1)]) (fun t k => XS.iconst X60.here hx rfl (B d4_29) k) ?_
 refine GoW.st (fun t k => XS.iadd X60.here hx rfl (B d4_30) rfl k) ?_
 rw [show ((1 : Int32) + (1 : Int32)) = (2 : Int32) from by decide]
 show GoW p e below s (QO21 Z a1 dx x v0 d0 a2 ka2 h0 n0) 0 0 (T60.setTop (mkF m 31 (Sh0 a1 dx) [(.int 2), (.ref a1), (.int 1), (.ref a1)]))
 obtain ⟨T61, h61, X61, e61, W61, st61⟩ := putF X60 hx hZ hown (host := "") (Or.inl (ww hw 18 rfl)) Via.refl e60 f59_2 f59_1 (Or.inl (ww hw 19 rfl)) (ww hw 2 rfl) (ty := .int) (by decide) rfl rfl (g := (mkF m 31 (Sh0 a1 dx) [(.int 2), (.ref a1), (.int 1), (.ref a1)])) rfl rfl (B d4_31)
 have N61 := Fr.snoc X61 N59 g_a1
 have f61_5 := f59_1.wr W61
 have f61_6 := f59_3.other W61 (Or.inr (slot_ne (t := (.array .double)) (t' := .int) (Or.inr (ww hw 12 rfl)) (Or.inl (ww hw 19 rfl)) (by decide) (by decide) (by decide)))
 have f61_7 := V59.other W61 (Ne.symm ne_a1_a2)
 have f61_8 := f59_4.wr W61 (Or.inl (List.mem_of_getElem? (i := 0) rfl))
 have F61size : Fld Z h61 a1 HSn "size" "I" (.int (2 : Int32)) := f59_2.same W61
 refine GoW.sg (mkF m 34 (Sh0 a1 dx) [(.int 1), (.ref a1)]) (fun t k => st61 t k) ?_
 by_cases c66 : (Int32.toInt64 x) < (Int32.toInt64 v0)
 ·show GoW p e below s (QO21 Z a1 dx x v0 d0 a2 ka2 h0 n0) 0 0 (T61.setTop (mkF m 34 (Sh0 a1 dx) [(.int 1), (.ref a1)]))
  obtain ⟨_, T87, L87, X87, hQ87, st87⟩ := own_priv X61 hx hZ (y := Y5) hown (ww hw 27 rfl) (ww hw 29 rfl) (ww hw 2 rfl) (ww hw 28 rfl) (ww hw 30 rfl) (ww hw 3 rfl) (by decide) 0 (a := a1) (rm5_4 l Z a0 hw a1 a2 ka2 d0 dx x v0 h61 n0 f61_6 f61_7 g_a2 ne_a1_a2 c66 hd0 hdx ) (by decide) (by decide) e61 f61_5 (by decide) (by decide) (g := (mkF m 34 (Sh0 a1 dx) [(.int 1), (.ref a1)])) rfl (by rw [hml]; rfl) (argsL := [(.int (1 : Int32))]) (rest := []) (lenOf pd_28I29V rfl) rfl (Nat.le_of_eq rfl) (B d4_34)
  obtain ⟨rfl, N87q, K87, p87_0⟩ := hQ87
  have N87 := Fr.app N61 N87q
  have f87_9 := f61_5.keep K87
  have f87_10 := F61size.keep K87 (ninS ne_a1_a2 nin0)
  have f87_11 := f61_6.keep K87 (ninS ne_a1_a2 nin0)
  have f87_12 := f61_8.trans K87 (allS (Or.inl (List.mem_of_getElem? (i := 1) rfl)) all0)
  refine GoW.sg (mkF m 37 (Sh0 a1 dx) []) (fun t k => st87 t k) ?_
  refine GoW.sg (mkF m 63 (Sh0 a1 dx) []) (fun t k => XS.goto X87.here hx rfl (pc0 := 37) (pc' := 63) rfl (B d4_37) (by decide) (by decide) k) ?_
  refine GoW.retV X87 hx Bd.returns (B d4_63) Bd.notSynchronized ?_ (by decide) (by decide)
  simp only [Int64.lt_iff_toInt_lt, Int32.toInt_toInt64] at c66
  exact ⟨x, v0, dx, d0, rfl, N87, f87_12, f87_9, f87_10, f87_11, p87_0, hdx, hd0, by omega, fun z => by omega⟩
 ·show GoW p e below s (QO21 Z a1 dx x v0 d0 a2 ka2 h0 n0) 0 0 (T61.setTop (mkF m 34 (Sh0 a1 dx) [(.int 1), (.ref a1)]))
  obtain ⟨_, T100, L100, X100, hQ100, st100⟩ := own_priv X61 hx hZ (y := Y5) hown (ww hw 27 rfl) (ww hw 29 rfl) (ww hw 2 rfl) (ww hw 28 rfl) (ww hw 30 rfl) (ww hw 3 rfl) (by decide) 0 (a := a1) (rm5_5 l Z a0 hw a1 a2 ka2 d0 dx x v0 h61 n0 f61_6 f61_7 g_a2 c66 hd0 hdx ) (by decide) (by decide) e61 f61_5 (by decide) (by decide) (g := (mkF m 34 (Sh0 a1 dx) [(.int 1), (.ref a1)])) rfl (by rw [hml]; rfl) (argsL := [(.int (1 : Int32))]) (rest := []) (lenOf pd_28I29V rfl) rfl (Nat.le_of_eq rfl) (B d4_34)
  obtain ⟨rfl, N100q, K100, p100_0⟩ := hQ100
  have N100 := Fr.app N61 N100q
  have f100_13 := f61_5.keep K100
  have f100_14 := F61size.keep K100 (ninS ne_a1_a2 nin0)
  have f100_15 := f61_6.keep K100 (ninS ne_a1_a2 nin0)
  have f100_16 := f61_8.trans K100 (allS (Or.inl (List.mem_of_getElem? (i := 1) rfl)) all0)
  refine GoW.sg (mkF m 37 (Sh0 a1 dx) []) (fun t k => st100 t k) ?_
  refine GoW.sg (mkF m 63 (Sh0 a1 dx) []) (fun t k => XS.goto X100.here hx rfl (pc0 := 37) (pc' := 63) rfl (B d4_37) (by decide) (by decide) k) ?_
  refine GoW.retV X100 hx Bd.returns (B d4_63) Bd.notSynchronized ?_ (by decide) (by decide)
  simp only [Int64.lt_iff_toInt_lt, Int32.toInt_toInt64] at c66
  exact ⟨v0, x, d0, dx, rfl, N100, f100_16, f100_13, f100_14, f100_15, p100_0, hd0, hdx, by omega, fun z => by omega⟩
def Q8_6 (Z : State) (a1c a2c : Addr) (ka2c : ClassId) (x1c x2c : UInt64) (x3c x4c : Int32) (h0 : Heap) (n0 : Nat) (v : Option Value) (h : Heap) (L : List Loc) : Prop := v = none ∧ Fr n0 L ∧ (Keep h0 h [a2c]) ∧ (Arv Z h a2c ka2c .double 2 [(.double x2c), (.double x1c)] (.double 0))
theorem rm8_6 (l : Launch) (Z : State) (a0 : Array Value) (hw : HW a0 Z) (a1c a2c : Addr) (ka2c : ClassId) (x1c x2c : UInt64) (x3c x4c : Int32) (h0 : Heap) (n0 : Nat) (P0 : Fld Z h0 a1c HSn "heap" "[D" (.ref a2c)) (P1 : Fld Z h0 a1c HSn "size" "I" (.int 2)) (P2 : Arv Z h0 a2c ka2c .double 2 [(.double x1c), (.double x2c)] (.double 0)) (g_a2c : n0 ≤ a2c) (ne_a1c_a2c : a1c ≠ a2c) (u0 : (Int32.toInt64 x3c) < (Int32.toInt64 x4c)) (hx1c : x1c = FP.l2d (Int32.toInt64 x4c)) (hx2c : x2c = FP.l2d (Int32.toInt64 x3c)) :
  MM l Z Y8 prog_43_method_5_code 5 none 0 0 0 0 #[(.ref a1c), (.int 0)] h0 (Q8_6 Z a1c a2c ka2c x1c x2c x3c x4c h0 n0) := by
 refine own_start (fun m => (mkF m 0 (Sh3 a1c 0) [])) (plainFor_of_name pn_com_example_nearterm_nearterm_retrieval_HighestScores) (by simp [entryFrame, mkF, argsToLocals, Value.category]) n0 ?_
 intro p e s m below meth c s₁ Bd hx B hml hZ hown hnm X0 e0 N0
 refine GoW.sg (mkF m 1 (Sh3 a1c 0) [(.ref a1c)]) (fun t k => XS.aloadN X0.here hx rfl (B d8_0) rfl rfl k) ?_
 obtain ⟨T129, X129, e129, st129⟩ := getF X0 hx hZ hown (host := "") (Or.inl (ww hw 11 rfl)) Via.refl e0 P0 (g := (mkF m 1 (Sh3 a1c 0) [(.ref a1c)])) rfl rfl (B d8_1)
 refine GoW.sg (mkF m 4 (Sh3 a1c 0) [(.ref a2c)]) (fun t k => st129 t k) ?_
 refine GoW.sg (mkF m 5 (Sh3 a1c 0) [(.int 0), (.ref a2c)]) (fun t k => XS.iloadN X129.here hx rfl (B d8_4) rfl k) ?_
 obtain ⟨cl130, Ar130, q130, Sz130, Nn130, Hh130, Gg130⟩ := id P2
 have hin130 : ¬ ((0 : Int32) < 0 ∨ cl130.slots.size ≤ ((0 : Int32)).toNatClampNeg) := inb_of Sz130 ⟨by decide, by decide⟩
 refine GoW.sg (mkF m 6 (Sh3 a1c 0) [(.double x1c)]) (fun t k => X129.daload hx (j := (0 : Int32)) (v := (.double x1c)) (hq_ e129 Ar130.1) (State.isArrayOf_alike hZ.alike Ar130.2.1) Ar130.2.2 hin130 (Hh130.at hin130 rfl) (g := (mkF m 5 (Sh3 a1c 0) [(.int 0), (.ref a2c)])) rfl rfl (B d8_5) t k) ?_
 refine GoW.sg (mkF m 9 (Sh4 a1c 0 x1c) [(.int 0), (.int 2)]) (fun t k => XS.dstoreN X129.here hx rfl (B d8_6) rfl (l' := (Sh4 a1c 0 x1c)) rfl (XS.iconst X129.here hx rfl (B d8_7) (XS.iloadN X129.here hx rfl (B d8_8) rfl k))) ?_
 refine GoW.st (fun t k => XS.imul X129.here hx rfl (B d8_9) rfl k) ?_
 rw [show ((2 : Int32) * (0 : Int32)) = (0 : Int32) from by decide]
 show GoW p e below s (Q8_6 Z a1c a2c ka2c x1c x2c x3c x4c h0 n0) 0 0 (T129.setTop (mkF m 10 (Sh4 a1c 0 x1c) [(.int 0)]))
 refine GoW.sg (mkF m 11 (Sh4 a1c 0 x1c) [(.int 1), (.int 0)]) (fun t k => XS.iconst X129.here hx rfl (B d8_10) k) ?_
 refine GoW.st (fun t k => XS.iadd X129.here hx rfl (B d8_11) rfl k) ?_
 rw [show ((0 : Int32) + (1 : Int32)) = (1 : Int32) from by decide]
 show GoW p e below s (Q8_6 Z a1c a2c ka2c x1c x2c x3c x4c h0 n0) 0 0 (T129.setTop (mkF m 12 (Sh4 a1c 0 x1c) [(.int 1)]))
 refine GoW.sg (mkF m 13 (Sh4 a1c 0 x1c) [(.ref a1c), (.int 1)]) (fun t k => XS.aloadN X129.here hx rfl (B d8_12) rfl rfl k) ?_
 obtain ⟨T131, X131, e131, st131⟩ := getF X129 hx hZ hown (host := "") (Or.inl (ww hw 18 rfl)) Via.refl e129 P1 (g := (mkF m 13 (Sh4 a1c 0 x1c) [(.ref a1c), (.int 1)])) rfl rfl (B d8_13)
 refine GoW.sg (mkF m 16 (Sh4 a1c 0 x1c) [(.int 2), (.int 1)]) (fun t k => st131 t k) ?_
 refine GoW.sg (mkF m 21 (Sh4 a1c 0 x1c) [(.int 0), (.int 2)]) (fun t k => XS.icmpNo X131.here hx rfl (B d8_16) rfl (by decide) (XS.iconst X131.here hx rfl (B d8_19) (XS.iloadN X131.here hx rfl (B d8_20) rfl k))) ?_
 refine GoW.st (fun t k => XS.imul X131.here hx rfl (B d8_21) rfl k) ?_
 rw [show ((2 : Int32) * (0 : Int32)) = (0 : Int32) from by decide]
 show GoW p e below s (Q8_6 Z a1c a2c ka2c x1c x2c x3c x4c h0 n0) 0 0 (T131.setTop (mkF m 22 (Sh4 a1c 0 x1c) [(.int 0)]))
 refine GoW.sg (mkF m 23 (Sh4 a1c 0 x1c) [(.int 1), (.int 0)]) (fun t k => XS.iconst X131.here hx rfl (B d8_22) k) ?_
 refine GoW.st (fun t k => XS.iadd X131.here hx rfl (B d8_23) rfl k) ?_
 rw [show ((0 : Int32) + (1 : Int32)) = (1 : Int32) from by decide]
 show GoW p e below s (Q8_6 Z a1c a2c ka2c x1c x2c x3c x4c h0 n0) 0 0 (T131.setTop (mkF m 24 (Sh4 a1c 0 x1c) [(.int 1)]))
 refine GoW.sg (mkF m 29 (Sh5 a1c 0 x1c 1) [(.int 1), (.int 1)]) (fun t k => XS.istore X131.here hx rfl (B d8_24) rfl (l' := (Sh5 a1c 0 x1c 1)) rfl (XS.iload X131.here hx rfl (B d8_26) rfl (XS.iconst X131.here hx rfl (B d8_28) k))) ?_
 refine GoW.st (fun t k => XS.iadd X131.here hx rfl (B d8_29) rfl k) ?_
 rw [show ((1 : Int32) + (1 : Int32)) = (2 : Int32) from by decide]
 show GoW p e below s (Q8_6 Z a1c a2c ka2c x1c x2c x3c x4c h0 n0) 0 0 (T131.setTop (mkF m 30 (Sh5 a1c 0 x1c 1) [(.int 2)]))
 refine GoW.sg (mkF m 31 (Sh5 a1c 0 x1c 1) [(.ref a1c), (.int 2)]) (fun t k => XS.aloadN X131.here hx rfl (B d8_30) rfl rfl k) ?_
 obtain ⟨T132, X132, e132, st132⟩ := getF X131 hx hZ hown (host := "") (Or.inl (ww hw 18 rfl)) Via.refl e131 P1 (g := (mkF m 31 (Sh5 a1c 0 x1c 1) [(.ref a1c), (.int 2)])) rfl rfl (B d8_31)
 refine GoW.sg (mkF m 34 (Sh5 a1c 0 x1c 1) [(.int 2), (.int 2)]) (fun t k => st132 t k) ?_
 refine GoW.sg (mkF m 61 (Sh5 a1c 0 x1c 1) [(.ref a1c)]) (fun t k => XS.icmpYes X132.here hx rfl (pc0 := 34) (pc' := 60) rfl (B d8_34) rfl (by decide) (by decide) (by decide) (XS.aloadN X132.here hx rfl (B d8_60) rfl rfl k)) ?_
 obtain ⟨T133, X133, e133, st133⟩ := getF X132 hx hZ hown (host := "") (Or.inl (ww hw 11 rfl)) Via.refl e132 P0 (g := (mkF m 61 (Sh5 a1c 0 x1c 1) [(.ref a1c)])) rfl rfl (B d8_61)
 refine GoW.sg (mkF m 64 (Sh5 a1c 0 x1c 1) [(.ref a2c)]) (fun t k => st133 t k) ?_
 refine GoW.sg (mkF m 66 (Sh5 a1c 0 x1c 1) [(.int 1), (.ref a2c)]) (fun t k => XS.iload X133.here hx rfl (B d8_64) rfl k) ?_
 obtain ⟨cl134, Ar134, q134, Sz134, Nn134, Hh134, Gg134⟩ := id P2
 have hin134 : ¬ ((1 : Int32) < 0 ∨ cl134.slots.size ≤ ((1 : Int32)).toNatClampNeg) := inb_of Sz134 ⟨by decide, by decide⟩
 refine GoW.sg (mkF m 67 (Sh5 a1c 0 x1c 1) [(.double x2c)]) (fun t k => X133.daload hx (j := (1 : Int32)) (v := (.double x2c)) (hq_ e133 Ar134.1) (State.isArrayOf_alike hZ.alike Ar134.2.1) Ar134.2.2 hin134 (Hh134.at hin134 rfl) (g := (mkF m 66 (Sh5 a1c 0 x1c 1) [(.int 1), (.ref a2c)])) rfl rfl (B d8_66) t k) ?_
 refine GoW.sg (mkF m 76 (Sh5 a1c 0 x1c 1) [(.ref a1c)]) (fun t k => XS.dloadN X133.here hx rfl (B d8_67) rfl (XS.dcmpS X133.here hx rfl (B d8_68) rfl (v := (lcmpW (Int32.toInt64 x3c) (Int32.toInt64 x4c))) (by rw [hx2c, hx1c]; exact dcmpV_w (own_b53 _) (own_b53 _) _) (XS.ifYes X133.here hx rfl (pc0 := 69) (pc' := 75) rfl (B d8_69) rfl ((if0 _ _).trans (tlt ((lw_lt _ _).mpr u0)).1) (by decide) (by decide) (XS.aloadN X133.here hx rfl (B d8_75) rfl rfl k)))) ?_
 obtain ⟨T135, X135, e135, st135⟩ := getF X133 hx hZ hown (host := "") (Or.inl (ww hw 11 rfl)) Via.refl e133 P0 (g := (mkF m 76 (Sh5 a1c 0 x1c 1) [(.ref a1c)])) rfl rfl (B d8_76)
 refine GoW.sg (mkF m 79 (Sh5 a1c 0 x1c 1) [(.ref a2c)]) (fun t k => st135 t k) ?_
 refine GoW.sg (mkF m 81 (Sh5 a1c 0 x1c 1) [(.ref a1c), (.int 0), (.ref a2c)]) (fun t k => XS.iloadN X135.here hx rfl (B d8_79) rfl (XS.aloadN X135.here hx rfl (B d8_80) rfl rfl k)) ?_
 obtain ⟨T136, X136, e136, st136⟩ := getF X135 hx hZ hown (host := "") (Or.inl (ww hw 11 rfl)) Via.refl e135 P0 (g := (mkF m 81 (Sh5 a1c 0 x1c 1) [(.ref a1c), (.int 0), (.ref a2c)])) rfl rfl (B d8_81)
 refine GoW.sg (mkF m 84 (Sh5 a1c 0 x1c 1) [(.ref a2c), (.int 0), (.ref a2c)]) (fun t k => st136 t k) ?_
 refine GoW.sg (mkF m 86 (Sh5 a1c 0 x1c 1) [(.int 1), (.ref a2c), (.int 0), (.ref a2c)]) (fun t k => XS.iload X136.here hx rfl (B d8_84) rfl k) ?_
 obtain ⟨cl137, Ar137, q137, Sz137, Nn137, Hh137, Gg137⟩ := id P2
 have hin137 : ¬ ((1 : Int32) < 0 ∨ cl137.slots.size ≤ ((1 : Int32)).toNatClampNeg) := inb_of Sz137 ⟨by decide, by decide⟩
 refine GoW.sg (mkF m 87 (Sh5 a1c 0 x1c 1) [(.double x2c), (.int 0), (.ref a2c)]) (fun t k => X136.daload hx (j := (1 : Int32)) (v := (.double x2c)) (hq_ e136 Ar137.1) (State.isArrayOf_alike hZ.alike Ar137.2.1) Ar137.2.2 hin137 (Hh137.at hin137 rfl) (g := (mkF m 86 (Sh5 a1c 0 x1c 1) [(.int 1), (.ref a2c), (.int 0), (.ref a2c)])) rfl rfl (B d8_86) t k) ?_
 obtain ⟨cl138, Ar138, q138, Sz138, Nn138, Hh138, Gg138⟩ := P2
 have hin138 : ¬ ((0 : Int32) < 0 ∨ cl138.slots.size ≤ ((0 : Int32)).toNatClampNeg) := inb_of Sz138 ⟨by decide, by decide⟩
 obtain ⟨T138, h138, X138, e138, W138, st138⟩ := stD X136 hx hZ e136 Ar138 (j := (0 : Int32)) hin138 (g := (mkF m 87 (Sh5 a1c 0 x1c 1) [(.double x2c), (.int 0), (.ref a2c)])) rfl rfl (B d8_87)
 have f138_1 := P0.other W138 (Or.inl ne_a1c_a2c)
 have f138_2 := P1.other W138 (Or.inl ne_a1c_a2c)
 have f138_3 := (Keep.refl h0 [a2c]).wr W138 (Or.inl (List.mem_of_getElem? (i := 0) rfl))
 have V138 : Arv Z h138 a2c ka2c .double (2 : Int32) [(.double x2c), (.double x2c)] (.double (0 : UInt64)) := Arv.set Ar138 q138 Sz138 Nn138 Hh138 Gg138 rfl W138 0 rfl (Nat.le_of_ble_eq_true rfl)
 have N138 := Fr.snoc X138 N0 g_a2c
 refine GoW.sg (mkF m 88 (Sh5 a1c 0 x1c 1) []) (fun t k => st138 t k) ?_
 refine GoW.sg (mkF m 9 (Sh5 a1c 1 x1c 1) [(.int 1), (.int 2)]) (fun t k => XS.iload X138.here hx rfl (B d8_88) rfl (XS.istoreN X138.here hx rfl (B d8_90) rfl (l' := (Sh5 a1c 1 x1c 1)) rfl (XS.goto X138.here hx rfl (pc0 := 91) (pc' := 7) rfl (B d8_91) (by decide) (by decide) (XS.iconst X138.here hx rfl (B d8_7) (XS.iloadN X138.here hx rfl (B d8_8) rfl k))))) ?_
 refine GoW.st (fun t k => XS.imul X138.here hx rfl (B d8_9) rfl k) ?_
 rw [show ((2 : Int32) * (1 : Int32)) = (2 : Int32) from by decide]
 show GoW p e below s (Q8_6 Z a1c a2c ka2c x1c x2c x3c x4c h0 n0) 0 0 (T138.setTop (mkF m 10 (Sh5 a1c 1 x1c 1) [(.int 2)]))
 refine GoW.sg (mkF m 11 (Sh5 a1c 1 x1c 1) [(.int 1), (.int 2)]) (fun t k => XS.iconst X138.here hx rfl (B d8_10) k) ?_
 refine GoW.st (fun t k => XS.iadd X138.here hx rfl (B d8_11) rfl k) ?_
 rw [show ((2 : Int32) + (1 : Int32)) = (3 : Int32) from by decide]
 show GoW p e below s (Q8_6 Z a1c a2c ka2c x1c x2c x3c x4c h0 n0) 0 0 (T138.setTop (mkF m 12 (Sh5 a1c 1 x1c 1) [(.int 3)]))
 refine GoW.sg (mkF m 13 (Sh5 a1c 1 x1c 1) [(.ref a1c), (.int 3)]) (fun t k => XS.aloadN X138.here hx rfl (B d8_12) rfl rfl k) ?_
 obtain ⟨T139, X139, e139, st139⟩ := getF X138 hx hZ hown (host := "") (Or.inl (ww hw 18 rfl)) Via.refl e138 f138_2 (g := (mkF m 13 (Sh5 a1c 1 x1c 1) [(.ref a1c), (.int 3)])) rfl rfl (B d8_13)
 refine GoW.sg (mkF m 16 (Sh5 a1c 1 x1c 1) [(.int 2), (.int 3)]) (fun t k => st139 t k) ?_
 refine GoW.sg (mkF m 95 (Sh5 a1c 1 x1c 1) [(.ref a1c)]) (fun t k => XS.icmpYes X139.here hx rfl (pc0 := 16) (pc' := 94) rfl (B d8_16) rfl (by decide) (by decide) (by decide) (XS.aloadN X139.here hx rfl (B d8_94) rfl rfl k)) ?_
 obtain ⟨T140, X140, e140, st140⟩ := getF X139 hx hZ hown (host := "") (Or.inl (ww hw 11 rfl)) Via.refl e139 f138_1 (g := (mkF m 95 (Sh5 a1c 1 x1c 1) [(.ref a1c)])) rfl rfl (B d8_95)
 refine GoW.sg (mkF m 98 (Sh5 a1c 1 x1c 1) [(.ref a2c)]) (fun t k => st140 t k) ?_
 refine GoW.sg (mkF m 100 (Sh5 a1c 1 x1c 1) [(.double x1c), (.int 1), (.ref a2c)]) (fun t k => XS.iloadN X140.here hx rfl (B d8_98) rfl (XS.dloadN X140.here hx rfl (B d8_99) rfl k)) ?_
 obtain ⟨cl141, Ar141, q141, Sz141, Nn141, Hh141, Gg141⟩ := V138
 have hin141 : ¬ ((1 : Int32) < 0 ∨ cl141.slots.size ≤ ((1 : Int32)).toNatClampNeg) := inb_of Sz141 ⟨by decide, by decide⟩
 obtain ⟨T141, h141, X141, e141, W141, st141⟩ := stD X140 hx hZ e140 Ar141 (j := (1 : Int32)) hin141 (g := (mkF m 100 (Sh5 a1c 1 x1c 1) [(.double x1c), (.int 1), (.ref a2c)])) rfl rfl (B d8_100)
 have f141_6 := f138_3.wr W141 (Or.inl (List.mem_of_getElem? (i := 0) rfl))
 have V141 : Arv Z h141 a2c ka2c .double (2 : Int32) [(.double x2c), (.double x1c)] (.double (0 : UInt64)) := Arv.set Ar141 q141 Sz141 Nn141 Hh141 Gg141 rfl W141 1 rfl (Nat.le_of_ble_eq_true rfl)
 have N141 := Fr.snoc X141 N138 g_a2c
 refine GoW.sg (mkF m 101 (Sh5 a1c 1 x1c 1) []) (fun t k => st141 t k) ?_
 refine GoW.retV X141 hx Bd.returns (B d8_101) Bd.notSynchronized ?_ (by decide) (by decide)
 rw [e141]
 exact ⟨rfl, N141, f141_6, V141⟩
def Q8_7 (Z : State) (a1c a2c : Addr) (ka2c : ClassId) (x1c x2c : UInt64) (x3c x4c : Int32) (h0 : Heap) (n0 : Nat) (v : Option Value) (h : Heap) (L : List Loc) : Prop := v = none ∧ Fr n0 L ∧ (Keep h0 h [a2c]) ∧ (Arv Z h a2c ka2c .double 2 [(.double x1c), (.double x2c)] (.double 0))
theorem rm8_7 (l : Launch) (Z : State) (a0 : Array Value) (hw : HW a0 Z) (a1c a2c : Addr) (ka2c : ClassId) (x1c x2c : UInt64) (x3c x4c : Int32) (h0 : Heap) (n0 : Nat) (P0 : Fld Z h0 a1c HSn "heap" "[D" (.ref a2c)) (P1 : Fld Z h0 a1c HSn "size" "I" (.int 2)) (P2 : Arv Z h0 a2c ka2c .double 2 [(.double x1c), (.double x2c)] (.double 0)) (g_a2c : n0 ≤ a2c) (u0 : ¬ ((Int32.toInt64 x3c) < (Int32.toInt64 x4c))) (hx1c : x1c = FP.l2d (Int32.toInt64 x4c)) (hx2c : x2c = FP.l2d (Int32.toInt64 x3c)) :
  MM l Z Y8 prog_43_method_5_code 5 none 0 0 0 0 #[(.ref a1c), (.int 0)] h0 (Q8_7 Z a1c a2c ka2c x1c x2c x3c x4c h0 n0) := by
 refine own_start (fun m => (mkF m 0 (Sh3 a1c 0) [])) (plainFor_of_name pn_com_example_nearterm_nearterm_retrieval_HighestScores) (by simp [entryFrame, mkF, argsToLocals, Value.category]) n0 ?_
 intro p e s m below meth c s₁ Bd hx B hml hZ hown hnm X0 e0 N0
 refine GoW.sg (mkF m 1 (Sh3 a1c 0) [(.ref a1c)]) (fun t k => XS.aloadN X0.here hx rfl (B d8_0) rfl rfl k) ?_
 obtain ⟨T151, X151, e151, st151⟩ := getF X0 hx hZ hown (host := "") (Or.inl (ww hw 11 rfl)) Via.refl e0 P0 (g := (mkF m 1 (Sh3 a1c 0) [(.ref a1c)])) rfl rfl (B d8_1)
 refine GoW.sg (mkF m 4 (Sh3 a1c 0) [(.ref a2c)]) (fun t k => st151 t k) ?_
 refine GoW.sg (mkF m 5 (Sh3 a1c 0) [(.int 0), (.ref a2c)]) (fun t k => XS.iloadN X151.here hx rfl (B d8_4) rfl k) ?_
 obtain ⟨cl152, Ar152, q152, Sz152, Nn152, Hh152, Gg152⟩ := id P2
 have hin152 : ¬ ((0 : Int32) < 0 ∨ cl152.slots.size ≤ ((0 : Int32)).toNatClampNeg) := inb_of Sz152 ⟨by decide, by decide⟩
 refine GoW.sg (mkF m 6 (Sh3 a1c 0) [(.double x1c)]) (fun t k => X151.daload hx (j := (0 : Int32)) (v := (.double x1c)) (hq_ e151 Ar152.1) (State.isArrayOf_alike hZ.alike Ar152.2.1) Ar152.2.2 hin152 (Hh152.at hin152 rfl) (g := (mkF m 5 (Sh3 a1c 0) [(.int 0), (.ref a2c)])) rfl rfl (B d8_5) t k) ?_
 refine GoW.sg (mkF m 9 (Sh4 a1c 0 x1c) [(.int 0), (.int 2)]) (fun t k => XS.dstoreN X151.here hx rfl (B d8_6) rfl (l' := (Sh4 a1c 0 x1c)) rfl (XS.iconst X151.here hx rfl (B d8_7) (XS.iloadN X151.here hx rfl (B d8_8) rfl k))) ?_
 refine GoW.st (fun t k => XS.imul X151.here hx rfl (B d8_9) rfl k) ?_
 rw [show ((2 : Int32) * (0 : Int32)) = (0 : Int32) from by decide]
 show GoW p e below s (Q8_7 Z a1c a2c ka2c x1c x2c x3c x4c h0 n0) 0 0 (T151.setTop (mkF m 10 (Sh4 a1c 0 x1c) [(.int 0)]))
 refine GoW.sg (mkF m 11 (Sh4 a1c 0 x1c) [(.int 1), (.int 0)]) (fun t k => XS.iconst X151.here hx rfl (B d8_10) k) ?_
 refine GoW.st (fun t k => XS.iadd X151.here hx rfl (B d8_11) rfl k) ?_
 rw [show ((0 : Int32) + (1 : Int32)) = (1 : Int32) from by decide]
 show GoW p e below s (Q8_7 Z a1c a2c ka2c x1c x2c x3c x4c h0 n0) 0 0 (T151.setTop (mkF m 12 (Sh4 a1c 0 x1c) [(.int 1)]))
 refine GoW.sg (mkF m 13 (Sh4 a1c 0 x1c) [(.ref a1c), (.int 1)]) (fun t k => XS.aloadN X151.here hx rfl (B d8_12) rfl rfl k) ?_
 obtain ⟨T153, X153, e153, st153⟩ := getF X151 hx hZ hown (host := "") (Or.inl (ww hw 18 rfl)) Via.refl e151 P1 (g := (mkF m 13 (Sh4 a1c 0 x1c) [(.ref a1c), (.int 1)])) rfl rfl (B d8_13)
 refine GoW.sg (mkF m 16 (Sh4 a1c 0 x1c) [(.int 2), (.int 1)]) (fun t k => st153 t k) ?_
 refine GoW.sg (mkF m 21 (Sh4 a1c 0 x1c) [(.int 0), (.int 2)]) (fun t k => XS.icmpNo X153.here hx rfl (B d8_16) rfl (by decide) (XS.iconst X153.here hx rfl (B d8_19) (XS.iloadN X153.here hx rfl (B d8_20) rfl k))) ?_
 refine GoW.st (fun t k => XS.imul X153.here hx rfl (B d8_21) rfl k) ?_
 rw [show ((2 : Int32) * (0 : Int32)) = (0 : Int32) from by decide]
 show GoW p e below s (Q8_7 Z a1c a2c ka2c x1c x2c x3c x4c h0 n0) 0 0 (T153.setTop (mkF m 22 (Sh4 a1c 0 x1c) [(.int 0)]))
 refine GoW.sg (mkF m 23 (Sh4 a1c 0 x1c) [(.int 1), (.int 0)]) (fun t k => XS.iconst X153.here hx rfl (B d8_22) k) ?_
 refine GoW.st (fun t k => XS.iadd X153.here hx rfl (B d8_23) rfl k) ?_
 rw [show ((0 : Int32) + (1 : Int32)) = (1 : Int32) from by decide]
 show GoW p e below s (Q8_7 Z a1c a2c ka2c x1c x2c x3c x4c h0 n0) 0 0 (T153.setTop (mkF m 24 (Sh4 a1c 0 x1c) [(.int 1)]))
 refine GoW.sg (mkF m 29 (Sh5 a1c 0 x1c 1) [(.int 1), (.int 1)]) (fun t k => XS.istore X153.here hx rfl (B d8_24) rfl (l' := (Sh5 a1c 0 x1c 1)) rfl (XS.iload X153.here hx rfl (B d8_26) rfl (XS.iconst X153.here hx rfl (B d8_28) k))) ?_
 refine GoW.st (fun t k => XS.iadd X153.here hx rfl (B d8_29) rfl k) ?_
 rw [show ((1 : Int32) + (1 : Int32)) = (2 : Int32) from by decide]
 show GoW p e below s (Q8_7 Z a1c a2c ka2c x1c x2c x3c x4c h0 n0) 0 0 (T153.setTop (mkF m 30 (Sh5 a1c 0 x1c 1) [(.int 2)]))
 refine GoW.sg (mkF m 31 (Sh5 a1c 0 x1c 1) [(.ref a1c), (.int 2)]) (fun t k => XS.aloadN X153.here hx rfl (B d8_30) rfl rfl k) ?_
 obtain ⟨T154, X154, e154, st154⟩ := getF X153 hx hZ hown (host := "") (Or.inl (ww hw 18 rfl)) Via.refl e153 P1 (g := (mkF m 31 (Sh5 a1c 0 x1c 1) [(.ref a1c), (.int 2)])) rfl rfl (B d8_31)
 refine GoW.sg (mkF m 34 (Sh5 a1c 0 x1c 1) [(.int 2), (.int 2)]) (fun t k => st154 t k) ?_
 refine GoW.sg (mkF m 61 (Sh5 a1c 0 x1c 1) [(.ref a1c)]) (fun t k => XS.icmpYes X154.here hx rfl (pc0 := 34) (pc' := 60) rfl (B d8_34) rfl (by decide) (by decide) (by decide) (XS.aloadN X154.here hx rfl (B d8_60) rfl rfl k)) ?_
 obtain ⟨T155, X155, e155, st155⟩ := getF X154 hx hZ hown (host := "") (Or.inl (ww hw 11 rfl)) Via.refl e154 P0 (g := (mkF m 61 (Sh5 a1c 0 x1c 1) [(.ref a1c)])) rfl rfl (B d8_61)
 refine GoW.sg (mkF m 64 (Sh5 a1c 0 x1c 1) [(.ref a2c)]) (fun t k => st155 t k) ?_
 refine GoW.sg (mkF m 66 (Sh5 a1c 0 x1c 1) [(.int 1), (.ref a2c)]) (fun t k => XS.iload X155.here hx rfl (B d8_64) rfl k) ?_
 obtain ⟨cl156, Ar156, q156, Sz156, Nn156, Hh156, Gg156⟩ := id P2
 have hin156 : ¬ ((1 : Int32) < 0 ∨ cl156.slots.size ≤ ((1 : Int32)).toNatClampNeg) := inb_of Sz156 ⟨by decide, by decide⟩
 refine GoW.sg (mkF m 67 (Sh5 a1c 0 x1c 1) [(.double x2c)]) (fun t k => X155.daload hx (j := (1 : Int32)) (v := (.double x2c)) (hq_ e155 Ar156.1) (State.isArrayOf_alike hZ.alike Ar156.2.1) Ar156.2.2 hin156 (Hh156.at hin156 rfl) (g := (mkF m 66 (Sh5 a1c 0 x1c 1) [(.int 1), (.ref a2c)])) rfl rfl (B d8_66) t k) ?_
 refine GoW.sg (mkF m 95 (Sh5 a1c 0 x1c 1) [(.ref a1c)]) (fun t k => XS.dloadN X155.here hx rfl (B d8_67) rfl (XS.dcmpS X155.here hx rfl (B d8_68) rfl (v := (lcmpW (Int32.toInt64 x3c) (Int32.toInt64 x4c))) (by rw [hx2c, hx1c]; exact dcmpV_w (own_b53 _) (own_b53 _) _) (XS.ifNo X155.here hx rfl (B d8_69) rfl ((if0 _ _).trans (flt (mt (lw_lt _ _).mp u0)).1) (XS.goto X155.here hx rfl (pc0 := 72) (pc' := 94) rfl (B d8_72) (by decide) (by decide) (XS.aloadN X155.here hx rfl (B d8_94) rfl rfl k))))) ?_
 obtain ⟨T157, X157, e157, st157⟩ := getF X155 hx hZ hown (host := "") (Or.inl (ww hw 11 rfl)) Via.refl e155 P0 (g := (mkF m 95 (Sh5 a1c 0 x1c 1) [(.ref a1c)])) rfl rfl (B d8_95)
 refine GoW.sg (mkF m 98 (Sh5 a1c 0 x1c 1) [(.ref a2c)]) (fun t k => st157 t k) ?_
 refine GoW.sg (mkF m 100 (Sh5 a1c 0 x1c 1) [(.double x1c), (.int 0), (.ref a2c)]) (fun t k => XS.iloadN X157.here hx rfl (B d8_98) rfl (XS.dloadN X157.here hx rfl (B d8_99) rfl k)) ?_
 obtain ⟨cl158, Ar158, q158, Sz158, Nn158, Hh158, Gg158⟩ := P2
 have hin158 : ¬ ((0 : Int32) < 0 ∨ cl158.slots.size ≤ ((0 : Int32)).toNatClampNeg) := inb_of Sz158 ⟨by decide, by decide⟩
 obtain ⟨T158, h158, X158, e158, W158, st158⟩ := stD X157 hx hZ e157 Ar158 (j := (0 : Int32)) hin158 (g := (mkF m 100 (Sh5 a1c 0 x1c 1) [(.double x1c), (.int 0), (.ref a2c)])) rfl rfl (B d8_100)
 have f158_1 := (Keep.refl h0 [a2c]).wr W158 (Or.inl (List.mem_of_getElem? (i := 0) rfl))
 have V158 : Arv Z h158 a2c ka2c .double (2 : Int32) [(.double x1c), (.double x2c)] (.double (0 : UInt64)) := Arv.set Ar158 q158 Sz158 Nn158 Hh158 Gg158 rfl W158 0 rfl (Nat.le_of_ble_eq_true rfl)
 have N158 := Fr.snoc X158 N0 g_a2c
 refine GoW.sg (mkF m 101 (Sh5 a1c 0 x1c 1) []) (fun t k => st158 t k) ?_
 refine GoW.retV X158 hx Bd.returns (B d8_101) Bd.notSynchronized ?_ (by decide) (by decide)
 rw [e158]
 exact ⟨rfl, N158, f158_1, V158⟩
def QO22 (Z : State) (a1 : Addr) (dx : UInt64) (x v0 v1 : Int32) (d0 d1 : UInt64) (a2 : Addr) (ka2 : ClassId) (h0 : Heap) (n0 : Nat) (v : Option Value) (h : Heap) (L : List Loc) : Prop := ∃ w0 : Int32, ∃ w1 : Int32, ∃ f0 : UInt64, ∃ f1 : UInt64, v = none ∧ Fr n0 L ∧ (Keep h0 h [a1, a2]) ∧ (Exa Z h a1 HSn) ∧ (Fld Z h a1 HSn "size" "I" (.int 2)) ∧ (Fld Z h a1 HSn "heap" "[D" (.ref a2)) ∧ (Arv Z h a2 ka2 .double 2 [(.double f0), (.double f1)] (.double 0)) ∧ (f0 = FP.l2d (Int32.toInt64 w0) ∧ f1 = FP.l2d (Int32.toInt64 w1) ∧ (w0.toInt ≤ w1.toInt) ∧ (∀ z : Int, cn z w0 + cn z w1 = min 2 (cn z v0 + cn z v1 + cn z x)))
theorem rmO22 (l : Launch) (Z : State) (a0 : Array Value) (hw : HW a0 Z) (a1 : Addr) (dx : UInt64) (x v0 v1 : Int32) (d0 d1 : UInt64) (a2 : Addr) (ka2 : ClassId) (h0 : Heap) (n0 : Nat) (P0 : Exa Z h0 a1 HSn) (P1 : Fld Z h0 a1 HSn "size" "I" (.int 2)) (P2 : Fld Z h0 a1 HSn "heap" "[D" (.ref a2)) (P3 : Arv Z h0 a2 ka2 .double 2 [(.double d0), (.double d1)] (.double 0)) (g_a1 : n0 ≤ a1) (g_a2 : n0 ≤ a2) (ne_a1_a2 : a1 ≠ a2) (hd0 : d0 = FP.l2d (Int32.toInt64 v0)) (hd1 : d1 = FP.l2d (Int32.toInt64 v1)) (hdx : dx = FP.l2d (Int32.toInt64 x)) (hH : v0.toInt ≤ v1.toInt) :
  MM l Z Y4 prog_43_method_2_code 3 none 1 0 0 16 #[(.ref a1), (.double dx)] h0 (QO22 Z a1 dx x v0 v1 d0 d1 a2 ka2 h0 n0) := by
 refine own_start (fun m => (mkF m 0 (Sh0 a1 dx) [])) (plainFor_of_name pn_com_example_nearterm_nearterm_retrieval_HighestScores) (by simp [entryFrame, mkF, argsToLocals, Value.category]) n0 ?_
 intro p e s m below meth c s₁ Bd hx B hml hZ hown hnm X0 e0 N0
 refine GoW.sg (mkF m 1 (Sh0 a1 dx) [(.ref a1)]) (fun t k => XS.aloadN X0.here hx rfl (B d4_0) rfl rfl k) ?_
 obtain ⟨T101, X101, e101, st101⟩ := getF X0 hx hZ hown (host := "") (Or.inl (ww hw 18 rfl)) Via.refl e0 P1 (g := (mkF m 1 (Sh0 a1 dx) [(.ref a1)])) rfl rfl (B d4_1)
 refine GoW.sg (mkF m 4 (Sh0 a1 dx) [(.int 2)]) (fun t k => st101 t k) ?_
 refine GoW.sg (mkF m 5 (Sh0 a1 dx) [(.ref a1), (.int 2)]) (fun t k => XS.aloadN X101.here hx rfl (B d4_4) rfl rfl k) ?_
 obtain ⟨T102, X102, e102, st102⟩ := getF X101 hx hZ hown (host := "") (Or.inl (ww hw 11 rfl)) Via.refl e101 P2 (g := (mkF m 5 (Sh0 a1 dx) [(.ref a1), (.int 2)])) rfl rfl (B d4_5)
 refine GoW.sg (mkF m 8 (Sh0 a1 dx) [(.ref a2), (.int 2)]) (fun t k => st102 t k) ?_
 obtain ⟨cl103, Ar103, q103, Sz103, Nn103, Hh103, Gg103⟩ := id P3
 have st103 := X102.arraylength hx (hq_ e102 Ar103.1) (State.isArrayOf_alike hZ.alike Ar103.2.1) (g := (mkF m 8 (Sh0 a1 dx) [(.ref a2), (.int 2)])) rfl rfl (B d4_8)
 rw [len_of Sz103 Nn103] at st103
 refine GoW.sg (mkF m 9 (Sh0 a1 dx) [(.int 2), (.int 2)]) (fun t k => st103 t k) ?_
 refine GoW.sg (mkF m 42 (Sh0 a1 dx) [(.ref a1), (.double dx)]) (fun t k => XS.icmpYes X102.here hx rfl (pc0 := 9) (pc' := 40) rfl (B d4_9) rfl (by decide) (by decide) (by decide) (XS.dloadN X102.here hx rfl (B d4_40) rfl (XS.aloadN X102.here hx rfl (B d4_41) rfl rfl k))) ?_
 obtain ⟨T104, X104, e104, st104⟩ := getF X102 hx hZ hown (host := "") (Or.inl (ww hw 11 rfl)) Via.refl e102 P2 (g := (mkF m 42 (Sh0 a1 dx) [(.ref a1), (.double dx)])) rfl rfl (B d4_42)
 refine GoW.sg (mkF m 45 (Sh0 a1 dx) [(.ref a2), (.double dx)]) (fun t k => st104 t k) ?_
 refine GoW.sg (mkF m 46 (Sh0 a1 dx) [(.int 0), (.ref a2), (.double dx)]) (fun t k => XS.iconst X104.here hx rfl (B d4_45) k) ?_
 obtain ⟨cl105, Ar105, q105, Sz105, Nn105, Hh105, Gg105⟩ := id P3
 have hin105 : ¬ ((0 : Int32) < 0 ∨ cl105.slots.size ≤ ((0 : Int32)).toNatClampNeg) := inb_of Sz105 ⟨by decide, by decide⟩
 refine GoW.sg (mkF m 47 (Sh0 a1 dx) [(.double d0), (.double dx)]) (fun t k => X104.daload hx (j := (0 : Int32)) (v := (.double d0)) (hq_ e104 Ar105.1) (State.isArrayOf_alike hZ.alike Ar105.2.1) Ar105.2.2 hin105 (Hh105.at hin105 rfl) (g := (mkF m 46 (Sh0 a1 dx) [(.int 0), (.ref a2), (.double dx)])) rfl rfl (B d4_46) t k) ?_
 refine GoW.sg (mkF m 48 (Sh0 a1 dx) [(.int (lcmpW (Int32.toInt64 x) (Int32.toInt64 v0)))]) (fun t k => XS.dcmpS X104.here hx rfl (B d4_47) rfl (v := (lcmpW (Int32.toInt64 x) (Int32.toInt64 v0))) (by rw [hdx, hd0]; exact dcmpV_w (own_b53 _) (own_b53 _) _) k) ?_
 by_cases c106 : (Int32.toInt64 v0) < (Int32.toInt64 x)
 ·refine GoW.sg (mkF m 52 (Sh0 a1 dx) [(.ref a1)]) (fun t k => XS.ifNo X104.here hx rfl (B d4_48) rfl ((if0 _ _).trans (tlt ((lw_gt _ _).mpr c106)).2.2.2) (XS.aloadN X104.here hx rfl (B d4_51) rfl rfl k)) ?_
  obtain ⟨T107, X107, e107, st107⟩ := getF X104 hx hZ hown (host := "") (Or.inl (ww hw 11 rfl)) Via.refl e104 P2 (g := (mkF m 52 (Sh0 a1 dx) [(.ref a1)])) rfl rfl (B d4_52)
  refine GoW.sg (mkF m 55 (Sh0 a1 dx) [(.ref a2)]) (fun t k => st107 t k) ?_
  refine GoW.sg (mkF m 57 (Sh0 a1 dx) [(.double dx), (.int 0), (.ref a2)]) (fun t k => XS.iconst X107.here hx rfl (B d4_55) (XS.dloadN X107.here hx rfl (B d4_56) rfl k)) ?_
  obtain ⟨cl108, Ar108, q108, Sz108, Nn108, Hh108, Gg108⟩ := P3
  have hin108 : ¬ ((0 : Int32) < 0 ∨ cl108.slots.size ≤ ((0 : Int32)).toNatClampNeg) := inb_of Sz108 ⟨by decide, by decide⟩
  obtain ⟨T108, h108, X108, e108, W108, st108⟩ := stD X107 hx hZ e107 Ar108 (j := (0 : Int32)) hin108 (g := (mkF m 57 (Sh0 a1 dx) [(.double dx), (.int 0), (.ref a2)])) rfl rfl (B d4_57)
  have f108_1 := P0.wr W108
  have f108_2 := P1.other W108 (Or.inl ne_a1_a2)
  have f108_3 := P2.other W108 (Or.inl ne_a1_a2)
  have f108_4 := (Keep.refl h0 [a1, a2]).wr W108 (Or.inl (List.mem_of_getElem? (i := 1) rfl))
  have V108 : Arv Z h108 a2 ka2 .double (2 : Int32) [(.double dx), (.double d1)] (.double (0 : UInt64)) := Arv.set Ar108 q108 Sz108 Nn108 Hh108 Gg108 rfl W108 0 rfl (Nat.le_of_ble_eq_true rfl)
  have N108 := Fr.snoc X108 N0 g_a2
  refine GoW.sg (mkF m 58 (Sh0 a1 dx) []) (fun t k => st108 t k) ?_
  refine GoW.sg (mkF m 60 (Sh0 a1 dx) [(.int 0), (.ref a1)]) (fun t k => XS.aloadN X108.here hx rfl (B d4_58) rfl rfl (XS.iconst X108.here hx rfl (B d4_59) k)) ?_
  by_cases c115 : (Int32.toInt64 v1) < (Int32.toInt64 x)
  ·show GoW p e below s (QO22 Z a1 dx x v0 v1 d0 d1 a2 ka2 h0 n0) 0 0 (T108.setTop (mkF m 60 (Sh0 a1 dx) [(.int 0), (.ref a1)]))
   obtain ⟨_, T142, L142, X142, hQ142, st142⟩ := own_priv X108 hx hZ (y := Y8) hown (ww hw 38 rfl) (ww hw 40 rfl) (ww hw 2 rfl) (ww hw 39 rfl) (ww hw 41 rfl) (ww hw 3 rfl) (by decide) 0 (a := a1) (rm8_6 l Z a0 hw a1 a2 ka2 dx d1 v1 x h108 n0 f108_3 f108_2 V108 g_a2 ne_a1_a2 c115 hdx hd1 ) (by decide) (by decide) e108 f108_1 (by decide) (by decide) (g := (mkF m 60 (Sh0 a1 dx) [(.int 0), (.ref a1)])) rfl (by rw [hml]; rfl) (argsL := [(.int (0 : Int32))]) (rest := []) (lenOf pd_28I29V rfl) rfl (Nat.le_of_eq rfl) (B d4_60)
   obtain ⟨rfl, N142q, K142, p142_0⟩ := hQ142
   have N142 := Fr.app N108 N142q
   have f142_5 := f108_1.keep K142
   have f142_6 := f108_2.keep K142 (ninS ne_a1_a2 nin0)
   have f142_7 := f108_3.keep K142 (ninS ne_a1_a2 nin0)
   have f142_8 := f108_4.trans K142 (allS (Or.inl (List.mem_of_getElem? (i := 1) rfl)) all0)
   refine GoW.sg (mkF m 63 (Sh0 a1 dx) []) (fun t k => st142 t k) ?_
   refine GoW.retV X142 hx Bd.returns (B d4_63) Bd.notSynchronized ?_ (by decide) (by decide)
   simp only [Int64.lt_iff_toInt_lt, Int32.toInt_toInt64] at c106 c115
   exact ⟨v1, x, d1, dx, rfl, N142, f142_8, f142_5, f142_6, f142_7, p142_0, hd1, hdx, by omega, fun z => by have _k0 := own_cn z v0; have _k1 := own_cn z v1; have _k2 := own_cn z x; omega⟩
  ·show GoW p e below s (QO22 Z a1 dx x v0 v1 d0 d1 a2 ka2 h0 n0) 0 0 (T108.setTop (mkF m 60 (Sh0 a1 dx) [(.int 0), (.ref a1)]))
   obtain ⟨_, T159, L159, X159, hQ159, st159⟩ := own_priv X108 hx hZ (y := Y8) hown (ww hw 38 rfl) (ww hw 40 rfl) (ww hw 2 rfl) (ww hw 39 rfl) (ww hw 41 rfl) (ww hw 3 rfl) (by decide) 0 (a := a1) (rm8_7 l Z a0 hw a1 a2 ka2 dx d1 v1 x h108 n0 f108_3 f108_2 V108 g_a2 c115 hdx hd1 ) (by decide) (by decide) e108 f108_1 (by decide) (by decide) (g := (mkF m 60 (Sh0 a1 dx) [(.int 0), (.ref a1)])) rfl (by rw [hml]; rfl) (argsL := [(.int (0 : Int32))]) (rest := []) (lenOf pd_28I29V rfl) rfl (Nat.le_of_eq rfl) (B d4_60)
   obtain ⟨rfl, N159q, K159, p159_0⟩ := hQ159
   have N159 := Fr.app N108 N159q
   have f159_9 := f108_1.keep K159
   have f159_10 := f108_2.keep K159 (ninS ne_a1_a2 nin0)
   have f159_11 := f108_3.keep K159 (ninS ne_a1_a2 nin0)
   have f159_12 := f108_4.trans K159 (allS (Or.inl (List.mem_of_getElem? (i := 1) rfl)) all0)
   refine GoW.sg (mkF m 63 (Sh0 a1 dx) []) (fun t k => st159 t k) ?_
   refine GoW.retV X159 hx Bd.returns (B d4_63) Bd.notSynchronized ?_ (by decide) (by decide)
   simp only [Int64.lt_iff_toInt_lt, Int32.toInt_toInt64] at c106 c115
   exact ⟨x, v1, dx, d1, rfl, N159, f159_12, f159_9, f159_10, f159_11, p159_0, hdx, hd1, by omega, fun z => by have _k0 := own_cn z v0; have _k1 := own_cn z v1; have _k2 := own_cn z x; omega⟩
 ·refine GoW.sg (mkF m 63 (Sh0 a1 dx) []) (fun t k => XS.ifYes X104.here hx rfl (pc0 := 48) (pc' := 63) rfl (B d4_48) rfl ((if0 _ _).trans (flt (mt (lw_gt _ _).mp c106)).2.2.2) (by decide) (by decide) k) ?_
  refine GoW.retV X104 hx Bd.returns (B d4_63) Bd.notSynchronized ?_ (by decide) (by decide)
  rw [e104]
  simp only [Int64.lt_iff_toInt_lt, Int32.toInt_toInt64] at c106
  exact ⟨v0, v1, d0, d1, rfl, N0, (Keep.refl h0 [a1, a2]), P0, P1, P2, P3, hd0, hd1, by omega, fun z => by have _k0 := own_cn z v0; have _k1 := own_cn z v1; have _k2 := own_cn z x; omega⟩
def Q5_8 (Z : State) (a1c a2c : Addr) (ka2c : ClassId) (x1c : UInt64) (x2c : Int32) (h0 : Heap) (n0 : Nat) (v : Option Value) (h : Heap) (L : List Loc) : Prop := v = none ∧ Fr n0 L ∧ (Keep h0 h [a2c]) ∧ (Arv Z h a2c ka2c .double 3 [(.double x1c), (.double 0), (.double 0)] (.double 0))
theorem rm5_8 (l : Launch) (Z : State) (a0 : Array Value) (hw : HW a0 Z) (a1c a2c : Addr) (ka2c : ClassId) (x1c : UInt64) (x2c : Int32) (h0 : Heap) (n0 : Nat) (P0 : Fld Z h0 a1c HSn "heap" "[D" (.ref a2c)) (P1 : Arv Z h0 a2c ka2c .double 3 [(.double x1c), (.double 0), (.double 0)] (.double 0)) (g_a2c : n0 ≤ a2c) (hx1c : x1c = FP.l2d (Int32.toInt64 x2c)) :
  MM l Z Y5 prog_43_method_4_code 4 none 0 0 0 0 #[(.ref a1c), (.int 0)] h0 (Q5_8 Z a1c a2c ka2c x1c x2c h0 n0) := by
 refine own_start (fun m => (mkF m 0 (Sh1 a1c 0) [])) (plainFor_of_name pn_com_example_nearterm_nearterm_retrieval_HighestScores) (by simp [entryFrame, mkF, argsToLocals, Value.category]) n0 ?_
 intro p e s m below meth c s₁ Bd hx B hml hZ hown hnm X0 e0 N0
 refine GoW.sg (mkF m 1 (Sh1 a1c 0) [(.ref a1c)]) (fun t k => XS.aloadN X0.here hx rfl (B d5_0) rfl rfl k) ?_
 obtain ⟨T172, X172, e172, st172⟩ := getF X0 hx hZ hown (host := "") (Or.inl (ww hw 11 rfl)) Via.refl e0 P0 (g := (mkF m 1 (Sh1 a1c 0) [(.ref a1c)])) rfl rfl (B d5_1)
 refine GoW.sg (mkF m 4 (Sh1 a1c 0) [(.ref a2c)]) (fun t k => st172 t k) ?_
 refine GoW.sg (mkF m 5 (Sh1 a1c 0) [(.int 0), (.ref a2c)]) (fun t k => XS.iloadN X172.here hx rfl (B d5_4) rfl k) ?_
 obtain ⟨cl173, Ar173, q173, Sz173, Nn173, Hh173, Gg173⟩ := id P1
 have hin173 : ¬ ((0 : Int32) < 0 ∨ cl173.slots.size ≤ ((0 : Int32)).toNatClampNeg) := inb_of Sz173 ⟨by decide, by decide⟩
 refine GoW.sg (mkF m 6 (Sh1 a1c 0) [(.double x1c)]) (fun t k => X172.daload hx (j := (0 : Int32)) (v := (.double x1c)) (hq_ e172 Ar173.1) (State.isArrayOf_alike hZ.alike Ar173.2.1) Ar173.2.2 hin173 (Hh173.at hin173 rfl) (g := (mkF m 5 (Sh1 a1c 0) [(.int 0), (.ref a2c)])) rfl rfl (B d5_5) t k) ?_
 refine GoW.sg (mkF m 52 (Sh2 a1c 0 x1c) [(.ref a1c)]) (fun t k => XS.dstoreN X172.here hx rfl (B d5_6) rfl (l' := (Sh2 a1c 0 x1c)) rfl (XS.iloadN X172.here hx rfl (B d5_7) rfl (XS.ifYes X172.here hx rfl (pc0 := 8) (pc' := 51) rfl (B d5_8) rfl (by decide) (by decide) (by decide) (XS.aloadN X172.here hx rfl (B d5_51) rfl rfl k)))) ?_
 obtain ⟨T174, X174, e174, st174⟩ := getF X172 hx hZ hown (host := "") (Or.inl (ww hw 11 rfl)) Via.refl e172 P0 (g := (mkF m 52 (Sh2 a1c 0 x1c) [(.ref a1c)])) rfl rfl (B d5_52)
 refine GoW.sg (mkF m 55 (Sh2 a1c 0 x1c) [(.ref a2c)]) (fun t k => st174 t k) ?_
 refine GoW.sg (mkF m 57 (Sh2 a1c 0 x1c) [(.double x1c), (.int 0), (.ref a2c)]) (fun t k => XS.iloadN X174.here hx rfl (B d5_55) rfl (XS.dloadN X174.here hx rfl (B d5_56) rfl k)) ?_
 obtain ⟨cl175, Ar175, q175, Sz175, Nn175, Hh175, Gg175⟩ := P1
 have hin175 : ¬ ((0 : Int32) < 0 ∨ cl175.slots.size ≤ ((0 : Int32)).toNatClampNeg) := inb_of Sz175 ⟨by decide, by decide⟩
 obtain ⟨T175, h175, X175, e175, W175, st175⟩ := stD X174 hx hZ e174 Ar175 (j := (0 : Int32)) hin175 (g := (mkF m 57 (Sh2 a1c 0 x1c) [(.double x1c), (.int 0), (.ref a2c)])) rfl rfl (B d5_57)
 have f175_1 := (Keep.refl h0 [a2c]).wr W175 (Or.inl (List.mem_of_getElem? (i := 0) rfl))
 have V175 : Arv Z h175 a2c ka2c .double (3 : Int32) [(.double x1c), (.double (0 : UInt64)), (.double (0 : UInt64))] (.double (0 : UInt64)) := Arv.set Ar175 q175 Sz175 Nn175 Hh175 Gg175 rfl W175 0 rfl (Nat.le_of_ble_eq_true rfl)
 have N175 := Fr.snoc X175 N0 g_a2c
 refine GoW.sg (mkF m 58 (Sh2 a1c 0 x1c) []) (fun t k => st175 t k) ?_
 refine GoW.retV X175 hx Bd.returns (B d5_58) Bd.notSynchronized ?_ (by decide) (by decide)
 rw [e175]
 exact ⟨rfl, N175, f175_1, V175⟩
def QO30 (Z : State) (a1 : Addr) (dx : UInt64) (x : Int32) (a2 : Addr) (ka2 : ClassId) (h0 : Heap) (n0 : Nat) (v : Option Value) (h : Heap) (L : List Loc) : Prop := ∃ w0 : Int32, ∃ f0 : UInt64, v = none ∧ Fr n0 L ∧ (Keep h0 h [a1, a2]) ∧ (Exa Z h a1 HSn) ∧ (Fld Z h a1 HSn "size" "I" (.int 1)) ∧ (Fld Z h a1 HSn "heap" "[D" (.ref a2)) ∧ (Arv Z h a2 ka2 .double 3 [(.double f0), (.double 0), (.double 0)] (.double 0)) ∧ (f0 = FP.l2d (Int32.toInt64 w0) ∧ (True) ∧ (∀ z : Int, cn z w0 = cn z x))
theorem rmO30 (l : Launch) (Z : State) (a0 : Array Value) (hw : HW a0 Z) (a1 : Addr) (dx : UInt64) (x : Int32) (a2 : Addr) (ka2 : ClassId) (h0 : Heap) (n0 : Nat) (P0 : Exa Z h0 a1 HSn) (P1 : Fld Z h0 a1 HSn "size" "I" (.int 0)) (P2 : Fld Z h0 a1 HSn "heap" "[D" (.ref a2)) (P3 : Arv Z h0 a2 ka2 .double 3 [(.double 0), (.double 0), (.double 0)] (.double 0)) (g_a1 : n0 ≤ a1) (g_a2 : n0 ≤ a2) (ne_a1_a2 : a1 ≠ a2) (hdx : dx = FP.l2d (Int32.toInt64 x)) (hH : True) :
  MM l Z Y4 prog_43_method_2_code 3 none 1 0 0 15 #[(.ref a1), (.double dx)] h0 (QO30 Z a1 dx x a2 ka2 h0 n0) := by
 refine own_start (fun m => (mkF m 0 (Sh0 a1 dx) [])) (plainFor_of_name pn_com_example_nearterm_nearterm_retrieval_HighestScores) (by simp [entryFrame, mkF, argsToLocals, Value.category]) n0 ?_
 intro p e s m below meth c s₁ Bd hx B hml hZ hown hnm X0 e0 N0
 refine GoW.sg (mkF m 1 (Sh0 a1 dx) [(.ref a1)]) (fun t k => XS.aloadN X0.here hx rfl (B d4_0) rfl rfl k) ?_
 obtain ⟨T160, X160, e160, st160⟩ := getF X0 hx hZ hown (host := "") (Or.inl (ww hw 18 rfl)) Via.refl e0 P1 (g := (mkF m 1 (Sh0 a1 dx) [(.ref a1)])) rfl rfl (B d4_1)
 refine GoW.sg (mkF m 4 (Sh0 a1 dx) [(.int 0)]) (fun t k => st160 t k) ?_
 refine GoW.sg (mkF m 5 (Sh0 a1 dx) [(.ref a1), (.int 0)]) (fun t k => XS.aloadN X160.here hx rfl (B d4_4) rfl rfl k) ?_
 obtain ⟨T161, X161, e161, st161⟩ := getF X160 hx hZ hown (host := "") (Or.inl (ww hw 11 rfl)) Via.refl e160 P2 (g := (mkF m 5 (Sh0 a1 dx) [(.ref a1), (.int 0)])) rfl rfl (B d4_5)
 refine GoW.sg (mkF m 8 (Sh0 a1 dx) [(.ref a2), (.int 0)]) (fun t k => st161 t k) ?_
 obtain ⟨cl162, Ar162, q162, Sz162, Nn162, Hh162, Gg162⟩ := id P3
 have st162 := X161.arraylength hx (hq_ e161 Ar162.1) (State.isArrayOf_alike hZ.alike Ar162.2.1) (g := (mkF m 8 (Sh0 a1 dx) [(.ref a2), (.int 0)])) rfl rfl (B d4_8)
 rw [len_of Sz162 Nn162] at st162
 refine GoW.sg (mkF m 9 (Sh0 a1 dx) [(.int 3), (.int 0)]) (fun t k => st162 t k) ?_
 refine GoW.sg (mkF m 13 (Sh0 a1 dx) [(.ref a1)]) (fun t k => XS.icmpNo X161.here hx rfl (B d4_9) rfl (by decide) (XS.aloadN X161.here hx rfl (B d4_12) rfl rfl k)) ?_
 obtain ⟨T163, X163, e163, st163⟩ := getF X161 hx hZ hown (host := "") (Or.inl (ww hw 11 rfl)) Via.refl e161 P2 (g := (mkF m 13 (Sh0 a1 dx) [(.ref a1)])) rfl rfl (B d4_13)
 refine GoW.sg (mkF m 16 (Sh0 a1 dx) [(.ref a2)]) (fun t k => st163 t k) ?_
 refine GoW.sg (mkF m 17 (Sh0 a1 dx) [(.ref a1), (.ref a2)]) (fun t k => XS.aloadN X163.here hx rfl (B d4_16) rfl rfl k) ?_
 obtain ⟨T164, X164, e164, st164⟩ := getF X163 hx hZ hown (host := "") (Or.inl (ww hw 18 rfl)) Via.refl e163 P1 (g := (mkF m 17 (Sh0 a1 dx) [(.ref a1), (.ref a2)])) rfl rfl (B d4_17)
 refine GoW.sg (mkF m 20 (Sh0 a1 dx) [(.int 0), (.ref a2)]) (fun t k => st164 t k) ?_
 refine GoW.sg (mkF m 21 (Sh0 a1 dx) [(.double dx), (.int 0), (.ref a2)]) (fun t k => XS.dloadN X164.here hx rfl (B d4_20) rfl k) ?_
 obtain ⟨cl165, Ar165, q165, Sz165, Nn165, Hh165, Gg165⟩ := P3
 have hin165 : ¬ ((0 : Int32) < 0 ∨ cl165.slots.size ≤ ((0 : Int32)).toNatClampNeg) := inb_of Sz165 ⟨by decide, by decide⟩
 obtain ⟨T165, h165, X165, e165, W165, st165⟩ := stD X164 hx hZ e164 Ar165 (j := (0 : Int32)) hin165 (g := (mkF m 21 (Sh0 a1 dx) [(.double dx), (.int 0), (.ref a2)])) rfl rfl (B d4_21)
 have f165_1 := P0.wr W165
 have f165_2 := P1.other W165 (Or.inl ne_a1_a2)
 have f165_3 := P2.other W165 (Or.inl ne_a1_a2)
 have f165_4 := (Keep.refl h0 [a1, a2]).wr W165 (Or.inl (List.mem_of_getElem? (i := 1) rfl))
 have V165 : Arv Z h165 a2 ka2 .double (3 : Int32) [(.double dx), (.double (0 : UInt64)), (.double (0 : UInt64))] (.double (0 : UInt64)) := Arv.set Ar165 q165 Sz165 Nn165 Hh165 Gg165 rfl W165 0 rfl (Nat.le_of_ble_eq_true rfl)
 have N165 := Fr.snoc X165 N0 g_a2
 refine GoW.sg (mkF m 22 (Sh0 a1 dx) []) (fun t k => st165 t k) ?_
 refine GoW.sg (mkF m 25 (Sh0 a1 dx) [(.ref a1), (.ref a1), (.ref a1)]) (fun t k => XS.aloadN X165.here hx rfl (B d4_22) rfl rfl (XS.aloadN X165.here hx rfl (B d4_23) rfl rfl (XS.dup X165.here hx rfl (B d4_24) rfl rfl k))) ?_
 obtain ⟨T166, X166, e166, st166⟩ := getF X165 hx hZ hown (host := "") (Or.inl (ww hw 18 rfl)) Via.refl e165 f165_2 (g := (mkF m 25 (Sh0 a1 dx) [(.ref a1), (.ref a1), (.ref a1)])) rfl rfl (B d4_25)
 refine GoW.sg (mkF m 28 (Sh0 a1 dx) [(.int 0), (.ref a1), (.ref a1)]) (fun t k => st166 t k) ?_
 refine GoW.sg (mkF m 29 (Sh0 a1 dx) [(.int 0), (.ref a1), (.int 0), (.ref a1)]) (fun t k => XT.dupX1 X166.here hx rfl (B d4_28) rfl rfl rfl k) ?_
 refine GoW.sg (mkF m 30 (Sh0 a1 dx) [(.int 1), (.int 0), (.ref a1), (.int 0), (.ref a1)]) (fun t k => XS.iconst X166.here hx rfl (B d4_29) k) ?_
 refine GoW.st (fun t k => XS.iadd X166.here hx rfl (B d4_30) rfl k) ?_
 rw [show ((0 : Int32) + (1 : Int32)) = (1 : Int32) from by decide]
 show GoW p e below s (QO30 Z a1 dx x a2 ka2 h0 n0) 0 0 (T166.setTop (mkF m 31 (Sh0 a1 dx) [(.int 1), (.ref a1), (.int 0), (.ref a1)]))
 obtain ⟨T167, h167, X167, e167, W167, st167⟩ := putF X166 hx hZ hown (host := "") (Or.inl (ww hw 18 rfl)) Via.refl e166 f165_2 f165_1 (Or.inl (ww hw 19 rfl)) (ww hw 2 rfl) (ty := .int) (by decide) rfl rfl (g := (mkF m 31 (Sh0 a1 dx) [(.int 1), (.ref a1), (.int 0), (.ref a1)])) rfl rfl (B d4_31)
 have N167 := Fr.snoc X167 N165 g_a1
 have f167_5 := f165_1.wr W167
 have f167_6 := f165_3.other W167 (Or.inr (slot_ne (t := (.array .double)) (t' := .int) (Or.inr (ww hw 12 rfl)) (Or.inl (ww hw 19 rfl)) (by decide) (by decide) (by decide)))
 have f167_7 := V165.other W167 (Ne.symm ne_a1_a2)
 have f167_8 := f165_4.wr W167 (Or.inl (List.mem_of_getElem? (i := 0) rfl))
 have F167size : Fld Z h167 a1 HSn "size" "I" (.int (1 : Int32)) := f165_2.same W167
 refine GoW.sg (mkF m 34 (Sh0 a1 dx) [(.int 0), (.ref a1)]) (fun t k => st167 t k) ?_
 obtain ⟨_, T176, L176, X176, hQ176, st176⟩ := own_priv X167 hx hZ (y := Y5) hown (ww hw 27 rfl) (ww hw 29 rfl) (ww hw 2 rfl) (ww hw 28 rfl) (ww hw 30 rfl) (ww hw 3 rfl) (by decide) 0 (a := a1) (rm5_8 l Z a0 hw a1 a2 ka2 dx x h167 n0 f167_6 f167_7 g_a2 hdx ) (by decide) (by decide) e167 f167_5 (by decide) (by decide) (g := (mkF m 34 (Sh0 a1 dx) [(.int 0), (.ref a1)])) rfl (by rw [hml]; rfl) (argsL := [(.int (0 : Int32))]) (rest := []) (lenOf pd_28I29V rfl) rfl (Nat.le_of_eq rfl) (B d4_34)
 obtain ⟨rfl, N176q, K176, p176_0⟩ := hQ176
 have N176 := Fr.app N167 N176q
 have f176_9 := f167_5.keep K176
 have f176_10 := F167size.keep K176 (ninS ne_a1_a2 nin0)
 have f176_11 := f167_6.keep K176 (ninS ne_a1_a2 nin0)
 have f176_12 := f167_8.trans K176 (allS (Or.inl (List.mem_of_getElem? (i := 1) rfl)) all0)
 refine GoW.sg (mkF m 37 (Sh0 a1 dx) []) (fun t k => st176 t k) ?_
 refine GoW.sg (mkF m 63 (Sh0 a1 dx) []) (fun t k => XS.goto X176.here hx rfl (pc0 := 37) (pc' := 63) rfl (B d4_37) (by decide) (by decide) k) ?_
 refine GoW.retV X176 hx Bd.returns (B d4_63) Bd.notSynchronized ?_ (by decide) (by decide)
 exact ⟨x, dx, rfl, N176, f176_12, f176_9, f176_10, f176_11, p176_0, hdx, by trivial, fun z => by omega⟩
def Q5_9 (Z : State) (a1c a2c : Addr) (ka2c : ClassId) (x1c x2c : UInt64) (x3c x4c : Int32) (h0 : Heap) (n0 : Nat) (v : Option Value) (h : Heap) (L : List Loc) : Prop := v = none ∧ Fr n0 L ∧ (Keep h0 h [a2c]) ∧ (Arv Z h a2c ka2c .double 3 [(.double x2c), (.double x1c), (.double 0)] (.double 0))
theorem rm5_9 (l : Launch) (Z : State) (a0 : Array Value) (hw : HW a0 Z) (a1c a2c : Addr) (ka2c : ClassId) (x1c x2c : UInt64) (x3c x4c : Int32) (h0 : Heap) (n0 : Nat) (P0 : Fld Z h0 a1c HSn "heap" "[D" (.ref a2c)) (P1 : Arv Z h0 a2c ka2c .double 3 [(.double x1c), (.double x2c), (.double 0)] (.double 0)) (g_a2c : n0 ≤ a2c) (ne_a1c_a2c : a1c ≠ a2c) (u0 : (Int32.toInt64 x3c) < (Int32.toInt64 x4c)) (hx1c : x1c = FP.l2d (Int32.toInt64 x4c)) (hx2c : x2c = FP.l2d (Int32.toInt64 x3c)) :
  MM l Z Y5 prog_43_method_4_code 4 none 0 0 0 0 #[(.ref a1c), (.int 1)] h0 (Q5_9 Z a1c a2c ka2c x1c x2c x3c x4c h0 n0) := by
 refine own_start (fun m => (mkF m 0 (Sh1 a1c 1) [])) (plainFor_of_name pn_com_example_nearterm_nearterm_retrieval_HighestScores) (by simp [entryFrame, mkF, argsToLocals, Value.category]) n0 ?_
 intro p e s m below meth c s₁ Bd hx B hml hZ hown hnm X0 e0 N0
 refine GoW.sg (mkF m 1 (Sh1 a1c 1) [(.ref a1c)]) (fun t k => XS.aloadN X0.here hx rfl (B d5_0) rfl rfl k) ?_
 obtain ⟨T200, X200, e200, st200⟩ := getF X0 hx hZ hown (host := "") (Or.inl (ww hw 11 rfl)) Via.refl e0 P0 (g := (mkF m 1 (Sh1 a1c 1) [(.ref a1c)])) rfl rfl (B d5_1)
 refine GoW.sg (mkF m 4 (Sh1 a1c 1) [(.ref a2c)]) (fun t k => st200 t k) ?_
 refine GoW.sg (mkF m 5 (Sh1 a1c 1) [(.int 1), (.ref a2c)]) (fun t k => XS.iloadN X200.here hx rfl (B d5_4) rfl k) ?_
 obtain ⟨cl201, Ar201, q201, Sz201, Nn201, Hh201, Gg201⟩ := id P1
 have hin201 : ¬ ((1 : Int32) < 0 ∨ cl201.slots.size ≤ ((1 : Int32)).toNatClampNeg) := inb_of Sz201 ⟨by decide, by decide⟩
 refine GoW.sg (mkF m 6 (Sh1 a1c 1) [(.double x2c)]) (fun t k => X200.daload hx (j := (1 : Int32)) (v := (.double x2c)) (hq_ e200 Ar201.1) (State.isArrayOf_alike hZ.alike Ar201.2.1) Ar201.2.2 hin201 (Hh201.at hin201 rfl) (g := (mkF m 5 (Sh1 a1c 1) [(.int 1), (.ref a2c)])) rfl rfl (B d5_5) t k) ?_
 refine GoW.sg (mkF m 12 (Sh2 a1c 1 x2c) [(.ref a1c)]) (fun t k => XS.dstoreN X200.here hx rfl (B d5_6) rfl (l' := (Sh2 a1c 1 x2c)) rfl (XS.iloadN X200.here hx rfl (B d5_7) rfl (XS.ifNo X200.here hx rfl (B d5_8) rfl (by decide) (XS.aloadN X200.here hx rfl (B d5_11) rfl rfl k)))) ?_
 obtain ⟨T202, X202, e202, st202⟩ := getF X200 hx hZ hown (host := "") (Or.inl (ww hw 11 rfl)) Via.refl e200 P0 (g := (mkF m 12 (Sh2 a1c 1 x2c) [(.ref a1c)])) rfl rfl (B d5_12)
 refine GoW.sg (mkF m 15 (Sh2 a1c 1 x2c) [(.ref a2c)]) (fun t k => st202 t k) ?_
 refine GoW.sg (mkF m 17 (Sh2 a1c 1 x2c) [(.int 1), (.int 1), (.ref a2c)]) (fun t k => XS.iloadN X202.here hx rfl (B d5_15) rfl (XS.iconst X202.here hx rfl (B d5_16) k)) ?_
 refine GoW.st (fun t k => XS.isub X202.here hx rfl (B d5_17) rfl k) ?_
 rw [show ((1 : Int32) - (1 : Int32)) = (0 : Int32) from by decide]
 show GoW p e below s (Q5_9 Z a1c a2c ka2c x1c x2c x3c x4c h0 n0) 0 0 (T202.setTop (mkF m 18 (Sh2 a1c 1 x2c) [(.int 0), (.ref a2c)]))
 refine GoW.sg (mkF m 19 (Sh2 a1c 1 x2c) [(.int 2), (.int 0), (.ref a2c)]) (fun t k => XS.iconst X202.here hx rfl (B d5_18) k) ?_
 refine GoW.st (fun t k => XS.idiv X202.here hx rfl (B d5_19) rfl (by decide) k) ?_
 rw [show ((0 : Int32) / (2 : Int32)) = (0 : Int32) from by decide]
 show GoW p e below s (Q5_9 Z a1c a2c ka2c x1c x2c x3c x4c h0 n0) 0 0 (T202.setTop (mkF m 20 (Sh2 a1c 1 x2c) [(.int 0), (.ref a2c)]))
 obtain ⟨cl203, Ar203, q203, Sz203, Nn203, Hh203, Gg203⟩ := id P1
 have hin203 : ¬ ((0 : Int32) < 0 ∨ cl203.slots.size ≤ ((0 : Int32)).toNatClampNeg) := inb_of Sz203 ⟨by decide, by decide⟩
 refine GoW.sg (mkF m 21 (Sh2 a1c 1 x2c) [(.double x1c)]) (fun t k => X202.daload hx (j := (0 : Int32)) (v := (.double x1c)) (hq_ e202 Ar203.1) (State.isArrayOf_alike hZ.alike Ar203.2.1) Ar203.2.2 hin203 (Hh203.at hin203 rfl) (g := (mkF m 20 (Sh2 a1c 1 x2c) [(.int 0), (.ref a2c)])) rfl rfl (B d5_20) t k) ?_
 refine GoW.sg (mkF m 27 (Sh2 a1c 1 x2c) [(.ref a1c)]) (fun t k => XS.dloadN X202.here hx rfl (B d5_21) rfl (XS.dcmpS X202.here hx rfl (B d5_22) rfl (v := (lcmpW (Int32.toInt64 x4c) (Int32.toInt64 x3c))) (by rw [hx1c, hx2c]; exact dcmpV_w (own_b53 _) (own_b53 _) _) (XS.ifNo X202.here hx rfl (B d5_23) rfl ((if0 _ _).trans (tlt ((lw_gt _ _).mpr u0)).2.2.2) (XS.aloadN X202.here hx rfl (B d5_26) rfl rfl k)))) ?_
 obtain ⟨T204, X204, e204, st204⟩ := getF X202 hx hZ hown (host := "") (Or.inl (ww hw 11 rfl)) Via.refl e202 P0 (g := (mkF m 27 (Sh2 a1c 1 x2c) [(.ref a1c)])) rfl rfl (B d5_27)
 refine GoW.sg (mkF m 30 (Sh2 a1c 1 x2c) [(.ref a2c)]) (fun t k => st204 t k) ?_
 refine GoW.sg (mkF m 32 (Sh2 a1c 1 x2c) [(.ref a1c), (.int 1), (.ref a2c)]) (fun t k => XS.iloadN X204.here hx rfl (B d5_30) rfl (XS.aloadN X204.here hx rfl (B d5_31) rfl rfl k)) ?_
 obtain ⟨T205, X205, e205, st205⟩ := getF X204 hx hZ hown (host := "") (Or.inl (ww hw 11 rfl)) Via.refl e204 P0 (g := (mkF m 32 (Sh2 a1c 1 x2c) [(.ref a1c), (.int 1), (.ref a2c)])) rfl rfl (B d5_32)
 refine GoW.sg (mkF m 35 (Sh2 a1c 1 x2c) [(.ref a2c), (.int 1), (.ref a2c)]) (fun t k => st205 t k) ?_
 refine GoW.sg (mkF m 37 (Sh2 a1c 1 x2c) [(.int 1), (.int 1), (.ref a2c), (.int 1), (.ref a2c)]) (fun t k => XS.iloadN X205.here hx rfl (B d5_35) rfl (XS.iconst X205.here hx rfl (B d5_36) k)) ?_
 refine GoW.st (fun t k => XS.isub X205.here hx rfl (B d5_37) rfl k) ?_
 rw [show ((1 : Int32) - (1 : Int32)) = (0 : Int32) from by decide]
 show GoW p e below s (Q5_9 Z a1c a2c ka2c x1c x2c x3c x4c h0 n0) 0 0 (T205.setTop (mkF m 38 (Sh2 a1c 1 x2c) [(.int 0), (.ref a2c), (.int 1), (.ref a2c)]))
 refine GoW.sg (mkF m 39 (Sh2 a1c 1 x2c) [(.int 2), (.int 0), (.ref a2c), (.int 1), (.ref a2c)]) (fun t k => XS.iconst X205.here hx rfl (B d5_38) k) ?_
 refine GoW.st (fun t k => XS.idiv X205.here hx rfl (B d5_39) rfl (by decide) k) ?_
 rw [show ((0 : Int32) / (2 : Int32)) = (0 : Int32) from by decide]
 show GoW p e below s (Q5_9 Z a1c a2c ka2c x1c x2c x3c x4c h0 n0) 0 0 (T205.setTop (mkF m 40 (Sh2 a1c 1 x2c) [(.int 0), (.ref a2c), (.int 1), (.ref a2c)]))
 obtain ⟨cl206, Ar206, q206, Sz206, Nn206, Hh206, Gg206⟩ := id P1
 have hin206 : ¬ ((0 : Int32) < 0 ∨ cl206.slots.size ≤ ((0 : Int32)).toNatClampNeg) := inb_of Sz206 ⟨by decide, by decide⟩
 refine GoW.sg (mkF m 41 (Sh2 a1c 1 x2c) [(.double x1c), (.int 1), (.ref a2c)]) (fun t k => X205.daload hx (j := (0 : Int32)) (v := (.double x1c)) (hq_ e205 Ar206.1) (State.isArrayOf_alike hZ.alike Ar206.2.1) Ar206.2.2 hin206 (Hh206.at hin206 rfl) (g := (mkF m 40 (Sh2 a1c 1 x2c) [(.int 0), (.ref a2c), (.int 1), (.ref a2c)])) rfl rfl (B d5_40) t k) ?_
 obtain ⟨cl207, Ar207, q207, Sz207, Nn207, Hh207, Gg207⟩ := P1
 have hin207 : ¬ ((1 : Int32) < 0 ∨ cl207.slots.size ≤ ((1 : Int32)).toNatClampNeg) := inb_of Sz207 ⟨by decide, by decide⟩
 obtain ⟨T207, h207, X207, e207, W207, st207⟩ := stD X205 hx hZ e205 Ar207 (j := (1 : Int32)) hin207 (g := (mkF m 41 (Sh2 a1c 1 x2c) [(.double x1c), (.int 1), (.ref a2c)])) rfl rfl (B d5_41)
 have f207_1 := P0.other W207 (Or.inl ne_a1c_a2c)
 have f207_2 := (Keep.refl h0 [a2c]).wr W207 (Or.inl (List.mem_of_getElem? (i := 0) rfl))
 have V207 : Arv Z h207 a2c ka2c .double (3 : Int32) [(.double x1c), (.double x1c), (.double (0 : UInt64))] (.double (0 : UInt64)) := Arv.set Ar207 q207 Sz207 Nn207 Hh207 Gg207 rfl W207 1 rfl (Nat.le_of_ble_eq_true rfl)
 have N207 := Fr.snoc X207 N0 g_a2c
 refine GoW.sg (mkF m 42 (Sh2 a1c 1 x2c) []) (fun t k => st207 t k) ?_
 refine GoW.sg (mkF m 44 (Sh2 a1c 1 x2c) [(.int 1), (.int 1)]) (fun t k => XS.iloadN X207.here hx rfl (B d5_42) rfl (XS.iconst X207.here hx rfl (B d5_43) k)) ?_
 refine GoW.st (fun t k => XS.isub X207.here hx rfl (B d5_44) rfl k) ?_
 rw [show ((1 : Int32) - (1 : Int32)) = (0 : Int32) from by decide]
 show GoW p e below s (Q5_9 Z a1c a2c ka2c x1c x2c x3c x4c h0 n0) 0 0 (T207.setTop (mkF m 45 (Sh2 a1c 1 x2c) [(.int 0)]))
 refine GoW.sg (mkF m 46 (Sh2 a1c 1 x2c) [(.int 2), (.int 0)]) (fun t k => XS.iconst X207.here hx rfl (B d5_45) k) ?_
 refine GoW.st (fun t k => XS.idiv X207.here hx rfl (B d5_46) rfl (by decide) k) ?_
 rw [show ((0 : Int32) / (2 : Int32)) = (0 : Int32) from by decide]
 show GoW p e below s (Q5_9 Z a1c a2c ka2c x1c x2c x3c x4c h0 n0) 0 0 (T207.setTop (mkF m 47 (Sh2 a1c 1 x2c) [(.int 0)]))
 refine GoW.sg (mkF m 52 (Sh2 a1c 0 x2c) [(.ref a1c)]) (fun t k => XS.istoreN X207.here hx rfl (B d5_47) rfl (l' := (Sh2 a1c 0 x2c)) rfl (XS.goto X207.here hx rfl (pc0 := 48) (pc' := 7) rfl (B d5_48) (by decide) (by decide) (XS.iloadN X207.here hx rfl (B d5_7) rfl (XS.ifYes X207.here hx rfl (pc0 := 8) (pc' := 51) rfl (B d5_8) rfl (by decide) (by decide) (by decide) (XS.aloadN X207.here hx rfl (B d5_51) rfl rfl k))))) ?_
 obtain ⟨T208, X208, e208, st208⟩ := getF X207 hx hZ hown (host := "") (Or.inl (ww hw 11 rfl)) Via.refl e207 f207_1 (g := (mkF m 52 (Sh2 a1c 0 x2c) [(.ref a1c)])) rfl rfl (B d5_52)
 refine GoW.sg (mkF m 55 (Sh2 a1c 0 x2c) [(.ref a2c)]) (fun t k => st208 t k) ?_
 refine GoW.sg (mkF m 57 (Sh2 a1c 0 x2c) [(.double x2c), (.int 0), (.ref a2c)]) (fun t k => XS.iloadN X208.here hx rfl (B d5_55) rfl (XS.dloadN X208.here hx rfl (B d5_56) rfl k)) ?_
 obtain ⟨cl209, Ar209, q209, Sz209, Nn209, Hh209, Gg209⟩ := V207
 have hin209 : ¬ ((0 : Int32) < 0 ∨ cl209.slots.size ≤ ((0 : Int32)).toNatClampNeg) := inb_of Sz209 ⟨by decide, by decide⟩
 obtain ⟨T209, h209, X209, e209, W209, st209⟩ := stD X208 hx hZ e208 Ar209 (j := (0 : Int32)) hin209 (g := (mkF m 57 (Sh2 a1c 0 x2c) [(.double x2c), (.int 0), (.ref a2c)])) rfl rfl (B d5_57)
 have f209_4 := f207_2.wr W209 (Or.inl (List.mem_of_getElem? (i := 0) rfl))
 have V209 : Arv Z h209 a2c ka2c .double (3 : Int32) [(.double x2c), (.double x1c), (.double (0 : UInt64))] (.double (0 : UInt64)) := Arv.set Ar209 q209 Sz209 Nn209 Hh209 Gg209 rfl W209 0 rfl (Nat.le_of_ble_eq_true rfl)
 have N209 := Fr.snoc X209 N207 g_a2c
 refine GoW.sg (mkF m 58 (Sh2 a1c 0 x2c) []) (fun t k => st209 t k) ?_
 refine GoW.retV X209 hx Bd.returns (B d5_58) Bd.notSynchronized ?_ (by decide) (by decide)
 rw [e209]
 exact ⟨rfl, N209, f209_4, V209⟩
def Q5_10 (Z : State) (a1c a2c : Addr) (ka2c : ClassId) (x1c x2c : UInt64) (x3c x4c : Int32) (h0 : Heap) (n0 : Nat) (v : Option Value) (h : Heap) (L : List Loc) : Prop := v = none ∧ Fr n0 L ∧ (Keep h0 h [a2c]) ∧ (Arv Z h a2c ka2c .double 3 [(.double x1c), (.double x2c), (.double 0)] (.double 0))
theorem rm5_10 (l : Launch) (Z : State) (a0 : Array Value) (hw : HW a0 Z) (a1c a2c : Addr) (ka2c : ClassId) (x1c x2c : UInt64) (x3c x4c : Int32) (h0 : Heap) (n0 : Nat) (P0 : Fld Z h0 a1c HSn "heap" "[D" (.ref a2c)) (P1 : Arv Z h0 a2c ka2c .double 3 [(.double x1c), (.double x2c), (.double 0)] (.double 0)) (g_a2c : n0 ≤ a2c) (u0 : ¬ ((Int32.toInt64 x3c) < (Int32.toInt64 x4c))) (hx1c : x1c = FP.l2d (Int32.toInt64 x4c)) (hx2c : x2c = FP.l2d (Int32.toInt64 x3c)) :
  MM l Z Y5 prog_43_method_4_code 4 none 0 0 0 0 #[(.ref a1c), (.int 1)] h0 (Q5_10 Z a1c a2c ka2c x1c x2c x3c x4c h0 n0) := by
 refine own_start (fun m => (mkF m 0 (Sh1 a1c 1) [])) (plainFor_of_name pn_com_example_nearterm_nearterm_retrieval_HighestScores) (by simp [entryFrame, mkF, argsToLocals, Value.category]) n0 ?_
 intro p e s m below meth c s₁ Bd hx B hml hZ hown hnm X0 e0 N0
 refine GoW.sg (mkF m 1 (Sh1 a1c 1) [(.ref a1c)]) (fun t k => XS.aloadN X0.here hx rfl (B d5_0) rfl rfl k) ?_
 obtain ⟨T217, X217, e217, st217⟩ := getF X0 hx hZ hown (host := "") (Or.inl (ww hw 11 rfl)) Via.refl e0 P0 (g := (mkF m 1 (Sh1 a1c 1) [(.ref a1c)])) rfl rfl (B d5_1)
 refine GoW.sg (mkF m 4 (Sh1 a1c 1) [(.ref a2c)]) (fun t k => st217 t k) ?_
 refine GoW.sg (mkF m 5 (Sh1 a1c 1) [(.int 1), (.ref a2c)]) (fun t k => XS.iloadN X217.here hx rfl (B d5_4) rfl k) ?_
 obtain ⟨cl218, Ar218, q218, Sz218, Nn218, Hh218, Gg218⟩ := id P1
 have hin218 : ¬ ((1 : Int32) < 0 ∨ cl218.slots.size ≤ ((1 : Int32)).toNatClampNeg) := inb_of Sz218 ⟨by decide, by decide⟩
 refine GoW.sg (mkF m 6 (Sh1 a1c 1) [(.double x2c)]) (fun t k => X217.daload hx (j := (1 : Int32)) (v := (.double x2c)) (hq_ e217 Ar218.1) (State.isArrayOf_alike hZ.alike Ar218.2.1) Ar218.2.2 hin218 (Hh218.at hin218 rfl) (g := (mkF m 5 (Sh1 a1c 1) [(.int 1), (.ref a2c)])) rfl rfl (B d5_5) t k) ?_
 refine GoW.sg (mkF m 12 (Sh2 a1c 1 x2c) [(.ref a1c)]) (fun t k => XS.dstoreN X217.here hx rfl (B d5_6) rfl (l' := (Sh2 a1c 1 x2c)) rfl (XS.iloadN X217.here hx rfl (B d5_7) rfl (XS.ifNo X217.here hx rfl (B d5_8) rfl (by decide) (XS.aloadN X217.here hx rfl (B d5_11) rfl rfl k)))) ?_
 obtain ⟨T219, X219, e219, st219⟩ := getF X217 hx hZ hown (host := "") (Or.inl (ww hw 11 rfl)) Via.refl e217 P0 (g := (mkF m 12 (Sh2 a1c 1 x2c) [(.ref a1c)])) rfl rfl (B d5_12)
 refine GoW.sg (mkF m 15 (Sh2 a1c 1 x2c) [(.ref a2c)]) (fun t k => st219 t k) ?_
 refine GoW.sg (mkF m 17 (Sh2 a1c 1 x2c) [(.int 1), (.int 1), (.ref a2c)]) (fun t k => XS.iloadN X219.here hx rfl (B d5_15) rfl (XS.iconst X219.here hx rfl (B d5_16) k)) ?_
 refine GoW.st (fun t k => XS.isub X219.here hx rfl (B d5_17) rfl k) ?_
 rw [show ((1 : Int32) - (1 : Int32)) = (0 : Int32) from by decide]
 show GoW p e below s (Q5_10 Z a1c a2c ka2c x1c x2c x3c x4c h0 n0) 0 0 (T219.setTop (mkF m 18 (Sh2 a1c 1 x2c) [(.int 0), (.ref a2c)]))
 refine GoW.sg (mkF m 19 (Sh2 a1c 1 x2c) [(.int 2), (.int 0), (.ref a2c)]) (fun t k => XS.iconst X219.here hx rfl (B d5_18) k) ?_
 refine GoW.st (fun t k => XS.idiv X219.here hx rfl (B d5_19) rfl (by decide) k) ?_
 rw [show ((0 : Int32) / (2 : Int32)) = (0 : Int32) from by decide]
 show GoW p e below s (Q5_10 Z a1c a2c ka2c x1c x2c x3c x4c h0 n0) 0 0 (T219.setTop (mkF m 20 (Sh2 a1c 1 x2c) [(.int 0), (.ref a2c)]))
 obtain ⟨cl220, Ar220, q220, Sz220, Nn220, Hh220, Gg220⟩ := id P1
 have hin220 : ¬ ((0 : Int32) < 0 ∨ cl220.slots.size ≤ ((0 : Int32)).toNatClampNeg) := inb_of Sz220 ⟨by decide, by decide⟩
 refine GoW.sg (mkF m 21 (Sh2 a1c 1 x2c) [(.double x1c)]) (fun t k => X219.daload hx (j := (0 : Int32)) (v := (.double x1c)) (hq_ e219 Ar220.1) (State.isArrayOf_alike hZ.alike Ar220.2.1) Ar220.2.2 hin220 (Hh220.at hin220 rfl) (g := (mkF m 20 (Sh2 a1c 1 x2c) [(.int 0), (.ref a2c)])) rfl rfl (B d5_20) t k) ?_
 refine GoW.sg (mkF m 52 (Sh2 a1c 1 x2c) [(.ref a1c)]) (fun t k => XS.dloadN X219.here hx rfl (B d5_21) rfl (XS.dcmpS X219.here hx rfl (B d5_22) rfl (v := (lcmpW (Int32.toInt64 x4c) (Int32.toInt64 x3c))) (by rw [hx1c, hx2c]; exact dcmpV_w (own_b53 _) (own_b53 _) _) (XS.ifYes X219.here hx rfl (pc0 := 23) (pc' := 51) rfl (B d5_23) rfl ((if0 _ _).trans (flt (mt (lw_gt _ _).mp u0)).2.2.2) (by decide) (by decide) (XS.aloadN X219.here hx rfl (B d5_51) rfl rfl k)))) ?_
 obtain ⟨T221, X221, e221, st221⟩ := getF X219 hx hZ hown (host := "") (Or.inl (ww hw 11 rfl)) Via.refl e219 P0 (g := (mkF m 52 (Sh2 a1c 1 x2c) [(.ref a1c)])) rfl rfl (B d5_52)
 refine GoW.sg (mkF m 55 (Sh2 a1c 1 x2c) [(.ref a2c)]) (fun t k => st221 t k) ?_
 refine GoW.sg (mkF m 57 (Sh2 a1c 1 x2c) [(.double x2c), (.int 1), (.ref a2c)]) (fun t k => XS.iloadN X221.here hx rfl (B d5_55) rfl (XS.dloadN X221.here hx rfl (B d5_56) rfl k)) ?_
 obtain ⟨cl222, Ar222, q222, Sz222, Nn222, Hh222, Gg222⟩ := P1
 have hin222 : ¬ ((1 : Int32) < 0 ∨ cl222.slots.size ≤ ((1 : Int32)).toNatClampNeg) := inb_of Sz222 ⟨by decide, by decide⟩
 obtain ⟨T222, h222, X222, e222, W222, st222⟩ := stD X221 hx hZ e221 Ar222 (j := (1 : Int32)) hin222 (g := (mkF m 57 (Sh2 a1c 1 x2c) [(.double x2c), (.int 1), (.ref a2c)])) rfl rfl (B d5_57)
 have f222_1 := (Keep.refl h0 [a2c]).wr W222 (Or.inl (List.mem_of_getElem? (i := 0) rfl))
 have V222 : Arv Z h222 a2c ka2c .double (3 : Int32) [(.double x1c), (.double x2c), (.double (0 : UInt64))] (.double (0 : UInt64)) := Arv.set Ar222 q222 Sz222 Nn222 Hh222 Gg222 rfl W222 1 rfl (Nat.le_of_ble_eq_true rfl)
 have N222 := Fr.snoc X222 N0 g_a2c
 refine GoW.sg (mkF m 58 (Sh2 a1c 1 x2c) []) (fun t k => st222 t k) ?_
 refine GoW.retV X222 hx Bd.returns (B d5_58) Bd.notSynchronized ?_ (by decide) (by decide)
 rw [e222]
 exact ⟨rfl, N222, f222_1, V222⟩
def QO31 (Z : State) (a1 : Addr) (dx : UInt64) (x v0 : Int32) (d0 : UInt64) (a2 : Addr) (ka2 : ClassId) (h0 : Heap) (n0 : Nat) (v : Option Value) (h : Heap) (L : List Loc) : Prop := ∃ w0 : Int32, ∃ w1 : Int32, ∃ f0 : UInt64, ∃ f1 : UInt64, v = none ∧ Fr n0 L ∧ (Keep h0 h [a1, a2]) ∧ (Exa Z h a1 HSn) ∧ (Fld Z h a1 HSn "size" "I" (.int 2)) ∧ (Fld Z h a1 HSn "heap" "[D" (.ref a2)) ∧ (Arv Z h a2 ka2 .double 3 [(.double f0), (.double f1), (.double 0)] (.double 0)) ∧ (f0 = FP.l2d (Int32.toInt64 w0) ∧ f1 = FP.l2d (Int32.toInt64 w1) ∧ (w0.toInt ≤ w1.toInt) ∧ (∀ z : Int, cn z w0 + cn z w1 = cn z v0 + cn z x))
theorem rmO31 (l : Launch) (Z : State) (a0 : Array Value) (hw : HW a0 Z) (a1 : Addr) (dx : UInt64) (x v0 : Int32) (d0 : UInt64) (a2 : Addr) (ka2 : ClassId) (h0 : Heap) (n0 : Nat) (P0 : Exa Z h0 a1 HSn) (P1 : Fld Z h0 a1 HSn "size" "I" (.int 1)) (P2 : Fld Z h0 a1 HSn "heap" "[D" (.ref a2)) (P3 : Arv Z h0 a2 ka2 .double 3 [(.double d0), (.double 0), (.double 0)] (.double 0)) (g_a1 : n0 ≤ a1) (g_a2 : n0 ≤ a2) (ne_a1_a2 : a1 ≠ a2) (hd0 : d0 = FP.l2d (Int32.toInt64 v0)) (hdx : dx = FP.l2d (Int32.toInt64 x)) (hH : True) :
  MM l Z Y4 prog_43_method_2_code 3 none 1 0 0 15 #[(.ref a1), (.double dx)] h0 (QO31 Z a1 dx x v0 d0 a2 ka2 h0 n0) := by
 refine own_start (fun m => (mkF m 0 (Sh0 a1 dx) [])) (plainFor_of_name pn_com_example_nearterm_nearterm_retrieval_HighestScores) (by simp [entryFrame, mkF, argsToLocals, Value.category]) n0 ?_
 intro p e s m below meth c s₁ Bd hx B hml hZ hown hnm X0 e0 N0
 refine GoW.sg (mkF m 1 (Sh0 a1 dx) [(.ref a1)]) (fun t k => XS.aloadN X0.here hx rfl (B d4_0) rfl rfl k) ?_
 obtain ⟨T177, X177, e177, st177⟩ := getF X0 hx hZ hown (host := "") (Or.inl (ww hw 18 rfl)) Via.refl e0 P1 (g := (mkF m 1 (Sh0 a1 dx) [(.ref a1)])) rfl rfl (B d4_1)
 refine GoW.sg (mkF m 4 (Sh0 a1 dx) [(.int 1)]) (fun t k => st177 t k) ?_
 refine GoW.sg (mkF m 5 (Sh0 a1 dx) [(.ref a1), (.int 1)]) (fun t k => XS.aloadN X177.here hx rfl (B d4_4) rfl rfl k) ?_
 obtain ⟨T178, X178, e178, st178⟩ := getF X177 hx hZ hown (host := "") (Or.inl (ww hw 11 rfl)) Via.refl e177 P2 (g := (mkF m 5 (Sh0 a1 dx) [(.ref a1), (.int 1)])) rfl rfl (B d4_5)
 refine GoW.sg (mkF m 8 (Sh0 a1 dx) [(.ref a2), (.int 1)]) (fun t k => st178 t k) ?_
 obtain ⟨cl179, Ar179, q179, Sz179, Nn179, Hh179, Gg179⟩ := id P3
 have st179 := X178.arraylength hx (hq_ e178 Ar179.1) (State.isArrayOf_alike hZ.alike Ar179.2.1) (g := (mkF m 8 (Sh0 a1 dx) [(.ref a2), (.int 1)])) rfl rfl (B d4_8)
 rw [len_of Sz179 Nn179] at st179
 refine GoW.sg (mkF m 9 (Sh0 a1 dx) [(.int 3), (.int 1)]) (fun t k => st179 t k) ?_
 refine GoW.sg (mkF m 13 (Sh0 a1 dx) [(.ref a1)]) (fun t k => XS.icmpNo X178.here hx rfl (B d4_9) rfl (by decide) (XS.aloadN X178.here hx rfl (B d4_12) rfl rfl k)) ?_
 obtain ⟨T180, X180, e180, st180⟩ := getF X178 hx hZ hown (host := "") (Or.inl (ww hw 11 rfl)) Via.refl e178 P2 (g := (mkF m 13 (Sh0 a1 dx) [(.ref a1)])) rfl rfl (B d4_13)
 refine GoW.sg (mkF m 16 (Sh0 a1 dx) [(.ref a2)]) (fun t k => st180 t k) ?_
 refine GoW.sg (mkF m 17 (Sh0 a1 dx) [(.ref a1), (.ref a2)]) (fun t k => XS.aloadN X180.here hx rfl (B d4_16) rfl rfl k) ?_
 obtain ⟨T181, X181, e181, st181⟩ := getF X180 hx hZ hown (host := "") (Or.inl (ww hw 18 rfl)) Via.refl e180 P1 (g := (mkF m 17 (Sh0 a1 dx) [(.ref a1), (.ref a2)])) rfl rfl (B d4_17)
 refine GoW.sg (mkF m 20 (Sh0 a1 dx) [(.int 1), (.ref a2)]) (fun t k => st181 t k) ?_
 refine GoW.sg (mkF m 21 (Sh0 a1 dx) [(.double dx), (.int 1), (.ref a2)]) (fun t k => XS.dloadN X181.here hx rfl (B d4_20) rfl k) ?_
 obtain ⟨cl182, Ar182, q182, Sz182, Nn182, Hh182, Gg182⟩ := P3
 have hin182 : ¬ ((1 : Int32) < 0 ∨ cl182.slots.size ≤ ((1 : Int32)).toNatClampNeg) := inb_of Sz182 ⟨by decide, by decide⟩
 obtain ⟨T182, h182, X182, e182, W182, st182⟩ := stD X181 hx hZ e181 Ar182 (j := (1 : Int32)) hin182 (g := (mkF m 21 (Sh0 a1 dx) [(.double dx), (.int 1), (.ref a2)])) rfl rfl (B d4_21)
 have f182_1 := P0.wr W182
 have f182_2 := P1.other W182 (Or.inl ne_a1_a2)
 have f182_3 := P2.other W182 (Or.inl ne_a1_a2)
 have f182_4 := (Keep.refl h0 [a1, a2]).wr W182 (Or.inl (List.mem_of_getElem? (i := 1) rfl))
 have V182 : Arv Z h182 a2 ka2 .double (3 : Int32) [(.double d0), (.double dx), (.double (0 : UInt64))] (.double (0 : UInt64)) := Arv.set Ar182 q182 Sz182 Nn182 Hh182 Gg182 rfl W182 1 rfl (Nat.le_of_ble_eq_true rfl)
 have N182 := Fr.snoc X182 N0 g_a2
 refine GoW.sg (mkF m 22 (Sh0 a1 dx) []) (fun t k => st182 t k) ?_
 refine GoW.sg (mkF m 25 (Sh0 a1 dx) [(.ref a1), (.ref a1), (.ref a1)]) (fun t k => XS.aloadN X182.here hx rfl (B d4_22) rfl rfl (XS.aloadN X182.here hx rfl (B d4_23) rfl rfl (XS.dup X182.here hx rfl (B d4_24) rfl rfl k))) ?_
 obtain ⟨T183, X183, e183, st183⟩ := getF X182 hx hZ hown (host := "") (Or.inl (ww hw 18 rfl)) Via.refl e182 f182_2 (g := (mkF m 25 (Sh0 a1 dx) [(.ref a1), (.ref a1), (.ref a1)])) rfl rfl (B d4_25)
 refine GoW.sg (mkF m 28 (Sh0 a1 dx) [(.int 1), (.ref a1), (.ref a1)]) (fun t k => st183 t k) ?_
 refine GoW.sg (mkF m 29 (Sh0 a1 dx) [(.int 1), (.ref a1), (.int 1), (.ref a1)]) (fun t k => XT.dupX1 X183.here hx rfl (B d4_28) rfl rfl rfl k) ?_
 refine GoW.sg (mkF m 30 (Sh0 a1 dx) [(.int 1), (.int 1), (.ref a1), (.int 1), (.ref a1)]) (fun t k => XS.iconst X183.here hx rfl (B d4_29) k) ?_
 refine GoW.st (fun t k => XS.iadd X183.here hx rfl (B d4_30) rfl k) ?_
 rw [show ((1 : Int32) + (1 : Int32)) = (2 : Int32) from by decide]
 show GoW p e below s (QO31 Z a1 dx x v0 d0 a2 ka2 h0 n0) 0 0 (T183.setTop (mkF m 31 (Sh0 a1 dx) [(.int 2), (.ref a1), (.int 1), (.ref a1)]))
 obtain ⟨T184, h184, X184, e184, W184, st184⟩ := putF X183 hx hZ hown (host := "") (Or.inl (ww hw 18 rfl)) Via.refl e183 f182_2 f182_1 (Or.inl (ww hw 19 rfl)) (ww hw 2 rfl) (ty := .int) (by decide) rfl rfl (g := (mkF m 31 (Sh0 a1 dx) [(.int 2), (.ref a1), (.int 1), (.ref a1)])) rfl rfl (B d4_31)
 have N184 := Fr.snoc X184 N182 g_a1
 have f184_5 := f182_1.wr W184
 have f184_6 := f182_3.other W184 (Or.inr (slot_ne (t := (.array .double)) (t' := .int) (Or.inr (ww hw 12 rfl)) (Or.inl (ww hw 19 rfl)) (by decide) (by decide) (by decide)))
 have f184_7 := V182.other W184 (Ne.symm ne_a1_a2)
 have f184_8 := f182_4.wr W184 (Or.inl (List.mem_of_getElem? (i := 0) rfl))
 have F184size : Fld Z h184 a1 HSn "size" "I" (.int (2 : Int32)) := f182_2.same W184
 refine GoW.sg (mkF m 34 (Sh0 a1 dx) [(.int 1), (.ref a1)]) (fun t k => st184 t k) ?_
 by_cases c189 : (Int32.toInt64 x) < (Int32.toInt64 v0)
 ·show GoW p e below s (QO31 Z a1 dx x v0 d0 a2 ka2 h0 n0) 0 0 (T184.setTop (mkF m 34 (Sh0 a1 dx) [(.int 1), (.ref a1)]))
  obtain ⟨_, T210, L210, X210, hQ210, st210⟩ := own_priv X184 hx hZ (y := Y5) hown (ww hw 27 rfl) (ww hw 29 rfl) (ww hw 2 rfl) (ww hw 28 rfl) (ww hw 30 rfl) (ww hw 3 rfl) (by decide) 0 (a := a1) (rm5_9 l Z a0 hw a1 a2 ka2 d0 dx x v0 h184 n0 f184_6 f184_7 g_a2 ne_a1_a2 c189 hd0 hdx ) (by decide) (by decide) e184 f184_5 (by decide) (by decide) (g := (mkF m 34 (Sh0 a1 dx) [(.int 1), (.ref a1)])) rfl (by rw [hml]; rfl) (argsL := [(.int (1 : Int32))]) (rest := []) (lenOf pd_28I29V rfl) rfl (Nat.le_of_eq rfl) (B d4_34)
  obtain ⟨rfl, N210q, K210, p210_0⟩ := hQ210
  have N210 := Fr.app N184 N210q
  have f210_9 := f184_5.keep K210
  have f210_10 := F184size.keep K210 (ninS ne_a1_a2 nin0)
  have f210_11 := f184_6.keep K210 (ninS ne_a1_a2 nin0)
  have f210_12 := f184_8.trans K210 (allS (Or.inl (List.mem_of_getElem? (i := 1) rfl)) all0)
  refine GoW.sg (mkF m 37 (Sh0 a1 dx) []) (fun t k => st210 t k) ?_
  refine GoW.sg (mkF m 63 (Sh0 a1 dx) []) (fun t k => XS.goto X210.here hx rfl (pc0 := 37) (pc' := 63) rfl (B d4_37) (by decide) (by decide) k) ?_
  refine GoW.retV X210 hx Bd.returns (B d4_63) Bd.notSynchronized ?_ (by decide) (by decide)
  simp only [Int64.lt_iff_toInt_lt, Int32.toInt_toInt64] at c189
  exact ⟨x, v0, dx, d0, rfl, N210, f210_12, f210_9, f210_10, f210_11, p210_0, hdx, hd0, by omega, fun z => by omega⟩
 ·show GoW p e below s (QO31 Z a1 dx x v0 d0 a2 ka2 h0 n0) 0 0 (T184.setTop (mkF m 34 (Sh0 a1 dx) [(.int 1), (.ref a1)]))
  obtain ⟨_, T223, L223, X223, hQ223, st223⟩ := own_priv X184 hx hZ (y := Y5) hown (ww hw 27 rfl) (ww hw 29 rfl) (ww hw 2 rfl) (ww hw 28 rfl) (ww hw 30 rfl) (ww hw 3 rfl) (by decide) 0 (a := a1) (rm5_10 l Z a0 hw a1 a2 ka2 d0 dx x v0 h184 n0 f184_6 f184_7 g_a2 c189 hd0 hdx ) (by decide) (by decide) e184 f184_5 (by decide) (by decide) (g := (mkF m 34 (Sh0 a1 dx) [(.int 1), (.ref a1)])) rfl (by rw [hml]; rfl) (argsL := [(.int (1 : Int32))]) (rest := []) (lenOf pd_28I29V rfl) rfl (Nat.le_of_eq rfl) (B d4_34)
  obtain ⟨rfl, N223q, K223, p223_0⟩ := hQ223
  have N223 := Fr.app N184 N223q
  have f223_13 := f184_5.keep K223
  have f223_14 := F184size.keep K223 (ninS ne_a1_a2 nin0)
  have f223_15 := f184_6.keep K223 (ninS ne_a1_a2 nin0)
  have f223_16 := f184_8.trans K223 (allS (Or.inl (List.mem_of_getElem? (i := 1) rfl)) all0)
  refine GoW.sg (mkF m 37 (Sh0 a1 dx) []) (fun t k => st223 t k) ?_
  refine GoW.sg (mkF m 63 (Sh0 a1 dx) []) (fun t k => XS.goto X223.here hx rfl (pc0 := 37) (pc' := 63) rfl (B d4_37) (by decide) (by decide) k) ?_
  refine GoW.retV X223 hx Bd.returns (B d4_63) Bd.notSynchronized ?_ (by decide) (by decide)
  simp only [Int64.lt_iff_toInt_lt, Int32.toInt_toInt64] at c189
  exact ⟨v0, x, d0, dx, rfl, N223, f223_16, f223_13, f223_14, f223_15, p223_0, hd0, hdx, by omega, fun z => by omega⟩
def Q5_11 (Z : State) (a1c a2c : Addr) (ka2c : ClassId) (x1c x2c x3c : UInt64) (x4c x5c x6c : Int32) (h0 : Heap) (n0 : Nat) (v : Option Value) (h : Heap) (L : List Loc) : Prop := v = none ∧ Fr n0 L ∧ (Keep h0 h [a2c]) ∧ (Arv Z h a2c ka2c .double 3 [(.double x3c), (.double x2c), (.double x1c)] (.double 0))
theorem rm5_11 (l : Launch) (Z : State) (a0 : Array Value) (hw : HW a0 Z) (a1c a2c : Addr) (ka2c : ClassId) (x1c x2c x3c : UInt64) (x4c x5c x6c : Int32) (h0 : Heap) (n0 : Nat) (P0 : Fld Z h0 a1c HSn "heap" "[D" (.ref a2c)) (P1 : Arv Z h0 a2c ka2c .double 3 [(.double x1c), (.double x2c), (.double x3c)] (.double 0)) (g_a2c : n0 ≤ a2c) (ne_a1c_a2c : a1c ≠ a2c) (u0 : (Int32.toInt64 x4c) < (Int32.toInt64 x5c)) (hx1c : x1c = FP.l2d (Int32.toInt64 x5c)) (hx2c : x2c = FP.l2d (Int32.toInt64 x6c)) (hx3c : x3c = FP.l2d (Int32.toInt64 x4c)) :
  MM l Z Y5 prog_43_method_4_code 4 none 0 0 0 0 #[(.ref a1c), (.int 2)] h0 (Q5_11 Z a1c a2c ka2c x1c x2c x3c x4c x5c x6c h0 n0) := by
 refine own_start (fun m => (mkF m 0 (Sh1 a1c 2) [])) (plainFor_of_name pn_com_example_nearterm_nearterm_retrieval_HighestScores) (by simp [entryFrame, mkF, argsToLocals, Value.category]) n0 ?_
 intro p e s m below meth c s₁ Bd hx B hml hZ hown hnm X0 e0 N0
 refine GoW.sg (mkF m 1 (Sh1 a1c 2) [(.ref a1c)]) (fun t k => XS.aloadN X0.here hx rfl (B d5_0) rfl rfl k) ?_
 obtain ⟨T247, X247, e247, st247⟩ := getF X0 hx hZ hown (host := "") (Or.inl (ww hw 11 rfl)) Via.refl e0 P0 (g := (mkF m 1 (Sh1 a1c 2) [(.ref a1c)])) rfl rfl (B d5_1)
 refine GoW.sg (mkF m 4 (Sh1 a1c 2) [(.ref a2c)]) (fun t k => st247 t k) ?_
 refine GoW.sg (mkF m 5 (Sh1 a1c 2) [(.int 2), (.ref a2c)]) (fun t k => XS.iloadN X247.here hx rfl (B d5_4) rfl k) ?_
 obtain ⟨cl248, Ar248, q248, Sz248, Nn248, Hh248, Gg248⟩ := id P1
 have hin248 : ¬ ((2 : Int32) < 0 ∨ cl248.slots.size ≤ ((2 : Int32)).toNatClampNeg) := inb_of Sz248 ⟨by decide, by decide⟩
 refine GoW.sg (mkF m 6 (Sh1 a1c 2) [(.double x3c)]) (fun t k => X247.daload hx (j := (2 : Int32)) (v := (.double x3c)) (hq_ e247 Ar248.1) (State.isArrayOf_alike hZ.alike Ar248.2.1) Ar248.2.2 hin248 (Hh248.at hin248 rfl) (g := (mkF m 5 (Sh1 a1c 2) [(.int 2), (.ref a2c)])) rfl rfl (B d5_5) t k) ?_
 refine GoW.sg (mkF m 12 (Sh2 a1c 2 x3c) [(.ref a1c)]) (fun t k => XS.dstoreN X247.here hx rfl (B d5_6) rfl (l' := (Sh2 a1c 2 x3c)) rfl (XS.iloadN X247.here hx rfl (B d5_7) rfl (XS.ifNo X247.here hx rfl (B d5_8) rfl (by decide) (XS.aloadN X247.here hx rfl (B d5_11) rfl rfl k)))) ?_
 obtain ⟨T249, X249, e249, st249⟩ := getF X247 hx hZ hown (host := "") (Or.inl (ww hw 11 rfl)) Via.refl e247 P0 (g := (mkF m 12 (Sh2 a1c 2 x3c) [(.ref a1c)])) rfl rfl (B d5_12)
 refine GoW.sg (mkF m 15 (Sh2 a1c 2 x3c) [(.ref a2c)]) (fun t k => st249 t k) ?_
 refine GoW.sg (mkF m 17 (Sh2 a1c 2 x3c) [(.int 1), (.int 2), (.ref a2c)]) (fun t k => XS.iloadN X249.here hx rfl (B d5_15) rfl (XS.iconst X249.here hx rfl (B d5_16) k)) ?_
 refine GoW.st (fun t k => XS.isub X249.here hx rfl (B d5_17) rfl k) ?_
 rw [show ((2 : Int32) - (1 : Int32)) = (1 : Int32) from by decide]
 show GoW p e below s (Q5_11 Z a1c a2c ka2c x1c x2c x3c x4c x5c x6c h0 n0) 0 0 (T249.setTop (mkF m 18 (Sh2 a1c 2 x3c) [(.int 1), (.ref a2c)]))
 refine GoW.sg (mkF m 19 (Sh2 a1c 2 x3c) [(.int 2), (.int 1), (.ref a2c)]) (fun t k => XS.iconst X249.here hx rfl (B d5_18) k) ?_
 refine GoW.st (fun t k => XS.idiv X249.here hx rfl (B d5_19) rfl (by decide) k) ?_
 rw [show ((1 : Int32) / (2 : Int32)) = (0 : Int32) from by decide]
 show GoW p e below s (Q5_11 Z a1c a2c ka2c x1c x2c x3c x4c x5c x6c h0 n0) 0 0 (T249.setTop (mkF m 20 (Sh2 a1c 2 x3c) [(.int 0), (.ref a2c)]))
 obtain ⟨cl250, Ar250, q250, Sz250, Nn250, Hh250, Gg250⟩ := id P1
 have hin250 : ¬ ((0 : Int32) < 0 ∨ cl250.slots.size ≤ ((0 : Int32)).toNatClampNeg) := inb_of Sz250 ⟨by decide, by decide⟩
 refine GoW.sg (mkF m 21 (Sh2 a1c 2 x3c) [(.double x1c)]) (fun t k => X249.daload hx (j := (0 : Int32)) (v := (.double x1c)) (hq_ e249 Ar250.1) (State.isArrayOf_alike hZ.alike Ar250.2.1) Ar250.2.2 hin250 (Hh250.at hin250 rfl) (g := (mkF m 20 (Sh2 a1c 2 x3c) [(.int 0), (.ref a2c)])) rfl rfl (B d5_20) t k) ?_
 refine GoW.sg (mkF m 27 (Sh2 a1c 2 x3c) [(.ref a1c)]) (fun t k => XS.dloadN X249.here hx rfl (B d5_21) rfl (XS.dcmpS X249.here hx rfl (B d5_22) rfl (v := (lcmpW (Int32.toInt64 x5c) (Int32.toInt64 x4c))) (by rw [hx1c, hx3c]; exact dcmpV_w (own_b53 _) (own_b53 _) _) (XS.ifNo X249.here hx rfl (B d5_23) rfl ((if0 _ _).trans (tlt ((lw_gt _ _).mpr u0)).2.2.2) (XS.aloadN X249.here hx rfl (B d5_26) rfl rfl k)))) ?_
 obtain ⟨T251, X251, e251, st251⟩ := getF X249 hx hZ hown (host := "") (Or.inl (ww hw 11 rfl)) Via.refl e249 P0 (g := (mkF m 27 (Sh2 a1c 2 x3c) [(.ref a1c)])) rfl rfl (B d5_27)
 refine GoW.sg (mkF m 30 (Sh2 a1c 2 x3c) [(.ref a2c)]) (fun t k => st251 t k) ?_
 refine GoW.sg (mkF m 32 (Sh2 a1c 2 x3c) [(.ref a1c), (.int 2), (.ref a2c)]) (fun t k => XS.iloadN X251.here hx rfl (B d5_30) rfl (XS.aloadN X251.here hx rfl (B d5_31) rfl rfl k)) ?_
 obtain ⟨T252, X252, e252, st252⟩ := getF X251 hx hZ hown (host := "") (Or.inl (ww hw 11 rfl)) Via.refl e251 P0 (g := (mkF m 32 (Sh2 a1c 2 x3c) [(.ref a1c), (.int 2), (.ref a2c)])) rfl rfl (B d5_32)
 refine GoW.sg (mkF m 35 (Sh2 a1c 2 x3c) [(.ref a2c), (.int 2), (.ref a2c)]) (fun t k => st252 t k) ?_
 refine GoW.sg (mkF m 37 (Sh2 a1c 2 x3c) [(.int 1), (.int 2), (.ref a2c), (.int 2), (.ref a2c)]) (fun t k => XS.iloadN X252.here hx rfl (B d5_35) rfl (XS.iconst X252.here hx rfl (B d5_36) k)) ?_
 refine GoW.st (fun t k => XS.isub X252.here hx rfl (B d5_37) rfl k) ?_
 rw [show ((2 : Int32) - (1 : Int32)) = (1 : Int32) from by decide]
 show GoW p e below s (Q5_11 Z a1c a2c ka2c x1c x2c x3c x4c x5c x6c h0 n0) 0 0 (T252.setTop (mkF m 38 (Sh2 a1c 2 x3c) [(.int 1), (.ref a2c), (.int 2), (.ref a2c)]))
 refine GoW.sg (mkF m 39 (Sh2 a1c 2 x3c) [(.int 2), (.int 1), (.ref a2c), (.int 2), (.ref a2c)]) (fun t k => XS.iconst X252.here hx rfl (B d5_38) k) ?_
 refine GoW.st (fun t k => XS.idiv X252.here hx rfl (B d5_39) rfl (by decide) k) ?_
 rw [show ((1 : Int32) / (2 : Int32)) = (0 : Int32) from by decide]
 show GoW p e below s (Q5_11 Z a1c a2c ka2c x1c x2c x3c x4c x5c x6c h0 n0) 0 0 (T252.setTop (mkF m 40 (Sh2 a1c 2 x3c) [(.int 0), (.ref a2c), (.int 2), (.ref a2c)]))
 obtain ⟨cl253, Ar253, q253, Sz253, Nn253, Hh253, Gg253⟩ := id P1
 have hin253 : ¬ ((0 : Int32) < 0 ∨ cl253.slots.size ≤ ((0 : Int32)).toNatClampNeg) := inb_of Sz253 ⟨by decide, by decide⟩
 refine GoW.sg (mkF m 41 (Sh2 a1c 2 x3c) [(.double x1c), (.int 2), (.ref a2c)]) (fun t k => X252.daload hx (j := (0 : Int32)) (v := (.double x1c)) (hq_ e252 Ar253.1) (State.isArrayOf_alike hZ.alike Ar253.2.1) Ar253.2.2 hin253 (Hh253.at hin253 rfl) (g := (mkF m 40 (Sh2 a1c 2 x3c) [(.int 0), (.ref a2c), (.int 2), (.ref a2c)])) rfl rfl (B d5_40) t k) ?_
 obtain ⟨cl254, Ar254, q254, Sz254, Nn254, Hh254, Gg254⟩ := P1
 have hin254 : ¬ ((2 : Int32) < 0 ∨ cl254.slots.size ≤ ((2 : Int32)).toNatClampNeg) := inb_of Sz254 ⟨by decide, by decide⟩
 obtain ⟨T254, h254, X254, e254, W254, st254⟩ := stD X252 hx hZ e252 Ar254 (j := (2 : Int32)) hin254 (g := (mkF m 41 (Sh2 a1c 2 x3c) [(.double x1c), (.int 2), (.ref a2c)])) rfl rfl (B d5_41)
 have f254_1 := P0.other W254 (Or.inl ne_a1c_a2c)
 have f254_2 := (Keep.refl h0 [a2c]).wr W254 (Or.inl (List.mem_of_getElem? (i := 0) rfl))
 have V254 : Arv Z h254 a2c ka2c .double (3 : Int32) [(.double x1c), (.double x2c), (.double x1c)] (.double (0 : UInt64)) := Arv.set Ar254 q254 Sz254 Nn254 Hh254 Gg254 rfl W254 2 rfl (Nat.le_of_ble_eq_true rfl)
 have N254 := Fr.snoc X254 N0 g_a2c
 refine GoW.sg (mkF m 42 (Sh2 a1c 2 x3c) []) (fun t k => st254 t k) ?_
 refine GoW.sg (mkF m 44 (Sh2 a1c 2 x3c) [(.int 1), (.int 2)]) (fun t k => XS.iloadN X254.here hx rfl (B d5_42) rfl (XS.iconst X254.here hx rfl (B d5_43) k)) ?_
 refine GoW.st (fun t k => XS.isub X254.here hx rfl (B d5_44) rfl k) ?_
 rw [show ((2 : Int32) - (1 : Int32)) = (1 : Int32) from by decide]
 show GoW p e below s (Q5_11 Z a1c a2c ka2c x1c x2c x3c x4c x5c x6c h0 n0) 0 0 (T254.setTop (mkF m 45 (Sh2 a1c 2 x3c) [(.int 1)]))
 refine GoW.sg (mkF m 46 (Sh2 a1c 2 x3c) [(.int 2), (.int 1)]) (fun t k => XS.iconst X254.here hx rfl (B d5_45) k) ?_
 refine GoW.st (fun t k => XS.idiv X254.here hx rfl (B d5_46) rfl (by decide) k) ?_
 rw [show ((1 : Int32) / (2 : Int32)) = (0 : Int32) from by decide]
 show GoW p e below s (Q5_11 Z a1c a2c ka2c x1c x2c x3c x4c x5c x6c h0 n0) 0 0 (T254.setTop (mkF m 47 (Sh2 a1c 2 x3c) [(.int 0)]))
 refine GoW.sg (mkF m 52 (Sh2 a1c 0 x3c) [(.ref a1c)]) (fun t k => XS.istoreN X254.here hx rfl (B d5_47) rfl (l' := (Sh2 a1c 0 x3c)) rfl (XS.goto X254.here hx rfl (pc0 := 48) (pc' := 7) rfl (B d5_48) (by decide) (by decide) (XS.iloadN X254.here hx rfl (B d5_7) rfl (XS.ifYes X254.here hx rfl (pc0 := 8) (pc' := 51) rfl (B d5_8) rfl (by decide) (by decide) (by decide) (XS.aloadN X254.here hx rfl (B d5_51) rfl rfl k))))) ?_
 obtain ⟨T255, X255, e255, st255⟩ := getF X254 hx hZ hown (host := "") (Or.inl (ww hw 11 rfl)) Via.refl e254 f254_1 (g := (mkF m 52 (Sh2 a1c 0 x3c) [(.ref a1c)])) rfl rfl (B d5_52)
 refine GoW.sg (mkF m 55 (Sh2 a1c 0 x3c) [(.ref a2c)]) (fun t k => st255 t k) ?_
 refine GoW.sg (mkF m 57 (Sh2 a1c 0 x3c) [(.double x3c), (.int 0), (.ref a2c)]) (fun t k => XS.iloadN X255.here hx rfl (B d5_55) rfl (XS.dloadN X255.here hx rfl (B d5_56) rfl k)) ?_
 obtain ⟨cl256, Ar256, q256, Sz256, Nn256, Hh256, Gg256⟩ := V254
 have hin256 : ¬ ((0 : Int32) < 0 ∨ cl256.slots.size ≤ ((0 : Int32)).toNatClampNeg) := inb_of Sz256 ⟨by decide, by decide⟩
 obtain ⟨T256, h256, X256, e256, W256, st256⟩ := stD X255 hx hZ e255 Ar256 (j := (0 : Int32)) hin256 (g := (mkF m 57 (Sh2 a1c 0 x3c) [(.double x3c), (.int 0), (.ref a2c)])) rfl rfl (B d5_57)
 have f256_4 := f254_2.wr W256 (Or.inl (List.mem_of_getElem? (i := 0) rfl))
 have V256 : Arv Z h256 a2c ka2c .double (3 : Int32) [(.double x3c), (.double x2c), (.double x1c)] (.double (0 : UInt64)) := Arv.set Ar256 q256 Sz256 Nn256 Hh256 Gg256 rfl W256 0 rfl (Nat.le_of_ble_eq_true rfl)
 have N256 := Fr.snoc X256 N254 g_a2c
 refine GoW.sg (mkF m 58 (Sh2 a1c 0 x3c) []) (fun t k => st256 t k) ?_
 refine GoW.retV X256 hx Bd.returns (B d5_58) Bd.notSynchronized ?_ (by decide) (by decide)
 rw [e256]
 exact ⟨rfl, N256, f256_4, V256⟩
def Q5_12 (Z : State) (a1c a2c : Addr) (ka2c : ClassId) (x1c x2c x3c : UInt64) (x4c x5c x6c : Int32) (h0 : Heap) (n0 : Nat) (v : Option Value) (h : Heap) (L : List Loc) : Prop := v = none ∧ Fr n0 L ∧ (Keep h0 h [a2c]) ∧ (Arv Z h a2c ka2c .double 3 [(.double x1c), (.double x2c), (.double x3c)] (.double 0))
theorem rm5_12 (l : Launch) (Z : State) (a0 : Array Value) (hw : HW a0 Z) (a1c a2c : Addr) (ka2c : ClassId) (x1c x2c x3c : UInt64) (x4c x5c x6c : Int32) (h0 : Heap) (n0 : Nat) (P0 : Fld Z h0 a1c HSn "heap" "[D" (.ref a2c)) (P1 : Arv Z h0 a2c ka2c .double 3 [(.double x1c), (.double x2c), (.double x3c)] (.double 0)) (g_a2c : n0 ≤ a2c) (u0 : ¬ ((Int32.toInt64 x4c) < (Int32.toInt64 x5c))) (hx1c : x1c = FP.l2d (Int32.toInt64 x5c)) (hx2c : x2c = FP.l2d (Int32.toInt64 x6c)) (hx3c : x3c = FP.l2d (Int32.toInt64 x4c)) :
  MM l Z Y5 prog_43_method_4_code 4 none 0 0 0 0 #[(.ref a1c), (.int 2)] h0 (Q5_12 Z a1c a2c ka2c x1c x2c x3c x4c x5c x6c h0 n0) := by
 refine own_start (fun m => (mkF m 0 (Sh1 a1c 2) [])) (plainFor_of_name pn_com_example_nearterm_nearterm_retrieval_HighestScores) (by simp [entryFrame, mkF, argsToLocals, Value.category]) n0 ?_
 intro p e s m below meth c s₁ Bd hx B hml hZ hown hnm X0 e0 N0
 refine GoW.sg (mkF m 1 (Sh1 a1c 2) [(.ref a1c)]) (fun t k => XS.aloadN X0.here hx rfl (B d5_0) rfl rfl k) ?_
 obtain ⟨T264, X264, e264, st264⟩ := getF X0 hx hZ hown (host := "") (Or.inl (ww hw 11 rfl)) Via.refl e0 P0 (g := (mkF m 1 (Sh1 a1c 2) [(.ref a1c)])) rfl rfl (B d5_1)
 refine GoW.sg (mkF m 4 (Sh1 a1c 2) [(.ref a2c)]) (fun t k => st264 t k) ?_
 refine GoW.sg (mkF m 5 (Sh1 a1c 2) [(.int 2), (.ref a2c)]) (fun t k => XS.iloadN X264.here hx rfl (B d5_4) rfl k) ?_
 obtain ⟨cl265, Ar265, q265, Sz265, Nn265, Hh265, Gg265⟩ := id P1
 have hin265 : ¬ ((2 : Int32) < 0 ∨ cl265.slots.size ≤ ((2 : Int32)).toNatClampNeg) := inb_of Sz265 ⟨by decide, by decide⟩
 refine GoW.sg (mkF m 6 (Sh1 a1c 2) [(.double x3c)]) (fun t k => X264.daload hx (j := (2 : Int32)) (v := (.double x3c)) (hq_ e264 Ar265.1) (State.isArrayOf_alike hZ.alike Ar265.2.1) Ar265.2.2 hin265 (Hh265.at hin265 rfl) (g := (mkF m 5 (Sh1 a1c 2) [(.int 2), (.ref a2c)])) rfl rfl (B d5_5) t k) ?_
 refine GoW.sg (mkF m 12 (Sh2 a1c 2 x3c) [(.ref a1c)]) (fun t k => XS.dstoreN X264.here hx rfl (B d5_6) rfl (l' := (Sh2 a1c 2 x3c)) rfl (XS.iloadN X264.here hx rfl (B d5_7) rfl (XS.ifNo X264.here hx rfl (B d5_8) rfl (by decide) (XS.aloadN X264.here hx rfl (B d5_11) rfl rfl k)))) ?_
 obtain ⟨T266, X266, e266, st266⟩ := getF X264 hx hZ hown (host := "") (Or.inl (ww hw 11 rfl)) Via.refl e264 P0 (g := (mkF m 12 (Sh2 a1c 2 x3c) [(.ref a1c)])) rfl rfl (B d5_12)
 refine GoW.sg (mkF m 15 (Sh2 a1c 2 x3c) [(.ref a2c)]) (fun t k => st266 t k) ?_
 refine GoW.sg (mkF m 17 (Sh2 a1c 2 x3c) [(.int 1), (.int 2), (.ref a2c)]) (fun t k => XS.iloadN X266.here hx rfl (B d5_15) rfl (XS.iconst X266.here hx rfl (B d5_16) k)) ?_
 refine GoW.st (fun t k => XS.isub X266.here hx rfl (B d5_17) rfl k) ?_
 rw [show ((2 : Int32) - (1 : Int32)) = (1 : Int32) from by decide]
 show GoW p e below s (Q5_12 Z a1c a2c ka2c x1c x2c x3c x4c x5c x6c h0 n0) 0 0 (T266.setTop (mkF m 18 (Sh2 a1c 2 x3c) [(.int 1), (.ref a2c)]))
 refine GoW.sg (mkF m 19 (Sh2 a1c 2 x3c) [(.int 2), (.int 1), (.ref a2c)]) (fun t k => XS.iconst X266.here hx rfl (B d5_18) k) ?_
 refine GoW.st (fun t k => XS.idiv X266.here hx rfl (B d5_19) rfl (by decide) k) ?_
 rw [show ((1 : Int32) / (2 : Int32)) = (0 : Int32) from by decide]
 show GoW p e below s (Q5_12 Z a1c a2c ka2c x1c x2c x3c x4c x5c x6c h0 n0) 0 0 (T266.setTop (mkF m 20 (Sh2 a1c 2 x3c) [(.int 0), (.ref a2c)]))
 obtain ⟨cl267, Ar267, q267, Sz267, Nn267, Hh267, Gg267⟩ := id P1
 have hin267 : ¬ ((0 : Int32) < 0 ∨ cl267.slots.size ≤ ((0 : Int32)).toNatClampNeg) := inb_of Sz267 ⟨by decide, by decide⟩
 refine GoW.sg (mkF m 21 (Sh2 a1c 2 x3c) [(.double x1c)]) (fun t k => X266.daload hx (j := (0 : Int32)) (v := (.double x1c)) (hq_ e266 Ar267.1) (State.isArrayOf_alike hZ.alike Ar267.2.1) Ar267.2.2 hin267 (Hh267.at hin267 rfl) (g := (mkF m 20 (Sh2 a1c 2 x3c) [(.int 0), (.ref a2c)])) rfl rfl (B d5_20) t k) ?_
 refine GoW.sg (mkF m 52 (Sh2 a1c 2 x3c) [(.ref a1c)]) (fun t k => XS.dloadN X266.here hx rfl (B d5_21) rfl (XS.dcmpS X266.here hx rfl (B d5_22) rfl (v := (lcmpW (Int32.toInt64 x5c) (Int32.toInt64 x4c))) (by rw [hx1c, hx3c]; exact dcmpV_w (own_b53 _) (own_b53 _) _) (XS.ifYes X266.here hx rfl (pc0 := 23) (pc' := 51) rfl (B d5_23) rfl ((if0 _ _).trans (flt (mt (lw_gt _ _).mp u0)).2.2.2) (by decide) (by decide) (XS.aloadN X266.here hx rfl (B d5_51) rfl rfl k)))) ?_
 obtain ⟨T268, X268, e268, st268⟩ := getF X266 hx hZ hown (host := "") (Or.inl (ww hw 11 rfl)) Via.refl e266 P0 (g := (mkF m 52 (Sh2 a1c 2 x3c) [(.ref a1c)])) rfl rfl (B d5_52)
 refine GoW.sg (mkF m 55 (Sh2 a1c 2 x3c) [(.ref a2c)]) (fun t k => st268 t k) ?_
 refine GoW.sg (mkF m 57 (Sh2 a1c 2 x3c) [(.double x3c), (.int 2), (.ref a2c)]) (fun t k => XS.iloadN X268.here hx rfl (B d5_55) rfl (XS.dloadN X268.here hx rfl (B d5_56) rfl k)) ?_
 obtain ⟨cl269, Ar269, q269, Sz269, Nn269, Hh269, Gg269⟩ := P1
 have hin269 : ¬ ((2 : Int32) < 0 ∨ cl269.slots.size ≤ ((2 : Int32)).toNatClampNeg) := inb_of Sz269 ⟨by decide, by decide⟩
 obtain ⟨T269, h269, X269, e269, W269, st269⟩ := stD X268 hx hZ e268 Ar269 (j := (2 : Int32)) hin269 (g := (mkF m 57 (Sh2 a1c 2 x3c) [(.double x3c), (.int 2), (.ref a2c)])) rfl rfl (B d5_57)
 have f269_1 := (Keep.refl h0 [a2c]).wr W269 (Or.inl (List.mem_of_getElem? (i := 0) rfl))
 have V269 : Arv Z h269 a2c ka2c .double (3 : Int32) [(.double x1c), (.double x2c), (.double x3c)] (.double (0 : UInt64)) := Arv.set Ar269 q269 Sz269 Nn269 Hh269 Gg269 rfl W269 2 rfl (Nat.le_of_ble_eq_true rfl)
 have N269 := Fr.snoc X269 N0 g_a2c
 refine GoW.sg (mkF m 58 (Sh2 a1c 2 x3c) []) (fun t k => st269 t k) ?_
 refine GoW.retV X269 hx Bd.returns (B d5_58) Bd.notSynchronized ?_ (by decide) (by decide)
 rw [e269]
 exact ⟨rfl, N269, f269_1, V269⟩
def QO32 (Z : State) (a1 : Addr) (dx : UInt64) (x v0 v1 : Int32) (d0 d1 : UInt64) (a2 : Addr) (ka2 : ClassId) (h0 : Heap) (n0 : Nat) (v : Option Value) (h : Heap) (L : List Loc) : Prop := ∃ w0 : Int32, ∃ w1 : Int32, ∃ w2 : Int32, ∃ f0 : UInt64, ∃ f1 : UInt64, ∃ f2 : UInt64, v = none ∧ Fr n0 L ∧ (Keep h0 h [a1, a2]) ∧ (Exa Z h a1 HSn) ∧ (Fld Z h a1 HSn "size" "I" (.int 3)) ∧ (Fld Z h a1 HSn "heap" "[D" (.ref a2)) ∧ (Arv Z h a2 ka2 .double 3 [(.double f0), (.double f1), (.double f2)] (.double 0)) ∧ (f0 = FP.l2d (Int32.toInt64 w0) ∧ f1 = FP.l2d (Int32.toInt64 w1) ∧ f2 = FP.l2d (Int32.toInt64 w2) ∧ (w0.toInt ≤ w1.toInt ∧ w0.toInt ≤ w2.toInt) ∧ (∀ z : Int, cn z w0 + cn z w1 + cn z w2 = cn z v0 + cn z v1 + cn z x))
theorem rmO32 (l : Launch) (Z : State) (a0 : Array Value) (hw : HW a0 Z) (a1 : Addr) (dx : UInt64) (x v0 v1 : Int32) (d0 d1 : UInt64) (a2 : Addr) (ka2 : ClassId) (h0 : Heap) (n0 : Nat) (P0 : Exa Z h0 a1 HSn) (P1 : Fld Z h0 a1 HSn "size" "I" (.int 2)) (P2 : Fld Z h0 a1 HSn "heap" "[D" (.ref a2)) (P3 : Arv Z h0 a2 ka2 .double 3 [(.double d0), (.double d1), (.double 0)] (.double 0)) (g_a1 : n0 ≤ a1) (g_a2 : n0 ≤ a2) (ne_a1_a2 : a1 ≠ a2) (hd0 : d0 = FP.l2d (Int32.toInt64 v0)) (hd1 : d1 = FP.l2d (Int32.toInt64 v1)) (hdx : dx = FP.l2d (Int32.toInt64 x)) (hH : v0.toInt ≤ v1.toInt) :
  MM l Z Y4 prog_43_method_2_code 3 none 1 0 0 15 #[(.ref a1), (.double dx)] h0 (QO32 Z a1 dx x v0 v1 d0 d1 a2 ka2 h0 n0) := by
 refine own_start (fun m => (mkF m 0 (Sh0 a1 dx) [])) (plainFor_of_name pn_com_example_nearterm_nearterm_retrieval_HighestScores) (by simp [entryFrame, mkF, argsToLocals, Value.category]) n0 ?_
 intro p e s m below meth c s₁ Bd hx B hml hZ hown hnm X0 e0 N0
 refine GoW.sg (mkF m 1 (Sh0 a1 dx) [(.ref a1)]) (fun t k => XS.aloadN X0.here hx rfl (B d4_0) rfl rfl k) ?_
 obtain ⟨T224, X224, e224, st224⟩ := getF X0 hx hZ hown (host := "") (Or.inl (ww hw 18 rfl)) Via.refl e0 P1 (g := (mkF m 1 (Sh0 a1 dx) [(.ref a1)])) rfl rfl (B d4_1)
 refine GoW.sg (mkF m 4 (Sh0 a1 dx) [(.int 2)]) (fun t k => st224 t k) ?_
 refine GoW.sg (mkF m 5 (Sh0 a1 dx) [(.ref a1), (.int 2)]) (fun t k => XS.aloadN X224.here hx rfl (B d4_4) rfl rfl k) ?_
 obtain ⟨T225, X225, e225, st225⟩ := getF X224 hx hZ hown (host := "") (Or.inl (ww hw 11 rfl)) Via.refl e224 P2 (g := (mkF m 5 (Sh0 a1 dx) [(.ref a1), (.int 2)])) rfl rfl (B d4_5)
 refine GoW.sg (mkF m 8 (Sh0 a1 dx) [(.ref a2), (.int 2)]) (fun t k => st225 t k) ?_
 obtain ⟨cl226, Ar226, q226, Sz226, Nn226, Hh226, Gg226⟩ := id P3
 have st226 := X225.arraylength hx (hq_ e225 Ar226.1) (State.isArrayOf_alike hZ.alike Ar226.2.1) (g := (mkF m 8 (Sh0 a1 dx) [(.ref a2), (.int 2)])) rfl rfl (B d4_8)
 rw [len_of Sz226 Nn226] at st226
 refine GoW.sg (mkF m 9 (Sh0 a1 dx) [(.int 3), (.int 2)]) (fun t k => st226 t k) ?_
 refine GoW.sg (mkF m 13 (Sh0 a1 dx) [(.ref a1)]) (fun t k => XS.icmpNo X225.here hx rfl (B d4_9) rfl (by decide) (XS.aloadN X225.here hx rfl (B d4_12) rfl rfl k)) ?_
 obtain ⟨T227, X227, e227, st227⟩ := getF X225 hx hZ hown (host := "") (Or.inl (ww hw 11 rfl)) Via.refl e225 P2 (g := (mkF m 13 (Sh0 a1 dx) [(.ref a1)])) rfl rfl (B d4_13)
 refine GoW.sg (mkF m 16 (Sh0 a1 dx) [(.ref a2)]) (fun t k => st227 t k) ?_
 refine GoW.sg (mkF m 17 (Sh0 a1 dx) [(.ref a1), (.ref a2)]) (fun t k => XS.aloadN X227.here hx rfl (B d4_16) rfl rfl k) ?_
 obtain ⟨T228, X228, e228, st228⟩ := getF X227 hx hZ hown (host := "") (Or.inl (ww hw 18 rfl)) Via.refl e227 P1 (g := (mkF m 17 (Sh0 a1 dx) [(.ref a1), (.ref a2)])) rfl rfl (B d4_17)
 refine GoW.sg (mkF m 20 (Sh0 a1 dx) [(.int 2), (.ref a2)]) (fun t k => st228 t k) ?_
 refine GoW.sg (mkF m 21 (Sh0 a1 dx) [(.double dx), (.int 2), (.ref a2)]) (fun t k => XS.dloadN X228.here hx rfl (B d4_20) rfl k) ?_
 obtain ⟨cl229, Ar229, q229, Sz229, Nn229, Hh229, Gg229⟩ := P3
 have hin229 : ¬ ((2 : Int32) < 0 ∨ cl229.slots.size ≤ ((2 : Int32)).toNatClampNeg) := inb_of Sz229 ⟨by decide, by decide⟩
 obtain ⟨T229, h229, X229, e229, W229, st229⟩ := stD X228 hx hZ e228 Ar229 (j := (2 : Int32)) hin229 (g := (mkF m 21 (Sh0 a1 dx) [(.double dx), (.int 2), (.ref a2)])) rfl rfl (B d4_21)
 have f229_1 := P0.wr W229
 have f229_2 := P1.other W229 (Or.inl ne_a1_a2)
 have f229_3 := P2.other W229 (Or.inl ne_a1_a2)
 have f229_4 := (Keep.refl h0 [a1, a2]).wr W229 (Or.inl (List.mem_of_getElem? (i := 1) rfl))
 have V229 : Arv Z h229 a2 ka2 .double (3 : Int32) [(.double d0), (.double d1), (.double dx)] (.double (0 : UInt64)) := Arv.set Ar229 q229 Sz229 Nn229 Hh229 Gg229 rfl W229 2 rfl (Nat.le_of_ble_eq_true rfl)
 have N229 := Fr.snoc X229 N0 g_a2
 refine GoW.sg (mkF m 22 (Sh0 a1 dx) []) (fun t k => st229 t k) ?_
 refine GoW.sg (mkF m 25 (Sh0 a1 dx) [(.ref a1), (.ref a1), (.ref a1)]) (fun t k => XS.aloadN X229.here hx rfl (B d4_22) rfl rfl (XS.aloadN X229.here hx rfl (B d4_23) rfl rfl (XS.dup X229.here hx rfl (B d4_24) rfl rfl k))) ?_
 obtain ⟨T230, X230, e230, st230⟩ := getF X229 hx hZ hown (host := "") (Or.inl (ww hw 18 rfl)) Via.refl e229 f229_2 (g := (mkF m 25 (Sh0 a1 dx) [(.ref a1), (.ref a1), (.ref a1)])) rfl rfl (B d4_25)
 refine GoW.sg (mkF m 28 (Sh0 a1 dx) [(.int 2), (.ref a1), (.ref a1)]) (fun t k => st230 t k) ?_
 refine GoW.sg (mkF m 29 (Sh0 a1 dx) [(.int 2), (.ref a1), (.int 2), (.ref a1)]) (fun t k => XT.dupX1 X230.here hx rfl (B d4_28) rfl rfl rfl k) ?_
 refine GoW.sg (mkF m 30 (Sh0 a1 dx) [(.int 1), (.int 2), (.ref a1), (.int 2), (.ref a1)]) (fun t k => XS.iconst X230.here hx rfl (B d4_29) k) ?_
 refine GoW.st (fun t k => XS.iadd X230.here hx rfl (B d4_30) rfl k) ?_
 rw [show ((2 : Int32) + (1 : Int32)) = (3 : Int32) from by decide]
 show GoW p e below s (QO32 Z a1 dx x v0 v1 d0 d1 a2 ka2 h0 n0) 0 0 (T230.setTop (mkF m 31 (Sh0 a1 dx) [(.int 3), (.ref a1), (.int 2), (.ref a1)]))
 obtain ⟨T231, h231, X231, e231, W231, st231⟩ := putF X230 hx hZ hown (host := "") (Or.inl (ww hw 18 rfl)) Via.refl e230 f229_2 f229_1 (Or.inl (ww hw 19 rfl)) (ww hw 2 rfl) (ty := .int) (by decide) rfl rfl (g := (mkF m 31 (Sh0 a1 dx) [(.int 3), (.ref a1), (.int 2), (.ref a1)])) rfl rfl (B d4_31)
 have N231 := Fr.snoc X231 N229 g_a1
 have f231_5 := f229_1.wr W231
 have f231_6 := f229_3.other W231 (Or.inr (slot_ne (t := (.array .double)) (t' := .int) (Or.inr (ww hw 12 rfl)) (Or.inl (ww hw 19 rfl)) (by decide) (by decide) (by decide)))
 have f231_7 := V229.other W231 (Ne.symm ne_a1_a2)
 have f231_8 := f229_4.wr W231 (Or.inl (List.mem_of_getElem? (i := 0) rfl))
 have F231size : Fld Z h231 a1 HSn "size" "I" (.int (3 : Int32)) := f229_2.same W231
 refine GoW.sg (mkF m 34 (Sh0 a1 dx) [(.int 2), (.ref a1)]) (fun t k => st231 t k) ?_
 by_cases c236 : (Int32.toInt64 x) < (Int32.toInt64 v0)
 ·show GoW p e below s (QO32 Z a1 dx x v0 v1 d0 d1 a2 ka2 h0 n0) 0 0 (T231.setTop (mkF m 34 (Sh0 a1 dx) [(.int 2), (.ref a1)]))
  obtain ⟨_, T257, L257, X257, hQ257, st257⟩ := own_priv X231 hx hZ (y := Y5) hown (ww hw 27 rfl) (ww hw 29 rfl) (ww hw 2 rfl) (ww hw 28 rfl) (ww hw 30 rfl) (ww hw 3 rfl) (by decide) 0 (a := a1) (rm5_11 l Z a0 hw a1 a2 ka2 d0 d1 dx x v0 v1 h231 n0 f231_6 f231_7 g_a2 ne_a1_a2 c236 hd0 hd1 hdx ) (by decide) (by decide) e231 f231_5 (by decide) (by decide) (g := (mkF m 34 (Sh0 a1 dx) [(.int 2), (.ref a1)])) rfl (by rw [hml]; rfl) (argsL := [(.int (2 : Int32))]) (rest := []) (lenOf pd_28I29V rfl) rfl (Nat.le_of_eq rfl) (B d4_34)
  obtain ⟨rfl, N257q, K257, p257_0⟩ := hQ257
  have N257 := Fr.app N231 N257q
  have f257_9 := f231_5.keep K257
  have f257_10 := F231size.keep K257 (ninS ne_a1_a2 nin0)
  have f257_11 := f231_6.keep K257 (ninS ne_a1_a2 nin0)
  have f257_12 := f231_8.trans K257 (allS (Or.inl (List.mem_of_getElem? (i := 1) rfl)) all0)
  refine GoW.sg (mkF m 37 (Sh0 a1 dx) []) (fun t k => st257 t k) ?_
  refine GoW.sg (mkF m 63 (Sh0 a1 dx) []) (fun t k => XS.goto X257.here hx rfl (pc0 := 37) (pc' := 63) rfl (B d4_37) (by decide) (by decide) k) ?_
  refine GoW.retV X257 hx Bd.returns (B d4_63) Bd.notSynchronized ?_ (by decide) (by decide)
  simp only [Int64.lt_iff_toInt_lt, Int32.toInt_toInt64] at c236
  exact ⟨x, v1, v0, dx, d1, d0, rfl, N257, f257_12, f257_9, f257_10, f257_11, p257_0, hdx, hd1, hd0, by omega, fun z => by omega⟩
 ·show GoW p e below s (QO32 Z a1 dx x v0 v1 d0 d1 a2 ka2 h0 n0) 0 0 (T231.setTop (mkF m 34 (Sh0 a1 dx) [(.int 2), (.ref a1)]))
  obtain ⟨_, T270, L270, X270, hQ270, st270⟩ := own_priv X231 hx hZ (y := Y5) hown (ww hw 27 rfl) (ww hw 29 rfl) (ww hw 2 rfl) (ww hw 28 rfl) (ww hw 30 rfl) (ww hw 3 rfl) (by decide) 0 (a := a1) (rm5_12 l Z a0 hw a1 a2 ka2 d0 d1 dx x v0 v1 h231 n0 f231_6 f231_7 g_a2 c236 hd0 hd1 hdx ) (by decide) (by decide) e231 f231_5 (by decide) (by decide) (g := (mkF m 34 (Sh0 a1 dx) [(.int 2), (.ref a1)])) rfl (by rw [hml]; rfl) (argsL := [(.int (2 : Int32))]) (rest := []) (lenOf pd_28I29V rfl) rfl (Nat.le_of_eq rfl) (B d4_34)
  obtain ⟨rfl, N270q, K270, p270_0⟩ := hQ270
  have N270 := Fr.app N231 N270q
  have f270_13 := f231_5.keep K270
  have f270_14 := F231size.keep K270 (ninS ne_a1_a2 nin0)
  have f270_15 := f231_6.keep K270 (ninS ne_a1_a2 nin0)
  have f270_16 := f231_8.trans K270 (allS (Or.inl (List.mem_of_getElem? (i := 1) rfl)) all0)
  refine GoW.sg (mkF m 37 (Sh0 a1 dx) []) (fun t k => st270 t k) ?_
  refine GoW.sg (mkF m 63 (Sh0 a1 dx) []) (fun t k => XS.goto X270.here hx rfl (pc0 := 37) (pc' := 63) rfl (B d4_37) (by decide) (by decide) k) ?_
  refine GoW.retV X270 hx Bd.returns (B d4_63) Bd.notSynchronized ?_ (by decide) (by decide)
  simp only [Int64.lt_iff_toInt_lt, Int32.toInt_toInt64] at c236
  exact ⟨v0, v1, x, d0, d1, dx, rfl, N270, f270_16, f270_13, f270_14, f270_15, p270_0, hd0, hd1, hdx, by omega, fun z => by omega⟩
def Q8_13 (Z : State) (a1c a2c : Addr) (ka2c : ClassId) (x1c x2c x3c : UInt64) (x4c x5c x6c : Int32) (h0 : Heap) (n0 : Nat) (v : Option Value) (h : Heap) (L : List Loc) : Prop := v = none ∧ Fr n0 L ∧ (Keep h0 h [a2c]) ∧ (Arv Z h a2c ka2c .double 3 [(.double x3c), (.double x2c), (.double x1c)] (.double 0))
theorem rm8_13 (l : Launch) (Z : State) (a0 : Array Value) (hw : HW a0 Z) (a1c a2c : Addr) (ka2c : ClassId) (x1c x2c x3c : UInt64) (x4c x5c x6c : Int32) (h0 : Heap) (n0 : Nat) (P0 : Fld Z h0 a1c HSn "heap" "[D" (.ref a2c)) (P1 : Fld Z h0 a1c HSn "size" "I" (.int 3)) (P2 : Arv Z h0 a2c ka2c .double 3 [(.double x1c), (.double x2c), (.double x3c)] (.double 0)) (g_a2c : n0 ≤ a2c) (ne_a1c_a2c : a1c ≠ a2c) (u0 : (Int32.toInt64 x4c) < (Int32.toInt64 x5c)) (u1 : (Int32.toInt64 x4c) < (Int32.toInt64 x6c)) (hx1c : x1c = FP.l2d (Int32.toInt64 x6c)) (hx2c : x2c = FP.l2d (Int32.toInt64 x5c)) (hx3c : x3c = FP.l2d (Int32.toInt64 x4c)) :
  MM l Z Y8 prog_43_method_5_code 5 none 0 0 0 0 #[(.ref a1c), (.int 0)] h0 (Q8_13 Z a1c a2c ka2c x1c x2c x3c x4c x5c x6c h0 n0) := by
 refine own_start (fun m => (mkF m 0 (Sh3 a1c 0) [])) (plainFor_of_name pn_com_example_nearterm_nearterm_retrieval_HighestScores) (by simp [entryFrame, mkF, argsToLocals, Value.category]) n0 ?_
 intro p e s m below meth c s₁ Bd hx B hml hZ hown hnm X0 e0 N0
 refine GoW.sg (mkF m 1 (Sh3 a1c 0) [(.ref a1c)]) (fun t k => XS.aloadN X0.here hx rfl (B d8_0) rfl rfl k) ?_
 obtain ⟨T316, X316, e316, st316⟩ := getF X0 hx hZ hown (host := "") (Or.inl (ww hw 11 rfl)) Via.refl e0 P0 (g := (mkF m 1 (Sh3 a1c 0) [(.ref a1c)])) rfl rfl (B d8_1)
 refine GoW.sg (mkF m 4 (Sh3 a1c 0) [(.ref a2c)]) (fun t k => st316 t k) ?_
 refine GoW.sg (mkF m 5 (Sh3 a1c 0) [(.int 0), (.ref a2c)]) (fun t k => XS.iloadN X316.here hx rfl (B d8_4) rfl k) ?_
 obtain ⟨cl317, Ar317, q317, Sz317, Nn317, Hh317, Gg317⟩ := id P2
 have hin317 : ¬ ((0 : Int32) < 0 ∨ cl317.slots.size ≤ ((0 : Int32)).toNatClampNeg) := inb_of Sz317 ⟨by decide, by decide⟩
 refine GoW.sg (mkF m 6 (Sh3 a1c 0) [(.double x1c)]) (fun t k => X316.daload hx (j := (0 : Int32)) (v := (.double x1c)) (hq_ e316 Ar317.1) (State.isArrayOf_alike hZ.alike Ar317.2.1) Ar317.2.2 hin317 (Hh317.at hin317 rfl) (g := (mkF m 5 (Sh3 a1c 0) [(.int 0), (.ref a2c)])) rfl rfl (B d8_5) t k) ?_
 refine GoW.sg (mkF m 9 (Sh4 a1c 0 x1c) [(.int 0), (.int 2)]) (fun t k => XS.dstoreN X316.here hx rfl (B d8_6) rfl (l' := (Sh4 a1c 0 x1c)) rfl (XS.iconst X316.here hx rfl (B d8_7) (XS.iloadN X316.here hx rfl (B d8_8) rfl k))) ?_
 refine GoW.st (fun t k => XS.imul X316.here hx rfl (B d8_9) rfl k) ?_
 rw [show ((2 : Int32) * (0 : Int32)) = (0 : Int32) from by decide]
 show GoW p e below s (Q8_13 Z a1c a2c ka2c x1c x2c x3c x4c x5c x6c h0 n0) 0 0 (T316.setTop (mkF m 10 (Sh4 a1c 0 x1c) [(.int 0)]))
 refine GoW.sg (mkF m 11 (Sh4 a1c 0 x1c) [(.int 1), (.int 0)]) (fun t k => XS.iconst X316.here hx rfl (B d8_10) k) ?_
 refine GoW.st (fun t k => XS.iadd X316.here hx rfl (B d8_11) rfl k) ?_
 rw [show ((0 : Int32) + (1 : Int32)) = (1 : Int32) from by decide]
 show GoW p e below s (Q8_13 Z a1c a2c ka2c x1c x2c x3c x4c x5c x6c h0 n0) 0 0 (T316.setTop (mkF m 12 (Sh4 a1c 0 x1c) [(.int 1)]))
 refine GoW.sg (mkF m 13 (Sh4 a1c 0 x1c) [(.ref a1c), (.int 1)]) (fun t k => XS.aloadN X316.here hx rfl (B d8_12) rfl rfl k) ?_
 obtain ⟨T318, X318, e318, st318⟩ := getF X316 hx hZ hown (host := "") (Or.inl (ww hw 18 rfl)) Via.refl e316 P1 (g := (mkF m 13 (Sh4 a1c 0 x1c) [(.ref a1c), (.int 1)])) rfl rfl (B d8_13)
 refine GoW.sg (mkF m 16 (Sh4 a1c 0 x1c) [(.int 3), (.int 1)]) (fun t k => st318 t k) ?_
 refine GoW.sg (mkF m 21 (Sh4 a1c 0 x1c) [(.int 0), (.int 2)]) (fun t k => XS.icmpNo X318.here hx rfl (B d8_16) rfl (by decide) (XS.iconst X318.here hx rfl (B d8_19) (XS.iloadN X318.here hx rfl (B d8_20) rfl k))) ?_
 refine GoW.st (fun t k => XS.imul X318.here hx rfl (B d8_21) rfl k) ?_
 rw [show ((2 : Int32) * (0 : Int32)) = (0 : Int32) from by decide]
 show GoW p e below s (Q8_13 Z a1c a2c ka2c x1c x2c x3c x4c x5c x6c h0 n0) 0 0 (T318.setTop (mkF m 22 (Sh4 a1c 0 x1c) [(.int 0)]))
 refine GoW.sg (mkF m 23 (Sh4 a1c 0 x1c) [(.int 1), (.int 0)]) (fun t k => XS.iconst X318.here hx rfl (B d8_22) k) ?_
 refine GoW.st (fun t k => XS.iadd X318.here hx rfl (B d8_23) rfl k) ?_
 rw [show ((0 : Int32) + (1 : Int32)) = (1 : Int32) from by decide]
 show GoW p e below s (Q8_13 Z a1c a2c ka2c x1c x2c x3c x4c x5c x6c h0 n0) 0 0 (T318.setTop (mkF m 24 (Sh4 a1c 0 x1c) [(.int 1)]))
 refine GoW.sg (mkF m 29 (Sh5 a1c 0 x1c 1) [(.int 1), (.int 1)]) (fun t k => XS.istore X318.here hx rfl (B d8_24) rfl (l' := (Sh5 a1c 0 x1c 1)) rfl (XS.iload X318.here hx rfl (B d8_26) rfl (XS.iconst X318.here hx rfl (B d8_28) k))) ?_
 refine GoW.st (fun t k => XS.iadd X318.here hx rfl (B d8_29) rfl k) ?_
 rw [show ((1 : Int32) + (1 : Int32)) = (2 : Int32) from by decide]
 show GoW p e below s (Q8_13 Z a1c a2c ka2c x1c x2c x3c x4c x5c x6c h0 n0) 0 0 (T318.setTop (mkF m 30 (Sh5 a1c 0 x1c 1) [(.int 2)]))
 refine GoW.sg (mkF m 31 (Sh5 a1c 0 x1c 1) [(.ref a1c), (.int 2)]) (fun t k => XS.aloadN X318.here hx rfl (B d8_30) rfl rfl k) ?_
 obtain ⟨T319, X319, e319, st319⟩ := getF X318 hx hZ hown (host := "") (Or.inl (ww hw 18 rfl)) Via.refl e318 P1 (g := (mkF m 31 (Sh5 a1c 0 x1c 1) [(.ref a1c), (.int 2)])) rfl rfl (B d8_31)
 refine GoW.sg (mkF m 34 (Sh5 a1c 0 x1c 1) [(.int 3), (.int 2)]) (fun t k => st319 t k) ?_
 refine GoW.sg (mkF m 38 (Sh5 a1c 0 x1c 1) [(.ref a1c)]) (fun t k => XS.icmpNo X319.here hx rfl (B d8_34) rfl (by decide) (XS.aloadN X319.here hx rfl (B d8_37) rfl rfl k)) ?_
 obtain ⟨T320, X320, e320, st320⟩ := getF X319 hx hZ hown (host := "") (Or.inl (ww hw 11 rfl)) Via.refl e319 P0 (g := (mkF m 38 (Sh5 a1c 0 x1c 1) [(.ref a1c)])) rfl rfl (B d8_38)
 refine GoW.sg (mkF m 41 (Sh5 a1c 0 x1c 1) [(.ref a2c)]) (fun t k => st320 t k) ?_
 refine GoW.sg (mkF m 44 (Sh5 a1c 0 x1c 1) [(.int 1), (.int 1), (.ref a2c)]) (fun t k => XS.iload X320.here hx rfl (B d8_41) rfl (XS.iconst X320.here hx rfl (B d8_43) k)) ?_
 refine GoW.st (fun t k => XS.iadd X320.here hx rfl (B d8_44) rfl k) ?_
 rw [show ((1 : Int32) + (1 : Int32)) = (2 : Int32) from by decide]
 show GoW p e below s (Q8_13 Z a1c a2c ka2c x1c x2c x3c x4c x5c x6c h0 n0) 0 0 (T320.setTop (mkF m 45 (Sh5 a1c 0 x1c 1) [(.int 2), (.ref a2c)]))
 obtain ⟨cl321, Ar321, q321, Sz321, Nn321, Hh321, Gg321⟩ := id P2
 have hin321 : ¬ ((2 : Int32) < 0 ∨ cl321.slots.size ≤ ((2 : Int32)).toNatClampNeg) := inb_of Sz321 ⟨by decide, by decide⟩
 refine GoW.sg (mkF m 46 (Sh5 a1c 0 x1c 1) [(.double x3c)]) (fun t k => X320.daload hx (j := (2 : Int32)) (v := (.double x3c)) (hq_ e320 Ar321.1) (State.isArrayOf_alike hZ.alike Ar321.2.1) Ar321.2.2 hin321 (Hh321.at hin321 rfl) (g := (mkF m 45 (Sh5 a1c 0 x1c 1) [(.int 2), (.ref a2c)])) rfl rfl (B d8_45) t k) ?_
 refine GoW.sg (mkF m 47 (Sh5 a1c 0 x1c 1) [(.ref a1c), (.double x3c)]) (fun t k => XS.aloadN X320.here hx rfl (B d8_46) rfl rfl k) ?_
 obtain ⟨T322, X322, e322, st322⟩ := getF X320 hx hZ hown (host := "") (Or.inl (ww hw 11 rfl)) Via.refl e320 P0 (g := (mkF m 47 (Sh5 a1c 0 x1c 1) [(.ref a1c), (.double x3c)])) rfl rfl (B d8_47)
 refine GoW.sg (mkF m 50 (Sh5 a1c 0 x1c 1) [(.ref a2c), (.double x3c)]) (fun t k => st322 t k) ?_
 refine GoW.sg (mkF m 52 (Sh5 a1c 0 x1c 1) [(.int 1), (.ref a2c), (.double x3c)]) (fun t k => XS.iload X322.here hx rfl (B d8_50) rfl k) ?_
 obtain ⟨cl323, Ar323, q323, Sz323, Nn323, Hh323, Gg323⟩ := id P2
 have hin323 : ¬ ((1 : Int32) < 0 ∨ cl323.slots.size ≤ ((1 : Int32)).toNatClampNeg) := inb_of Sz323 ⟨by decide, by decide⟩
 refine GoW.sg (mkF m 53 (Sh5 a1c 0 x1c 1) [(.double x2c), (.double x3c)]) (fun t k => X322.daload hx (j := (1 : Int32)) (v := (.double x2c)) (hq_ e322 Ar323.1) (State.isArrayOf_alike hZ.alike Ar323.2.1) Ar323.2.2 hin323 (Hh323.at hin323 rfl) (g := (mkF m 52 (Sh5 a1c 0 x1c 1) [(.int 1), (.ref a2c), (.double x3c)])) rfl rfl (B d8_52) t k) ?_
 refine GoW.sg (mkF m 61 (Sh5 a1c 0 x1c 2) [(.ref a1c)]) (fun t k => XS.dcmpS X322.here hx rfl (B d8_53) rfl (v := (lcmpW (Int32.toInt64 x4c) (Int32.toInt64 x5c))) (by rw [hx3c, hx2c]; exact dcmpV_w (own_b53 _) (own_b53 _) _) (XS.ifNo X322.here hx rfl (B d8_54) rfl ((if0 _ _).trans (tlt ((lw_lt _ _).mpr u0)).2.1) (XS.iinc X322.here hx rfl (B d8_57) rfl (l' := (Sh5 a1c 0 x1c 2)) rfl (XS.aloadN X322.here hx rfl (B d8_60) rfl rfl k)))) ?_
 obtain ⟨T324, X324, e324, st324⟩ := getF X322 hx hZ hown (host := "") (Or.inl (ww hw 11 rfl)) Via.refl e322 P0 (g := (mkF m 61 (Sh5 a1c 0 x1c 2) [(.ref a1c)])) rfl rfl (B d8_61)
 refine GoW.sg (mkF m 64 (Sh5 a1c 0 x1c 2) [(.ref a2c)]) (fun t k => st324 t k) ?_
 refine GoW.sg (mkF m 66 (Sh5 a1c 0 x1c 2) [(.int 2), (.ref a2c)]) (fun t k => XS.iload X324.here hx rfl (B d8_64) rfl k) ?_
 obtain ⟨cl325, Ar325, q325, Sz325, Nn325, Hh325, Gg325⟩ := id P2
 have hin325 : ¬ ((2 : Int32) < 0 ∨ cl325.slots.size ≤ ((2 : Int32)).toNatClampNeg) := inb_of Sz325 ⟨by decide, by decide⟩
 refine GoW.sg (mkF m 67 (Sh5 a1c 0 x1c 2) [(.double x3c)]) (fun t k => X324.daload hx (j := (2 : Int32)) (v := (.double x3c)) (hq_ e324 Ar325.1) (State.isArrayOf_alike hZ.alike Ar325.2.1) Ar325.2.2 hin325 (Hh325.at hin325 rfl) (g := (mkF m 66 (Sh5 a1c 0 x1c 2) [(.int 2), (.ref a2c)])) rfl rfl (B d8_66) t k) ?_
 refine GoW.sg (mkF m 76 (Sh5 a1c 0 x1c 2) [(.ref a1c)]) (fun t k => XS.dloadN X324.here hx rfl (B d8_67) rfl (XS.dcmpS X324.here hx rfl (B d8_68) rfl (v := (lcmpW (Int32.toInt64 x4c) (Int32.toInt64 x6c))) (by rw [hx3c, hx1c]; exact dcmpV_w (own_b53 _) (own_b53 _) _) (XS.ifYes X324.here hx rfl (pc0 := 69) (pc' := 75) rfl (B d8_69) rfl ((if0 _ _).trans (tlt ((lw_lt _ _).mpr u1)).1) (by decide) (by decide) (XS.aloadN X324.here hx rfl (B d8_75) rfl rfl k)))) ?_
 obtain ⟨T326, X326, e326, st326⟩ := getF X324 hx hZ hown (host := "") (Or.inl (ww hw 11 rfl)) Via.refl e324 P0 (g := (mkF m 76 (Sh5 a1c 0 x1c 2) [(.ref a1c)])) rfl rfl (B d8_76)
 refine GoW.sg (mkF m 79 (Sh5 a1c 0 x1c 2) [(.ref a2c)]) (fun t k => st326 t k) ?_
 refine GoW.sg (mkF m 81 (Sh5 a1c 0 x1c 2) [(.ref a1c), (.int 0), (.ref a2c)]) (fun t k => XS.iloadN X326.here hx rfl (B d8_79) rfl (XS.aloadN X326.here hx rfl (B d8_80) rfl rfl k)) ?_
 obtain ⟨T327, X327, e327, st327⟩ := getF X326 hx hZ hown (host := "") (Or.inl (ww hw 11 rfl)) Via.refl e326 P0 (g := (mkF m 81 (Sh5 a1c 0 x1c 2) [(.ref a1c), (.int 0), (.ref a2c)])) rfl rfl (B d8_81)
 refine GoW.sg (mkF m 84 (Sh5 a1c 0 x1c 2) [(.ref a2c), (.int 0), (.ref a2c)]) (fun t k => st327 t k) ?_
 refine GoW.sg (mkF m 86 (Sh5 a1c 0 x1c 2) [(.int 2), (.ref a2c), (.int 0), (.ref a2c)]) (fun t k => XS.iload X327.here hx rfl (B d8_84) rfl k) ?_
 obtain ⟨cl328, Ar328, q328, Sz328, Nn328, Hh328, Gg328⟩ := id P2
 have hin328 : ¬ ((2 : Int32) < 0 ∨ cl328.slots.size ≤ ((2 : Int32)).toNatClampNeg) := inb_of Sz328 ⟨by decide, by decide⟩
 refine GoW.sg (mkF m 87 (Sh5 a1c 0 x1c 2) [(.double x3c), (.int 0), (.ref a2c)]) (fun t k => X327.daload hx (j := (2 : Int32)) (v := (.double x3c)) (hq_ e327 Ar328.1) (State.isArrayOf_alike hZ.alike Ar328.2.1) Ar328.2.2 hin328 (Hh328.at hin328 rfl) (g := (mkF m 86 (Sh5 a1c 0 x1c 2) [(.int 2), (.ref a2c), (.int 0), (.ref a2c)])) rfl rfl (B d8_86) t k) ?_
 obtain ⟨cl329, Ar329, q329, Sz329, Nn329, Hh329, Gg329⟩ := P2
 have hin329 : ¬ ((0 : Int32) < 0 ∨ cl329.slots.size ≤ ((0 : Int32)).toNatClampNeg) := inb_of Sz329 ⟨by decide, by decide⟩
 obtain ⟨T329, h329, X329, e329, W329, st329⟩ := stD X327 hx hZ e327 Ar329 (j := (0 : Int32)) hin329 (g := (mkF m 87 (Sh5 a1c 0 x1c 2) [(.double x3c), (.int 0), (.ref a2c)])) rfl rfl (B d8_87)
 have f329_1 := P0.other W329 (Or.inl ne_a1c_a2c)
 have f329_2 := P1.other W329 (Or.inl ne_a1c_a2c)
 have f329_3 := (Keep.refl h0 [a2c]).wr W329 (Or.inl (List.mem_of_getElem? (i := 0) rfl))
 have V329 : Arv Z h329 a2c ka2c .double (3 : Int32) [(.double x3c), (.double x2c), (.double x3c)] (.double (0 : UInt64)) := Arv.set Ar329 q329 Sz329 Nn329 Hh329 Gg329 rfl W329 0 rfl (Nat.le_of_ble_eq_true rfl)
 have N329 := Fr.snoc X329 N0 g_a2c
 refine GoW.sg (mkF m 88 (Sh5 a1c 0 x1c 2) []) (fun t k => st329 t k) ?_
 refine GoW.sg (mkF m 9 (Sh5 a1c 2 x1c 2) [(.int 2), (.int 2)]) (fun t k => XS.iload X329.here hx rfl (B d8_88) rfl (XS.istoreN X329.here hx rfl (B d8_90) rfl (l' := (Sh5 a1c 2 x1c 2)) rfl (XS.goto X329.here hx rfl (pc0 := 91) (pc' := 7) rfl (B d8_91) (by decide) (by decide) (XS.iconst X329.here hx rfl (B d8_7) (XS.iloadN X329.here hx rfl (B d8_8) rfl k))))) ?_
 refine GoW.st (fun t k => XS.imul X329.here hx rfl (B d8_9) rfl k) ?_
 rw [show ((2 : Int32) * (2 : Int32)) = (4 : Int32) from by decide]
 show GoW p e below s (Q8_13 Z a1c a2c ka2c x1c x2c x3c x4c x5c x6c h0 n0) 0 0 (T329.setTop (mkF m 10 (Sh5 a1c 2 x1c 2) [(.int 4)]))
 refine GoW.sg (mkF m 11 (Sh5 a1c 2 x1c 2) [(.int 1), (.int 4)]) (fun t k => XS.iconst X329.here hx rfl (B d8_10) k) ?_
 refine GoW.st (fun t k => XS.iadd X329.here hx rfl (B d8_11) rfl k) ?_
 rw [show ((4 : Int32) + (1 : Int32)) = (5 : Int32) from by decide]
 show GoW p e below s (Q8_13 Z a1c a2c ka2c x1c x2c x3c x4c x5c x6c h0 n0) 0 0 (T329.setTop (mkF m 12 (Sh5 a1c 2 x1c 2) [(.int 5)]))
 refine GoW.sg (mkF m 13 (Sh5 a1c 2 x1c 2) [(.ref a1c), (.int 5)]) (fun t k => XS.aloadN X329.here hx rfl (B d8_12) rfl rfl k) ?_
 obtain ⟨T330, X330, e330, st330⟩ := getF X329 hx hZ hown (host := "") (Or.inl (ww hw 18 rfl)) Via.refl e329 f329_2 (g := (mkF m 13 (Sh5 a1c 2 x1c 2) [(.ref a1c), (.int 5)])) rfl rfl (B d8_13)
 refine GoW.sg (mkF m 16 (Sh5 a1c 2 x1c 2) [(.int 3), (.int 5)]) (fun t k => st330 t k) ?_
 refine GoW.sg (mkF m 95 (Sh5 a1c 2 x1c 2) [(.ref a1c)]) (fun t k => XS.icmpYes X330.here hx rfl (pc0 := 16) (pc' := 94) rfl (B d8_16) rfl (by decide) (by decide) (by decide) (XS.aloadN X330.here hx rfl (B d8_94) rfl rfl k)) ?_
 obtain ⟨T331, X331, e331, st331⟩ := getF X330 hx hZ hown (host := "") (Or.inl (ww hw 11 rfl)) Via.refl e330 f329_1 (g := (mkF m 95 (Sh5 a1c 2 x1c 2) [(.ref a1c)])) rfl rfl (B d8_95)
 refine GoW.sg (mkF m 98 (Sh5 a1c 2 x1c 2) [(.ref a2c)]) (fun t k => st331 t k) ?_
 refine GoW.sg (mkF m 100 (Sh5 a1c 2 x1c 2) [(.double x1c), (.int 2), (.ref a2c)]) (fun t k => XS.iloadN X331.here hx rfl (B d8_98) rfl (XS.dloadN X331.here hx rfl (B d8_99) rfl k)) ?_
 obtain ⟨cl332, Ar332, q332, Sz332, Nn332, Hh332, Gg332⟩ := V329
 have hin332 : ¬ ((2 : Int32) < 0 ∨ cl332.slots.size ≤ ((2 : Int32)).toNatClampNeg) := inb_of Sz332 ⟨by decide, by decide⟩
 obtain ⟨T332, h332, X332, e332, W332, st332⟩ := stD X331 hx hZ e331 Ar332 (j := (2 : Int32)) hin332 (g := (mkF m 100 (Sh5 a1c 2 x1c 2) [(.double x1c), (.int 2), (.ref a2c)])) rfl rfl (B d8_100)
 have f332_6 := f329_3.wr W332 (Or.inl (List.mem_of_getElem? (i := 0) rfl))
 have V332 : Arv Z h332 a2c ka2c .double (3 : Int32) [(.double x3c), (.double x2c), (.double x1c)] (.double (0 : UInt64)) := Arv.set Ar332 q332 Sz332 Nn332 Hh332 Gg332 rfl W332 2 rfl (Nat.le_of_ble_eq_true rfl)
 have N332 := Fr.snoc X332 N329 g_a2c
 refine GoW.sg (mkF m 101 (Sh5 a1c 2 x1c 2) []) (fun t k => st332 t k) ?_
 refine GoW.retV X332 hx Bd.returns (B d8_101) Bd.notSynchronized ?_ (by decide) (by decide)
 rw [e332]
 exact ⟨rfl, N332, f332_6, V332⟩
def Q8_14 (Z : State) (a1c a2c : Addr) (ka2c : ClassId) (x1c x2c x3c : UInt64) (x4c x5c x6c : Int32) (h0 : Heap) (n0 : Nat) (v : Option Value) (h : Heap) (L : List Loc) : Prop := v = none ∧ Fr n0 L ∧ (Keep h0 h [a2c]) ∧ (Arv Z h a2c ka2c .double 3 [(.double x1c), (.double x2c), (.double x3c)] (.double 0))
theorem rm8_14 (l : Launch) (Z : State) (a0 : Array Value) (hw : HW a0 Z) (a1c a2c : Addr) (ka2c : ClassId) (x1c x2c x3c : UInt64) (x4c x5c x6c : Int32) (h0 : Heap) (n0 : Nat) (P0 : Fld Z h0 a1c HSn "heap" "[D" (.ref a2c)) (P1 : Fld Z h0 a1c HSn "size" "I" (.int 3)) (P2 : Arv Z h0 a2c ka2c .double 3 [(.double x1c), (.double x2c), (.double x3c)] (.double 0)) (g_a2c : n0 ≤ a2c) (u0 : (Int32.toInt64 x4c) < (Int32.toInt64 x5c)) (u1 : ¬ ((Int32.toInt64 x4c) < (Int32.toInt64 x6c))) (hx1c : x1c = FP.l2d (Int32.toInt64 x6c)) (hx2c : x2c = FP.l2d (Int32.toInt64 x5c)) (hx3c : x3c = FP.l2d (Int32.toInt64 x4c)) :
  MM l Z Y8 prog_43_method_5_code 5 none 0 0 0 0 #[(.ref a1c), (.int 0)] h0 (Q8_14 Z a1c a2c ka2c x1c x2c x3c x4c x5c x6c h0 n0) := by
 refine own_start (fun m => (mkF m 0 (Sh3 a1c 0) [])) (plainFor_of_name pn_com_example_nearterm_nearterm_retrieval_HighestScores) (by simp [entryFrame, mkF, argsToLocals, Value.category]) n0 ?_
 intro p e s m below meth c s₁ Bd hx B hml hZ hown hnm X0 e0 N0
 refine GoW.sg (mkF m 1 (Sh3 a1c 0) [(.ref a1c)]) (fun t k => XS.aloadN X0.here hx rfl (B d8_0) rfl rfl k) ?_
 obtain ⟨T346, X346, e346, st346⟩ := getF X0 hx hZ hown (host := "") (Or.inl (ww hw 11 rfl)) Via.refl e0 P0 (g := (mkF m 1 (Sh3 a1c 0) [(.ref a1c)])) rfl rfl (B d8_1)
 refine GoW.sg (mkF m 4 (Sh3 a1c 0) [(.ref a2c)]) (fun t k => st346 t k) ?_
 refine GoW.sg (mkF m 5 (Sh3 a1c 0) [(.int 0), (.ref a2c)]) (fun t k => XS.iloadN X346.here hx rfl (B d8_4) rfl k) ?_
 obtain ⟨cl347, Ar347, q347, Sz347, Nn347, Hh347, Gg347⟩ := id P2
 have hin347 : ¬ ((0 : Int32) < 0 ∨ cl347.slots.size ≤ ((0 : Int32)).toNatClampNeg) := inb_of Sz347 ⟨by decide, by decide⟩
 refine GoW.sg (mkF m 6 (Sh3 a1c 0) [(.double x1c)]) (fun t k => X346.daload hx (j := (0 : Int32)) (v := (.double x1c)) (hq_ e346 Ar347.1) (State.isArrayOf_alike hZ.alike Ar347.2.1) Ar347.2.2 hin347 (Hh347.at hin347 rfl) (g := (mkF m 5 (Sh3 a1c 0) [(.int 0), (.ref a2c)])) rfl rfl (B d8_5) t k) ?_
 refine GoW.sg (mkF m 9 (Sh4 a1c 0 x1c) [(.int 0), (.int 2)]) (fun t k => XS.dstoreN X346.here hx rfl (B d8_6) rfl (l' := (Sh4 a1c 0 x1c)) rfl (XS.iconst X346.here hx rfl (B d8_7) (XS.iloadN X346.here hx rfl (B d8_8) rfl k))) ?_
 refine GoW.st (fun t k => XS.imul X346.here hx rfl (B d8_9) rfl k) ?_
 rw [show ((2 : Int32) * (0 : Int32)) = (0 : Int32) from by decide]
 show GoW p e below s (Q8_14 Z a1c a2c ka2c x1c x2c x3c x4c x5c x6c h0 n0) 0 0 (T346.setTop (mkF m 10 (Sh4 a1c 0 x1c) [(.int 0)]))
 refine GoW.sg (mkF m 11 (Sh4 a1c 0 x1c) [(.int 1), (.int 0)]) (fun t k => XS.iconst X346.here hx rfl (B d8_10) k) ?_
 refine GoW.st (fun t k => XS.iadd X346.here hx rfl (B d8_11) rfl k) ?_
 rw [show ((0 : Int32) + (1 : Int32)) = (1 : Int32) from by decide]
 show GoW p e below s (Q8_14 Z a1c a2c ka2c x1c x2c x3c x4c x5c x6c h0 n0) 0 0 (T346.setTop (mkF m 12 (Sh4 a1c 0 x1c) [(.int 1)]))
 refine GoW.sg (mkF m 13 (Sh4 a1c 0 x1c) [(.ref a1c), (.int 1)]) (fun t k => XS.aloadN X346.here hx rfl (B d8_12) rfl rfl k) ?_
 obtain ⟨T348, X348, e348, st348⟩ := getF X346 hx hZ hown (host := "") (Or.inl (ww hw 18 rfl)) Via.refl e346 P1 (g := (mkF m 13 (Sh4 a1c 0 x1c) [(.ref a1c), (.int 1)])) rfl rfl (B d8_13)
 refine GoW.sg (mkF m 16 (Sh4 a1c 0 x1c) [(.int 3), (.int 1)]) (fun t k => st348 t k) ?_
 refine GoW.sg (mkF m 21 (Sh4 a1c 0 x1c) [(.int 0), (.int 2)]) (fun t k => XS.icmpNo X348.here hx rfl (B d8_16) rfl (by decide) (XS.iconst X348.here hx rfl (B d8_19) (XS.iloadN X348.here hx rfl (B d8_20) rfl k))) ?_
 refine GoW.st (fun t k => XS.imul X348.here hx rfl (B d8_21) rfl k) ?_
 rw [show ((2 : Int32) * (0 : Int32)) = (0 : Int32) from by decide]
 show GoW p e below s (Q8_14 Z a1c a2c ka2c x1c x2c x3c x4c x5c x6c h0 n0) 0 0 (T348.setTop (mkF m 22 (Sh4 a1c 0 x1c) [(.int 0)]))
 refine GoW.sg (mkF m 23 (Sh4 a1c 0 x1c) [(.int 1), (.int 0)]) (fun t k => XS.iconst X348.here hx rfl (B d8_22) k) ?_
 refine GoW.st (fun t k => XS.iadd X348.here hx rfl (B d8_23) rfl k) ?_
 rw [show ((0 : Int32) + (1 : Int32)) = (1 : Int32) from by decide]
 show GoW p e below s (Q8_14 Z a1c a2c ka2c x1c x2c x3c x4c x5c x6c h0 n0) 0 0 (T348.setTop (mkF m 24 (Sh4 a1c 0 x1c) [(.int 1)]))
 refine GoW.sg (mkF m 29 (Sh5 a1c 0 x1c 1) [(.int 1), (.int 1)]) (fun t k => XS.istore X348.here hx rfl (B d8_24) rfl (l' := (Sh5 a1c 0 x1c 1)) rfl (XS.iload X348.here hx rfl (B d8_26) rfl (XS.iconst X348.here hx rfl (B d8_28) k))) ?_
 refine GoW.st (fun t k => XS.iadd X348.here hx rfl (B d8_29) rfl k) ?_
 rw [show ((1 : Int32) + (1 : Int32)) = (2 : Int32) from by decide]
 show GoW p e below s (Q8_14 Z a1c a2c ka2c x1c x2c x3c x4c x5c x6c h0 n0) 0 0 (T348.setTop (mkF m 30 (Sh5 a1c 0 x1c 1) [(.int 2)]))
 refine GoW.sg (mkF m 31 (Sh5 a1c 0 x1c 1) [(.ref a1c), (.int 2)]) (fun t k => XS.aloadN X348.here hx rfl (B d8_30) rfl rfl k) ?_
 obtain ⟨T349, X349, e349, st349⟩ := getF X348 hx hZ hown (host := "") (Or.inl (ww hw 18 rfl)) Via.refl e348 P1 (g := (mkF m 31 (Sh5 a1c 0 x1c 1) [(.ref a1c), (.int 2)])) rfl rfl (B d8_31)
 refine GoW.sg (mkF m 34 (Sh5 a1c 0 x1c 1) [(.int 3), (.int 2)]) (fun t k => st349 t k) ?_
 refine GoW.sg (mkF m 38 (Sh5 a1c 0 x1c 1) [(.ref a1c)]) (fun t k => XS.icmpNo X349.here hx rfl (B d8_34) rfl (by decide) (XS.aloadN X349.here hx rfl (B d8_37) rfl rfl k)) ?_
 obtain ⟨T350, X350, e350, st350⟩ := getF X349 hx hZ hown (host := "") (Or.inl (ww hw 11 rfl)) Via.refl e349 P0 (g := (mkF m 38 (Sh5 a1c 0 x1c 1) [(.ref a1c)])) rfl rfl (B d8_38)
 refine GoW.sg (mkF m 41 (Sh5 a1c 0 x1c 1) [(.ref a2c)]) (fun t k => st350 t k) ?_
 refine GoW.sg (mkF m 44 (Sh5 a1c 0 x1c 1) [(.int 1), (.int 1), (.ref a2c)]) (fun t k => XS.iload X350.here hx rfl (B d8_41) rfl (XS.iconst X350.here hx rfl (B d8_43) k)) ?_
 refine GoW.st (fun t k => XS.iadd X350.here hx rfl (B d8_44) rfl k) ?_
 rw [show ((1 : Int32) + (1 : Int32)) = (2 : Int32) from by decide]
 show GoW p e below s (Q8_14 Z a1c a2c ka2c x1c x2c x3c x4c x5c x6c h0 n0) 0 0 (T350.setTop (mkF m 45 (Sh5 a1c 0 x1c 1) [(.int 2), (.ref a2c)]))
 obtain ⟨cl351, Ar351, q351, Sz351, Nn351, Hh351, Gg351⟩ := id P2
 have hin351 : ¬ ((2 : Int32) < 0 ∨ cl351.slots.size ≤ ((2 : Int32)).toNatClampNeg) := inb_of Sz351 ⟨by decide, by decide⟩
 refine GoW.sg (mkF m 46 (Sh5 a1c 0 x1c 1) [(.double x3c)]) (fun t k => X350.daload hx (j := (2 : Int32)) (v := (.double x3c)) (hq_ e350 Ar351.1) (State.isArrayOf_alike hZ.alike Ar351.2.1) Ar351.2.2 hin351 (Hh351.at hin351 rfl) (g := (mkF m 45 (Sh5 a1c 0 x1c 1) [(.int 2), (.ref a2c)])) rfl rfl (B d8_45) t k) ?_
 refine GoW.sg (mkF m 47 (Sh5 a1c 0 x1c 1) [(.ref a1c), (.double x3c)]) (fun t k => XS.aloadN X350.here hx rfl (B d8_46) rfl rfl k) ?_
 obtain ⟨T352, X352, e352, st352⟩ := getF X350 hx hZ hown (host := "") (Or.inl (ww hw 11 rfl)) Via.refl e350 P0 (g := (mkF m 47 (Sh5 a1c 0 x1c 1) [(.ref a1c), (.double x3c)])) rfl rfl (B d8_47)
 refine GoW.sg (mkF m 50 (Sh5 a1c 0 x1c 1) [(.ref a2c), (.double x3c)]) (fun t k => st352 t k) ?_
 refine GoW.sg (mkF m 52 (Sh5 a1c 0 x1c 1) [(.int 1), (.ref a2c), (.double x3c)]) (fun t k => XS.iload X352.here hx rfl (B d8_50) rfl k) ?_
 obtain ⟨cl353, Ar353, q353, Sz353, Nn353, Hh353, Gg353⟩ := id P2
 have hin353 : ¬ ((1 : Int32) < 0 ∨ cl353.slots.size ≤ ((1 : Int32)).toNatClampNeg) := inb_of Sz353 ⟨by decide, by decide⟩
 refine GoW.sg (mkF m 53 (Sh5 a1c 0 x1c 1) [(.double x2c), (.double x3c)]) (fun t k => X352.daload hx (j := (1 : Int32)) (v := (.double x2c)) (hq_ e352 Ar353.1) (State.isArrayOf_alike hZ.alike Ar353.2.1) Ar353.2.2 hin353 (Hh353.at hin353 rfl) (g := (mkF m 52 (Sh5 a1c 0 x1c 1) [(.int 1), (.ref a2c), (.double x3c)])) rfl rfl (B d8_52) t k) ?_
 refine GoW.sg (mkF m 61 (Sh5 a1c 0 x1c 2) [(.ref a1c)]) (fun t k => XS.dcmpS X352.here hx rfl (B d8_53) rfl (v := (lcmpW (Int32.toInt64 x4c) (Int32.toInt64 x5c))) (by rw [hx3c, hx2c]; exact dcmpV_w (own_b53 _) (own_b53 _) _) (XS.ifNo X352.here hx rfl (B d8_54) rfl ((if0 _ _).trans (tlt ((lw_lt _ _).mpr u0)).2.1) (XS.iinc X352.here hx rfl (B d8_57) rfl (l' := (Sh5 a1c 0 x1c 2)) rfl (XS.aloadN X352.here hx rfl (B d8_60) rfl rfl k)))) ?_
 obtain ⟨T354, X354, e354, st354⟩ := getF X352 hx hZ hown (host := "") (Or.inl (ww hw 11 rfl)) Via.refl e352 P0 (g := (mkF m 61 (Sh5 a1c 0 x1c 2) [(.ref a1c)])) rfl rfl (B d8_61)
 refine GoW.sg (mkF m 64 (Sh5 a1c 0 x1c 2) [(.ref a2c)]) (fun t k => st354 t k) ?_
 refine GoW.sg (mkF m 66 (Sh5 a1c 0 x1c 2) [(.int 2), (.ref a2c)]) (fun t k => XS.iload X354.here hx rfl (B d8_64) rfl k) ?_
 obtain ⟨cl355, Ar355, q355, Sz355, Nn355, Hh355, Gg355⟩ := id P2
 have hin355 : ¬ ((2 : Int32) < 0 ∨ cl355.slots.size ≤ ((2 : Int32)).toNatClampNeg) := inb_of Sz355 ⟨by decide, by decide⟩
 refine GoW.sg (mkF m 67 (Sh5 a1c 0 x1c 2) [(.double x3c)]) (fun t k => X354.daload hx (j := (2 : Int32)) (v := (.double x3c)) (hq_ e354 Ar355.1) (State.isArrayOf_alike hZ.alike Ar355.2.1) Ar355.2.2 hin355 (Hh355.at hin355 rfl) (g := (mkF m 66 (Sh5 a1c 0 x1c 2) [(.int 2), (.ref a2c)])) rfl rfl (B d8_66) t k) ?_
 refine GoW.sg (mkF m 95 (Sh5 a1c 0 x1c 2) [(.ref a1c)]) (fun t k => XS.dloadN X354.here hx rfl (B d8_67) rfl (XS.dcmpS X354.here hx rfl (B d8_68) rfl (v := (lcmpW (Int32.toInt64 x4c) (Int32.toInt64 x6c))) (by rw [hx3c, hx1c]; exact dcmpV_w (own_b53 _) (own_b53 _) _) (XS.ifNo X354.here hx rfl (B d8_69) rfl ((if0 _ _).trans (flt (mt (lw_lt _ _).mp u1)).1) (XS.goto X354.here hx rfl (pc0 := 72) (pc' := 94) rfl (B d8_72) (by decide) (by decide) (XS.aloadN X354.here hx rfl (B d8_94) rfl rfl k))))) ?_
 obtain ⟨T356, X356, e356, st356⟩ := getF X354 hx hZ hown (host := "") (Or.inl (ww hw 11 rfl)) Via.refl e354 P0 (g := (mkF m 95 (Sh5 a1c 0 x1c 2) [(.ref a1c)])) rfl rfl (B d8_95)
 refine GoW.sg (mkF m 98 (Sh5 a1c 0 x1c 2) [(.ref a2c)]) (fun t k => st356 t k) ?_
 refine GoW.sg (mkF m 100 (Sh5 a1c 0 x1c 2) [(.double x1c), (.int 0), (.ref a2c)]) (fun t k => XS.iloadN X356.here hx rfl (B d8_98) rfl (XS.dloadN X356.here hx rfl (B d8_99) rfl k)) ?_
 obtain ⟨cl357, Ar357, q357, Sz357, Nn357, Hh357, Gg357⟩ := P2
 have hin357 : ¬ ((0 : Int32) < 0 ∨ cl357.slots.size ≤ ((0 : Int32)).toNatClampNeg) := inb_of Sz357 ⟨by decide, by decide⟩
 obtain ⟨T357, h357, X357, e357, W357, st357⟩ := stD X356 hx hZ e356 Ar357 (j := (0 : Int32)) hin357 (g := (mkF m 100 (Sh5 a1c 0 x1c 2) [(.double x1c), (.int 0), (.ref a2c)])) rfl rfl (B d8_100)
 have f357_1 := (Keep.refl h0 [a2c]).wr W357 (Or.inl (List.mem_of_getElem? (i := 0) rfl))
 have V357 : Arv Z h357 a2c ka2c .double (3 : Int32) [(.double x1c), (.double x2c), (.double x3c)] (.double (0 : UInt64)) := Arv.set Ar357 q357 Sz357 Nn357 Hh357 Gg357 rfl W357 0 rfl (Nat.le_of_ble_eq_true rfl)
 have N357 := Fr.snoc X357 N0 g_a2c
 refine GoW.sg (mkF m 101 (Sh5 a1c 0 x1c 2) []) (fun t k => st357 t k) ?_
 refine GoW.retV X357 hx Bd.returns (B d8_101) Bd.notSynchronized ?_ (by decide) (by decide)
 rw [e357]
 exact ⟨rfl, N357, f357_1, V357⟩
def Q8_15 (Z : State) (a1c a2c : Addr) (ka2c : ClassId) (x1c x2c x3c : UInt64) (x4c x5c x6c : Int32) (h0 : Heap) (n0 : Nat) (v : Option Value) (h : Heap) (L : List Loc) : Prop := v = none ∧ Fr n0 L ∧ (Keep h0 h [a2c]) ∧ (Arv Z h a2c ka2c .double 3 [(.double x2c), (.double x1c), (.double x3c)] (.double 0))
theorem rm8_15 (l : Launch) (Z : State) (a0 : Array Value) (hw : HW a0 Z) (a1c a2c : Addr) (ka2c : ClassId) (x1c x2c x3c : UInt64) (x4c x5c x6c : Int32) (h0 : Heap) (n0 : Nat) (P0 : Fld Z h0 a1c HSn "heap" "[D" (.ref a2c)) (P1 : Fld Z h0 a1c HSn "size" "I" (.int 3)) (P2 : Arv Z h0 a2c ka2c .double 3 [(.double x1c), (.double x2c), (.double x3c)] (.double 0)) (g_a2c : n0 ≤ a2c) (ne_a1c_a2c : a1c ≠ a2c) (u0 : ¬ ((Int32.toInt64 x4c) < (Int32.toInt64 x5c))) (u1 : (Int32.toInt64 x5c) < (Int32.toInt64 x6c)) (hx1c : x1c = FP.l2d (Int32.toInt64 x6c)) (hx2c : x2c = FP.l2d (Int32.toInt64 x5c)) (hx3c : x3c = FP.l2d (Int32.toInt64 x4c)) :
  MM l Z Y8 prog_43_method_5_code 5 none 0 0 0 0 #[(.ref a1c), (.int 0)] h0 (Q8_15 Z a1c a2c ka2c x1c x2c x3c x4c x5c x6c h0 n0) := by
 refine own_start (fun m => (mkF m 0 (Sh3 a1c 0) [])) (plainFor_of_name pn_com_example_nearterm_nearterm_retrieval_HighestScores) (by simp [entryFrame, mkF, argsToLocals, Value.category]) n0 ?_
 intro p e s m below meth c s₁ Bd hx B hml hZ hown hnm X0 e0 N0
 refine GoW.sg (mkF m 1 (Sh3 a1c 0) [(.ref a1c)]) (fun t k => XS.aloadN X0.here hx rfl (B d8_0) rfl rfl k) ?_
 obtain ⟨T387, X387, e387, st387⟩ := getF X0 hx hZ hown (host := "") (Or.inl (ww hw 11 rfl)) Via.refl e0 P0 (g := (mkF m 1 (Sh3 a1c 0) [(.ref a1c)])) rfl rfl (B d8_1)
 refine GoW.sg (mkF m 4 (Sh3 a1c 0) [(.ref a2c)]) (fun t k => st387 t k) ?_
 refine GoW.sg (mkF m 5 (Sh3 a1c 0) [(.int 0), (.ref a2c)]) (fun t k => XS.iloadN X387.here hx rfl (B d8_4) rfl k) ?_
 obtain ⟨cl388, Ar388, q388, Sz388, Nn388, Hh388, Gg388⟩ := id P2
 have hin388 : ¬ ((0 : Int32) < 0 ∨ cl388.slots.size ≤ ((0 : Int32)).toNatClampNeg) := inb_of Sz388 ⟨by decide, by decide⟩
 refine GoW.sg (mkF m 6 (Sh3 a1c 0) [(.double x1c)]) (fun t k => X387.daload hx (j := (0 : Int32)) (v := (.double x1c)) (hq_ e387 Ar388.1) (State.isArrayOf_alike hZ.alike Ar388.2.1) Ar388.2.2 hin388 (Hh388.at hin388 rfl) (g := (mkF m 5 (Sh3 a1c 0) [(.int 0), (.ref a2c)])) rfl rfl (B d8_5) t k) ?_
 refine GoW.sg (mkF m 9 (Sh4 a1c 0 x1c) [(.int 0), (.int 2)]) (fun t k => XS.dstoreN X387.here hx rfl (B d8_6) rfl (l' := (Sh4 a1c 0 x1c)) rfl (XS.iconst X387.here hx rfl (B d8_7) (XS.iloadN X387.here hx rfl (B d8_8) rfl k))) ?_
 refine GoW.st (fun t k => XS.imul X387.here hx rfl (B d8_9) rfl k) ?_
 rw [show ((2 : Int32) * (0 : Int32)) = (0 : Int32) from by decide]
 show GoW p e below s (Q8_15 Z a1c a2c ka2c x1c x2c x3c x4c x5c x6c h0 n0) 0 0 (T387.setTop (mkF m 10 (Sh4 a1c 0 x1c) [(.int 0)]))
 refine GoW.sg (mkF m 11 (Sh4 a1c 0 x1c) [(.int 1), (.int 0)]) (fun t k => XS.iconst X387.here hx rfl (B d8_10) k) ?_
 refine GoW.st (fun t k => XS.iadd X387.here hx rfl (B d8_11) rfl k) ?_
 rw [show ((0 : Int32) + (1 : Int32)) = (1 : Int32) from by decide]
 show GoW p e below s (Q8_15 Z a1c a2c ka2c x1c x2c x3c x4c x5c x6c h0 n0) 0 0 (T387.setTop (mkF m 12 (Sh4 a1c 0 x1c) [(.int 1)]))
 refine GoW.sg (mkF m 13 (Sh4 a1c 0 x1c) [(.ref a1c), (.int 1)]) (fun t k => XS.aloadN X387.here hx rfl (B d8_12) rfl rfl k) ?_
 obtain ⟨T389, X389, e389, st389⟩ := getF X387 hx hZ hown (host := "") (Or.inl (ww hw 18 rfl)) Via.refl e387 P1 (g := (mkF m 13 (Sh4 a1c 0 x1c) [(.ref a1c), (.int 1)])) rfl rfl (B d8_13)
 refine GoW.sg (mkF m 16 (Sh4 a1c 0 x1c) [(.int 3), (.int 1)]) (fun t k => st389 t k) ?_
 refine GoW.sg (mkF m 21 (Sh4 a1c 0 x1c) [(.int 0), (.int 2)]) (fun t k => XS.icmpNo X389.here hx rfl (B d8_16) rfl (by decide) (XS.iconst X389.here hx rfl (B d8_19) (XS.iloadN X389.here hx rfl (B d8_20) rfl k))) ?_
 refine GoW.st (fun t k => XS.imul X389.here hx rfl (B d8_21) rfl k) ?_
 rw [show ((2 : Int32) * (0 : Int32)) = (0 : Int32) from by decide]
 show GoW p e below s (Q8_15 Z a1c a2c ka2c x1c x2c x3c x4c x5c x6c h0 n0) 0 0 (T389.setTop (mkF m 22 (Sh4 a1c 0 x1c) [(.int 0)]))
 refine GoW.sg (mkF m 23 (Sh4 a1c 0 x1c) [(.int 1), (.int 0)]) (fun t k => XS.iconst X389.here hx rfl (B d8_22) k) ?_
 refine GoW.st (fun t k => XS.iadd X389.here hx rfl (B d8_23) rfl k) ?_
 rw [show ((0 : Int32) + (1 : Int32)) = (1 : Int32) from by decide]
 show GoW p e below s (Q8_15 Z a1c a2c ka2c x1c x2c x3c x4c x5c x6c h0 n0) 0 0 (T389.setTop (mkF m 24 (Sh4 a1c 0 x1c) [(.int 1)]))
 refine GoW.sg (mkF m 29 (Sh5 a1c 0 x1c 1) [(.int 1), (.int 1)]) (fun t k => XS.istore X389.here hx rfl (B d8_24) rfl (l' := (Sh5 a1c 0 x1c 1)) rfl (XS.iload X389.here hx rfl (B d8_26) rfl (XS.iconst X389.here hx rfl (B d8_28) k))) ?_
 refine GoW.st (fun t k => XS.iadd X389.here hx rfl (B d8_29) rfl k) ?_
 rw [show ((1 : Int32) + (1 : Int32)) = (2 : Int32) from by decide]
 show GoW p e below s (Q8_15 Z a1c a2c ka2c x1c x2c x3c x4c x5c x6c h0 n0) 0 0 (T389.setTop (mkF m 30 (Sh5 a1c 0 x1c 1) [(.int 2)]))
 refine GoW.sg (mkF m 31 (Sh5 a1c 0 x1c 1) [(.ref a1c), (.int 2)]) (fun t k => XS.aloadN X389.here hx rfl (B d8_30) rfl rfl k) ?_
 obtain ⟨T390, X390, e390, st390⟩ := getF X389 hx hZ hown (host := "") (Or.inl (ww hw 18 rfl)) Via.refl e389 P1 (g := (mkF m 31 (Sh5 a1c 0 x1c 1) [(.ref a1c), (.int 2)])) rfl rfl (B d8_31)
 refine GoW.sg (mkF m 34 (Sh5 a1c 0 x1c 1) [(.int 3), (.int 2)]) (fun t k => st390 t k) ?_
 refine GoW.sg (mkF m 38 (Sh5 a1c 0 x1c 1) [(.ref a1c)]) (fun t k => XS.icmpNo X390.here hx rfl (B d8_34) rfl (by decide) (XS.aloadN X390.here hx rfl (B d8_37) rfl rfl k)) ?_
 obtain ⟨T391, X391, e391, st391⟩ := getF X390 hx hZ hown (host := "") (Or.inl (ww hw 11 rfl)) Via.refl e390 P0 (g := (mkF m 38 (Sh5 a1c 0 x1c 1) [(.ref a1c)])) rfl rfl (B d8_38)
 refine GoW.sg (mkF m 41 (Sh5 a1c 0 x1c 1) [(.ref a2c)]) (fun t k => st391 t k) ?_
 refine GoW.sg (mkF m 44 (Sh5 a1c 0 x1c 1) [(.int 1), (.int 1), (.ref a2c)]) (fun t k => XS.iload X391.here hx rfl (B d8_41) rfl (XS.iconst X391.here hx rfl (B d8_43) k)) ?_
 refine GoW.st (fun t k => XS.iadd X391.here hx rfl (B d8_44) rfl k) ?_
 rw [show ((1 : Int32) + (1 : Int32)) = (2 : Int32) from by decide]
 show GoW p e below s (Q8_15 Z a1c a2c ka2c x1c x2c x3c x4c x5c x6c h0 n0) 0 0 (T391.setTop (mkF m 45 (Sh5 a1c 0 x1c 1) [(.int 2), (.ref a2c)]))
 obtain ⟨cl392, Ar392, q392, Sz392, Nn392, Hh392, Gg392⟩ := id P2
 have hin392 : ¬ ((2 : Int32) < 0 ∨ cl392.slots.size ≤ ((2 : Int32)).toNatClampNeg) := inb_of Sz392 ⟨by decide, by decide⟩
 refine GoW.sg (mkF m 46 (Sh5 a1c 0 x1c 1) [(.double x3c)]) (fun t k => X391.daload hx (j := (2 : Int32)) (v := (.double x3c)) (hq_ e391 Ar392.1) (State.isArrayOf_alike hZ.alike Ar392.2.1) Ar392.2.2 hin392 (Hh392.at hin392 rfl) (g := (mkF m 45 (Sh5 a1c 0 x1c 1) [(.int 2), (.ref a2c)])) rfl rfl (B d8_45) t k) ?_
 refine GoW.sg (mkF m 47 (Sh5 a1c 0 x1c 1) [(.ref a1c), (.double x3c)]) (fun t k => XS.aloadN X391.here hx rfl (B d8_46) rfl rfl k) ?_
 obtain ⟨T393, X393, e393, st393⟩ := getF X391 hx hZ hown (host := "") (Or.inl (ww hw 11 rfl)) Via.refl e391 P0 (g := (mkF m 47 (Sh5 a1c 0 x1c 1) [(.ref a1c), (.double x3c)])) rfl rfl (B d8_47)
 refine GoW.sg (mkF m 50 (Sh5 a1c 0 x1c 1) [(.ref a2c), (.double x3c)]) (fun t k => st393 t k) ?_
 refine GoW.sg (mkF m 52 (Sh5 a1c 0 x1c 1) [(.int 1), (.ref a2c), (.double x3c)]) (fun t k => XS.iload X393.here hx rfl (B d8_50) rfl k) ?_
 obtain ⟨cl394, Ar394, q394, Sz394, Nn394, Hh394, Gg394⟩ := id P2
 have hin394 : ¬ ((1 : Int32) < 0 ∨ cl394.slots.size ≤ ((1 : Int32)).toNatClampNeg) := inb_of Sz394 ⟨by decide, by decide⟩
 refine GoW.sg (mkF m 53 (Sh5 a1c 0 x1c 1) [(.double x2c), (.double x3c)]) (fun t k => X393.daload hx (j := (1 : Int32)) (v := (.double x2c)) (hq_ e393 Ar394.1) (State.isArrayOf_alike hZ.alike Ar394.2.1) Ar394.2.2 hin394 (Hh394.at hin394 rfl) (g := (mkF m 52 (Sh5 a1c 0 x1c 1) [(.int 1), (.ref a2c), (.double x3c)])) rfl rfl (B d8_52) t k) ?_
 refine GoW.sg (mkF m 61 (Sh5 a1c 0 x1c 1) [(.ref a1c)]) (fun t k => XS.dcmpS X393.here hx rfl (B d8_53) rfl (v := (lcmpW (Int32.toInt64 x4c) (Int32.toInt64 x5c))) (by rw [hx3c, hx2c]; exact dcmpV_w (own_b53 _) (own_b53 _) _) (XS.ifYes X393.here hx rfl (pc0 := 54) (pc' := 60) rfl (B d8_54) rfl ((if0 _ _).trans (flt (mt (lw_lt _ _).mp u0)).2.1) (by decide) (by decide) (XS.aloadN X393.here hx rfl (B d8_60) rfl rfl k))) ?_
 obtain ⟨T395, X395, e395, st395⟩ := getF X393 hx hZ hown (host := "") (Or.inl (ww hw 11 rfl)) Via.refl e393 P0 (g := (mkF m 61 (Sh5 a1c 0 x1c 1) [(.ref a1c)])) rfl rfl (B d8_61)
 refine GoW.sg (mkF m 64 (Sh5 a1c 0 x1c 1) [(.ref a2c)]) (fun t k => st395 t k) ?_
 refine GoW.sg (mkF m 66 (Sh5 a1c 0 x1c 1) [(.int 1), (.ref a2c)]) (fun t k => XS.iload X395.here hx rfl (B d8_64) rfl k) ?_
 obtain ⟨cl396, Ar396, q396, Sz396, Nn396, Hh396, Gg396⟩ := id P2
 have hin396 : ¬ ((1 : Int32) < 0 ∨ cl396.slots.size ≤ ((1 : Int32)).toNatClampNeg) := inb_of Sz396 ⟨by decide, by decide⟩
 refine GoW.sg (mkF m 67 (Sh5 a1c 0 x1c 1) [(.double x2c)]) (fun t k => X395.daload hx (j := (1 : Int32)) (v := (.double x2c)) (hq_ e395 Ar396.1) (State.isArrayOf_alike hZ.alike Ar396.2.1) Ar396.2.2 hin396 (Hh396.at hin396 rfl) (g := (mkF m 66 (Sh5 a1c 0 x1c 1) [(.int 1), (.ref a2c)])) rfl rfl (B d8_66) t k) ?_
 refine GoW.sg (mkF m 76 (Sh5 a1c 0 x1c 1) [(.ref a1c)]) (fun t k => XS.dloadN X395.here hx rfl (B d8_67) rfl (XS.dcmpS X395.here hx rfl (B d8_68) rfl (v := (lcmpW (Int32.toInt64 x5c) (Int32.toInt64 x6c))) (by rw [hx2c, hx1c]; exact dcmpV_w (own_b53 _) (own_b53 _) _) (XS.ifYes X395.here hx rfl (pc0 := 69) (pc' := 75) rfl (B d8_69) rfl ((if0 _ _).trans (tlt ((lw_lt _ _).mpr u1)).1) (by decide) (by decide) (XS.aloadN X395.here hx rfl (B d8_75) rfl rfl k)))) ?_
 obtain ⟨T397, X397, e397, st397⟩ := getF X395 hx hZ hown (host := "") (Or.inl (ww hw 11 rfl)) Via.refl e395 P0 (g := (mkF m 76 (Sh5 a1c 0 x1c 1) [(.ref a1c)])) rfl rfl (B d8_76)
 refine GoW.sg (mkF m 79 (Sh5 a1c 0 x1c 1) [(.ref a2c)]) (fun t k => st397 t k) ?_
 refine GoW.sg (mkF m 81 (Sh5 a1c 0 x1c 1) [(.ref a1c), (.int 0), (.ref a2c)]) (fun t k => XS.iloadN X397.here hx rfl (B d8_79) rfl (XS.aloadN X397.here hx rfl (B d8_80) rfl rfl k)) ?_
 obtain ⟨T398, X398, e398, st398⟩ := getF X397 hx hZ hown (host := "") (Or.inl (ww hw 11 rfl)) Via.refl e397 P0 (g := (mkF m 81 (Sh5 a1c 0 x1c 1) [(.ref a1c), (.int 0), (.ref a2c)])) rfl rfl (B d8_81)
 refine GoW.sg (mkF m 84 (Sh5 a1c 0 x1c 1) [(.ref a2c), (.int 0), (.ref a2c)]) (fun t k => st398 t k) ?_
 refine GoW.sg (mkF m 86 (Sh5 a1c 0 x1c 1) [(.int 1), (.ref a2c), (.int 0), (.ref a2c)]) (fun t k => XS.iload X398.here hx rfl (B d8_84) rfl k) ?_
 obtain ⟨cl399, Ar399, q399, Sz399, Nn399, Hh399, Gg399⟩ := id P2
 have hin399 : ¬ ((1 : Int32) < 0 ∨ cl399.slots.size ≤ ((1 : Int32)).toNatClampNeg) := inb_of Sz399 ⟨by decide, by decide⟩
 refine GoW.sg (mkF m 87 (Sh5 a1c 0 x1c 1) [(.double x2c), (.int 0), (.ref a2c)]) (fun t k => X398.daload hx (j := (1 : Int32)) (v := (.double x2c)) (hq_ e398 Ar399.1) (State.isArrayOf_alike hZ.alike Ar399.2.1) Ar399.2.2 hin399 (Hh399.at hin399 rfl) (g := (mkF m 86 (Sh5 a1c 0 x1c 1) [(.int 1), (.ref a2c), (.int 0), (.ref a2c)])) rfl rfl (B d8_86) t k) ?_
 obtain ⟨cl400, Ar400, q400, Sz400, Nn400, Hh400, Gg400⟩ := P2
 have hin400 : ¬ ((0 : Int32) < 0 ∨ cl400.slots.size ≤ ((0 : Int32)).toNatClampNeg) := inb_of Sz400 ⟨by decide, by decide⟩
 obtain ⟨T400, h400, X400, e400, W400, st400⟩ := stD X398 hx hZ e398 Ar400 (j := (0 : Int32)) hin400 (g := (mkF m 87 (Sh5 a1c 0 x1c 1) [(.double x2c), (.int 0), (.ref a2c)])) rfl rfl (B d8_87)
 have f400_1 := P0.other W400 (Or.inl ne_a1c_a2c)
 have f400_2 := P1.other W400 (Or.inl ne_a1c_a2c)
 have f400_3 := (Keep.refl h0 [a2c]).wr W400 (Or.inl (List.mem_of_getElem? (i := 0) rfl))
 have V400 : Arv Z h400 a2c ka2c .double (3 : Int32) [(.double x2c), (.double x2c), (.double x3c)] (.double (0 : UInt64)) := Arv.set Ar400 q400 Sz400 Nn400 Hh400 Gg400 rfl W400 0 rfl (Nat.le_of_ble_eq_true rfl)
 have N400 := Fr.snoc X400 N0 g_a2c
 refine GoW.sg (mkF m 88 (Sh5 a1c 0 x1c 1) []) (fun t k => st400 t k) ?_
 refine GoW.sg (mkF m 9 (Sh5 a1c 1 x1c 1) [(.int 1), (.int 2)]) (fun t k => XS.iload X400.here hx rfl (B d8_88) rfl (XS.istoreN X400.here hx rfl (B d8_90) rfl (l' := (Sh5 a1c 1 x1c 1)) rfl (XS.goto X400.here hx rfl (pc0 := 91) (pc' := 7) rfl (B d8_91) (by decide) (by decide) (XS.iconst X400.here hx rfl (B d8_7) (XS.iloadN X400.here hx rfl (B d8_8) rfl k))))) ?_
 refine GoW.st (fun t k => XS.imul X400.here hx rfl (B d8_9) rfl k) ?_
 rw [show ((2 : Int32) * (1 : Int32)) = (2 : Int32) from by decide]
 show GoW p e below s (Q8_15 Z a1c a2c ka2c x1c x2c x3c x4c x5c x6c h0 n0) 0 0 (T400.setTop (mkF m 10 (Sh5 a1c 1 x1c 1) [(.int 2)]))
 refine GoW.sg (mkF m 11 (Sh5 a1c 1 x1c 1) [(.int 1), (.int 2)]) (fun t k => XS.iconst X400.here hx rfl (B d8_10) k) ?_
 refine GoW.st (fun t k => XS.iadd X400.here hx rfl (B d8_11) rfl k) ?_
 rw [show ((2 : Int32) + (1 : Int32)) = (3 : Int32) from by decide]
 show GoW p e below s (Q8_15 Z a1c a2c ka2c x1c x2c x3c x4c x5c x6c h0 n0) 0 0 (T400.setTop (mkF m 12 (Sh5 a1c 1 x1c 1) [(.int 3)]))
 refine GoW.sg (mkF m 13 (Sh5 a1c 1 x1c 1) [(.ref a1c), (.int 3)]) (fun t k => XS.aloadN X400.here hx rfl (B d8_12) rfl rfl k) ?_
 obtain ⟨T401, X401, e401, st401⟩ := getF X400 hx hZ hown (host := "") (Or.inl (ww hw 18 rfl)) Via.refl e400 f400_2 (g := (mkF m 13 (Sh5 a1c 1 x1c 1) [(.ref a1c), (.int 3)])) rfl rfl (B d8_13)
 refine GoW.sg (mkF m 16 (Sh5 a1c 1 x1c 1) [(.int 3), (.int 3)]) (fun t k => st401 t k) ?_
 refine GoW.sg (mkF m 95 (Sh5 a1c 1 x1c 1) [(.ref a1c)]) (fun t k => XS.icmpYes X401.here hx rfl (pc0 := 16) (pc' := 94) rfl (B d8_16) rfl (by decide) (by decide) (by decide) (XS.aloadN X401.here hx rfl (B d8_94) rfl rfl k)) ?_
 obtain ⟨T402, X402, e402, st402⟩ := getF X401 hx hZ hown (host := "") (Or.inl (ww hw 11 rfl)) Via.refl e401 f400_1 (g := (mkF m 95 (Sh5 a1c 1 x1c 1) [(.ref a1c)])) rfl rfl (B d8_95)
 refine GoW.sg (mkF m 98 (Sh5 a1c 1 x1c 1) [(.ref a2c)]) (fun t k => st402 t k) ?_
 refine GoW.sg (mkF m 100 (Sh5 a1c 1 x1c 1) [(.double x1c), (.int 1), (.ref a2c)]) (fun t k => XS.iloadN X402.here hx rfl (B d8_98) rfl (XS.dloadN X402.here hx rfl (B d8_99) rfl k)) ?_
 obtain ⟨cl403, Ar403, q403, Sz403, Nn403, Hh403, Gg403⟩ := V400
 have hin403 : ¬ ((1 : Int32) < 0 ∨ cl403.slots.size ≤ ((1 : Int32)).toNatClampNeg) := inb_of Sz403 ⟨by decide, by decide⟩
 obtain ⟨T403, h403, X403, e403, W403, st403⟩ := stD X402 hx hZ e402 Ar403 (j := (1 : Int32)) hin403 (g := (mkF m 100 (Sh5 a1c 1 x1c 1) [(.double x1c), (.int 1), (.ref a2c)])) rfl rfl (B d8_100)
 have f403_6 := f400_3.wr W403 (Or.inl (List.mem_of_getElem? (i := 0) rfl))
 have V403 : Arv Z h403 a2c ka2c .double (3 : Int32) [(.double x2c), (.double x1c), (.double x3c)] (.double (0 : UInt64)) := Arv.set Ar403 q403 Sz403 Nn403 Hh403 Gg403 rfl W403 1 rfl (Nat.le_of_ble_eq_true rfl)
 have N403 := Fr.snoc X403 N400 g_a2c
 refine GoW.sg (mkF m 101 (Sh5 a1c 1 x1c 1) []) (fun t k => st403 t k) ?_
 refine GoW.retV X403 hx Bd.returns (B d8_101) Bd.notSynchronized ?_ (by decide) (by decide)
 rw [e403]
 exact ⟨rfl, N403, f403_6, V403⟩
def Q8_16 (Z : State) (a1c a2c : Addr) (ka2c : ClassId) (x1c x2c x3c : UInt64) (x4c x5c x6c : Int32) (h0 : Heap) (n0 : Nat) (v : Option Value) (h : Heap) (L : List Loc) : Prop := v = none ∧ Fr n0 L ∧ (Keep h0 h [a2c]) ∧ (Arv Z h a2c ka2c .double 3 [(.double x1c), (.double x2c), (.double x3c)] (.double 0))
theorem rm8_16 (l : Launch) (Z : State) (a0 : Array Value) (hw : HW a0 Z) (a1c a2c : Addr) (ka2c : ClassId) (x1c x2c x3c : UInt64) (x4c x5c x6c : Int32) (h0 : Heap) (n0 : Nat) (P0 : Fld Z h0 a1c HSn "heap" "[D" (.ref a2c)) (P1 : Fld Z h0 a1c HSn "size" "I" (.int 3)) (P2 : Arv Z h0 a2c ka2c .double 3 [(.double x1c), (.double x2c), (.double x3c)] (.double 0)) (g_a2c : n0 ≤ a2c) (u0 : ¬ ((Int32.toInt64 x4c) < (Int32.toInt64 x5c))) (u1 : ¬ ((Int32.toInt64 x5c) < (Int32.toInt64 x6c))) (hx1c : x1c = FP.l2d (Int32.toInt64 x6c)) (hx2c : x2c = FP.l2d (Int32.toInt64 x5c)) (hx3c : x3c = FP.l2d (Int32.toInt64 x4c)) :
  MM l Z Y8 prog_43_method_5_code 5 none 0 0 0 0 #[(.ref a1c), (.int 0)] h0 (Q8_16 Z a1c a2c ka2c x1c x2c x3c x4c x5c x6c h0 n0) := by
 refine own_start (fun m => (mkF m 0 (Sh3 a1c 0) [])) (plainFor_of_name pn_com_example_nearterm_nearterm_retrieval_HighestScores) (by simp [entryFrame, mkF, argsToLocals, Value.category]) n0 ?_
 intro p e s m below meth c s₁ Bd hx B hml hZ hown hnm X0 e0 N0
 refine GoW.sg (mkF m 1 (Sh3 a1c 0) [(.ref a1c)]) (fun t k => XS.aloadN X0.here hx rfl (B d8_0) rfl rfl k) ?_
 obtain ⟨T417, X417, e417, st417⟩ := getF X0 hx hZ hown (host := "") (Or.inl (ww hw 11 rfl)) Via.refl e0 P0 (g := (mkF m 1 (Sh3 a1c 0) [(.ref a1c)])) rfl rfl (B d8_1)
 refine GoW.sg (mkF m 4 (Sh3 a1c 0) [(.ref a2c)]) (fun t k => st417 t k) ?_
 refine GoW.sg (mkF m 5 (Sh3 a1c 0) [(.int 0), (.ref a2c)]) (fun t k => XS.iloadN X417.here hx rfl (B d8_4) rfl k) ?_
 obtain ⟨cl418, Ar418, q418, Sz418, Nn418, Hh418, Gg418⟩ := id P2
 have hin418 : ¬ ((0 : Int32) < 0 ∨ cl418.slots.size ≤ ((0 : Int32)).toNatClampNeg) := inb_of Sz418 ⟨by decide, by decide⟩
 refine GoW.sg (mkF m 6 (Sh3 a1c 0) [(.double x1c)]) (fun t k => X417.daload hx (j := (0 : Int32)) (v := (.double x1c)) (hq_ e417 Ar418.1) (State.isArrayOf_alike hZ.alike Ar418.2.1) Ar418.2.2 hin418 (Hh418.at hin418 rfl) (g := (mkF m 5 (Sh3 a1c 0) [(.int 0), (.ref a2c)])) rfl rfl (B d8_5) t k) ?_
 refine GoW.sg (mkF m 9 (Sh4 a1c 0 x1c) [(.int 0), (.int 2)]) (fun t k => XS.dstoreN X417.here hx rfl (B d8_6) rfl (l' := (Sh4 a1c 0 x1c)) rfl (XS.iconst X417.here hx rfl (B d8_7) (XS.iloadN X417.here hx rfl (B d8_8) rfl k))) ?_
 refine GoW.st (fun t k => XS.imul X417.here hx rfl (B d8_9) rfl k) ?_
 rw [show ((2 : Int32) * (0 : Int32)) = (0 : Int32) from by decide]
 show GoW p e below s (Q8_16 Z a1c a2c ka2c x1c x2c x3c x4c x5c x6c h0 n0) 0 0 (T417.setTop (mkF m 10 (Sh4 a1c 0 x1c) [(.int 0)]))
 refine GoW.sg (mkF m 11 (Sh4 a1c 0 x1c) [(.int 1), (.int 0)]) (fun t k => XS.iconst X417.here hx rfl (B d8_10) k) ?_
 refine GoW.st (fun t k => XS.iadd X417.here hx rfl (B d8_11) rfl k) ?_
 rw [show ((0 : Int32) + (1 : Int32)) = (1 : Int32) from by decide]
 show GoW p e below s (Q8_16 Z a1c a2c ka2c x1c x2c x3c x4c x5c x6c h0 n0) 0 0 (T417.setTop (mkF m 12 (Sh4 a1c 0 x1c) [(.int 1)]))
 refine GoW.sg (mkF m 13 (Sh4 a1c 0 x1c) [(.ref a1c), (.int 1)]) (fun t k => XS.aloadN X417.here hx rfl (B d8_12) rfl rfl k) ?_
 obtain ⟨T419, X419, e419, st419⟩ := getF X417 hx hZ hown (host := "") (Or.inl (ww hw 18 rfl)) Via.refl e417 P1 (g := (mkF m 13 (Sh4 a1c 0 x1c) [(.ref a1c), (.int 1)])) rfl rfl (B d8_13)
 refine GoW.sg (mkF m 16 (Sh4 a1c 0 x1c) [(.int 3), (.int 1)]) (fun t k => st419 t k) ?_
 refine GoW.sg (mkF m 21 (Sh4 a1c 0 x1c) [(.int 0), (.int 2)]) (fun t k => XS.icmpNo X419.here hx rfl (B d8_16) rfl (by decide) (XS.iconst X419.here hx rfl (B d8_19) (XS.iloadN X419.here hx rfl (B d8_20) rfl k))) ?_
 refine GoW.st (fun t k => XS.imul X419.here hx rfl (B d8_21) rfl k) ?_
 rw [show ((2 : Int32) * (0 : Int32)) = (0 : Int32) from by decide]
 show GoW p e below s (Q8_16 Z a1c a2c ka2c x1c x2c x3c x4c x5c x6c h0 n0) 0 0 (T419.setTop (mkF m 22 (Sh4 a1c 0 x1c) [(.int 0)]))
 refine GoW.sg (mkF m 23 (Sh4 a1c 0 x1c) [(.int 1), (.int 0)]) (fun t k => XS.iconst X419.here hx rfl (B d8_22) k) ?_
 refine GoW.st (fun t k => XS.iadd X419.here hx rfl (B d8_23) rfl k) ?_
 rw [show ((0 : Int32) + (1 : Int32)) = (1 : Int32) from by decide]
 show GoW p e below s (Q8_16 Z a1c a2c ka2c x1c x2c x3c x4c x5c x6c h0 n0) 0 0 (T419.setTop (mkF m 24 (Sh4 a1c 0 x1c) [(.int 1)]))
 refine GoW.sg (mkF m 29 (Sh5 a1c 0 x1c 1) [(.int 1), (.int 1)]) (fun t k => XS.istore X419.here hx rfl (B d8_24) rfl (l' := (Sh5 a1c 0 x1c 1)) rfl (XS.iload X419.here hx rfl (B d8_26) rfl (XS.iconst X419.here hx rfl (B d8_28) k))) ?_
 refine GoW.st (fun t k => XS.iadd X419.here hx rfl (B d8_29) rfl k) ?_
 rw [show ((1 : Int32) + (1 : Int32)) = (2 : Int32) from by decide]
 show GoW p e below s (Q8_16 Z a1c a2c ka2c x1c x2c x3c x4c x5c x6c h0 n0) 0 0 (T419.setTop (mkF m 30 (Sh5 a1c 0 x1c 1) [(.int 2)]))
 refine GoW.sg (mkF m 31 (Sh5 a1c 0 x1c 1) [(.ref a1c), (.int 2)]) (fun t k => XS.aloadN X419.here hx rfl (B d8_30) rfl rfl k) ?_
 obtain ⟨T420, X420, e420, st420⟩ := getF X419 hx hZ hown (host := "") (Or.inl (ww hw 18 rfl)) Via.refl e419 P1 (g := (mkF m 31 (Sh5 a1c 0 x1c 1) [(.ref a1c), (.int 2)])) rfl rfl (B d8_31)
 refine GoW.sg (mkF m 34 (Sh5 a1c 0 x1c 1) [(.int 3), (.int 2)]) (fun t k => st420 t k) ?_
 refine GoW.sg (mkF m 38 (Sh5 a1c 0 x1c 1) [(.ref a1c)]) (fun t k => XS.icmpNo X420.here hx rfl (B d8_34) rfl (by decide) (XS.aloadN X420.here hx rfl (B d8_37) rfl rfl k)) ?_
 obtain ⟨T421, X421, e421, st421⟩ := getF X420 hx hZ hown (host := "") (Or.inl (ww hw 11 rfl)) Via.refl e420 P0 (g := (mkF m 38 (Sh5 a1c 0 x1c 1) [(.ref a1c)])) rfl rfl (B d8_38)
 refine GoW.sg (mkF m 41 (Sh5 a1c 0 x1c 1) [(.ref a2c)]) (fun t k => st421 t k) ?_
 refine GoW.sg (mkF m 44 (Sh5 a1c 0 x1c 1) [(.int 1), (.int 1), (.ref a2c)]) (fun t k => XS.iload X421.here hx rfl (B d8_41) rfl (XS.iconst X421.here hx rfl (B d8_43) k)) ?_
 refine GoW.st (fun t k => XS.iadd X421.here hx rfl (B d8_44) rfl k) ?_
 rw [show ((1 : Int32) + (1 : Int32)) = (2 : Int32) from by decide]
 show GoW p e below s (Q8_16 Z a1c a2c ka2c x1c x2c x3c x4c x5c x6c h0 n0) 0 0 (T421.setTop (mkF m 45 (Sh5 a1c 0 x1c 1) [(.int 2), (.ref a2c)]))
 obtain ⟨cl422, Ar422, q422, Sz422, Nn422, Hh422, Gg422⟩ := id P2
 have hin422 : ¬ ((2 : Int32) < 0 ∨ cl422.slots.size ≤ ((2 : Int32)).toNatClampNeg) := inb_of Sz422 ⟨by decide, by decide⟩
 refine GoW.sg (mkF m 46 (Sh5 a1c 0 x1c 1) [(.double x3c)]) (fun t k => X421.daload hx (j := (2 : Int32)) (v := (.double x3c)) (hq_ e421 Ar422.1) (State.isArrayOf_alike hZ.alike Ar422.2.1) Ar422.2.2 hin422 (Hh422.at hin422 rfl) (g := (mkF m 45 (Sh5 a1c 0 x1c 1) [(.int 2), (.ref a2c)])) rfl rfl (B d8_45) t k) ?_
 refine GoW.sg (mkF m 47 (Sh5 a1c 0 x1c 1) [(.ref a1c), (.double x3c)]) (fun t k => XS.aloadN X421.here hx rfl (B d8_46) rfl rfl k) ?_
 obtain ⟨T423, X423, e423, st423⟩ := getF X421 hx hZ hown (host := "") (Or.inl (ww hw 11 rfl)) Via.refl e421 P0 (g := (mkF m 47 (Sh5 a1c 0 x1c 1) [(.ref a1c), (.double x3c)])) rfl rfl (B d8_47)
 refine GoW.sg (mkF m 50 (Sh5 a1c 0 x1c 1) [(.ref a2c), (.double x3c)]) (fun t k => st423 t k) ?_
 refine GoW.sg (mkF m 52 (Sh5 a1c 0 x1c 1) [(.int 1), (.ref a2c), (.double x3c)]) (fun t k => XS.iload X423.here hx rfl (B d8_50) rfl k) ?_
 obtain ⟨cl424, Ar424, q424, Sz424, Nn424, Hh424, Gg424⟩ := id P2
 have hin424 : ¬ ((1 : Int32) < 0 ∨ cl424.slots.size ≤ ((1 : Int32)).toNatClampNeg) := inb_of Sz424 ⟨by decide, by decide⟩
 refine GoW.sg (mkF m 53 (Sh5 a1c 0 x1c 1) [(.double x2c), (.double x3c)]) (fun t k => X423.daload hx (j := (1 : Int32)) (v := (.double x2c)) (hq_ e423 Ar424.1) (State.isArrayOf_alike hZ.alike Ar424.2.1) Ar424.2.2 hin424 (Hh424.at hin424 rfl) (g := (mkF m 52 (Sh5 a1c 0 x1c 1) [(.int 1), (.ref a2c), (.double x3c)])) rfl rfl (B d8_52) t k) ?_
 refine GoW.sg (mkF m 61 (Sh5 a1c 0 x1c 1) [(.ref a1c)]) (fun t k => XS.dcmpS X423.here hx rfl (B d8_53) rfl (v := (lcmpW (Int32.toInt64 x4c) (Int32.toInt64 x5c))) (by rw [hx3c, hx2c]; exact dcmpV_w (own_b53 _) (own_b53 _) _) (XS.ifYes X423.here hx rfl (pc0 := 54) (pc' := 60) rfl (B d8_54) rfl ((if0 _ _).trans (flt (mt (lw_lt _ _).mp u0)).2.1) (by decide) (by decide) (XS.aloadN X423.here hx rfl (B d8_60) rfl rfl k))) ?_
 obtain ⟨T425, X425, e425, st425⟩ := getF X423 hx hZ hown (host := "") (Or.inl (ww hw 11 rfl)) Via.refl e423 P0 (g := (mkF m 61 (Sh5 a1c 0 x1c 1) [(.ref a1c)])) rfl rfl (B d8_61)
 refine GoW.sg (mkF m 64 (Sh5 a1c 0 x1c 1) [(.ref a2c)]) (fun t k => st425 t k) ?_
 refine GoW.sg (mkF m 66 (Sh5 a1c 0 x1c 1) [(.int 1), (.ref a2c)]) (fun t k => XS.iload X425.here hx rfl (B d8_64) rfl k) ?_
 obtain ⟨cl426, Ar426, q426, Sz426, Nn426, Hh426, Gg426⟩ := id P2
 have hin426 : ¬ ((1 : Int32) < 0 ∨ cl426.slots.size ≤ ((1 : Int32)).toNatClampNeg) := inb_of Sz426 ⟨by decide, by decide⟩
 refine GoW.sg (mkF m 67 (Sh5 a1c 0 x1c 1) [(.double x2c)]) (fun t k => X425.daload hx (j := (1 : Int32)) (v := (.double x2c)) (hq_ e425 Ar426.1) (State.isArrayOf_alike hZ.alike Ar426.2.1) Ar426.2.2 hin426 (Hh426.at hin426 rfl) (g := (mkF m 66 (Sh5 a1c 0 x1c 1) [(.int 1), (.ref a2c)])) rfl rfl (B d8_66) t k) ?_
 refine GoW.sg (mkF m 95 (Sh5 a1c 0 x1c 1) [(.ref a1c)]) (fun t k => XS.dloadN X425.here hx rfl (B d8_67) rfl (XS.dcmpS X425.here hx rfl (B d8_68) rfl (v := (lcmpW (Int32.toInt64 x5c) (Int32.toInt64 x6c))) (by rw [hx2c, hx1c]; exact dcmpV_w (own_b53 _) (own_b53 _) _) (XS.ifNo X425.here hx rfl (B d8_69) rfl ((if0 _ _).trans (flt (mt (lw_lt _ _).mp u1)).1) (XS.goto X425.here hx rfl (pc0 := 72) (pc' := 94) rfl (B d8_72) (by decide) (by decide) (XS.aloadN X425.here hx rfl (B d8_94) rfl rfl k))))) ?_
 obtain ⟨T427, X427, e427, st427⟩ := getF X425 hx hZ hown (host := "") (Or.inl (ww hw 11 rfl)) Via.refl e425 P0 (g := (mkF m 95 (Sh5 a1c 0 x1c 1) [(.ref a1c)])) rfl rfl (B d8_95)
 refine GoW.sg (mkF m 98 (Sh5 a1c 0 x1c 1) [(.ref a2c)]) (fun t k => st427 t k) ?_
 refine GoW.sg (mkF m 100 (Sh5 a1c 0 x1c 1) [(.double x1c), (.int 0), (.ref a2c)]) (fun t k => XS.iloadN X427.here hx rfl (B d8_98) rfl (XS.dloadN X427.here hx rfl (B d8_99) rfl k)) ?_
 obtain ⟨cl428, Ar428, q428, Sz428, Nn428, Hh428, Gg428⟩ := P2
 have hin428 : ¬ ((0 : Int32) < 0 ∨ cl428.slots.size ≤ ((0 : Int32)).toNatClampNeg) := inb_of Sz428 ⟨by decide, by decide⟩
 obtain ⟨T428, h428, X428, e428, W428, st428⟩ := stD X427 hx hZ e427 Ar428 (j := (0 : Int32)) hin428 (g := (mkF m 100 (Sh5 a1c 0 x1c 1) [(.double x1c), (.int 0), (.ref a2c)])) rfl rfl (B d8_100)
 have f428_1 := (Keep.refl h0 [a2c]).wr W428 (Or.inl (List.mem_of_getElem? (i := 0) rfl))
 have V428 : Arv Z h428 a2c ka2c .double (3 : Int32) [(.double x1c), (.double x2c), (.double x3c)] (.double (0 : UInt64)) := Arv.set Ar428 q428 Sz428 Nn428 Hh428 Gg428 rfl W428 0 rfl (Nat.le_of_ble_eq_true rfl)
 have N428 := Fr.snoc X428 N0 g_a2c
 refine GoW.sg (mkF m 101 (Sh5 a1c 0 x1c 1) []) (fun t k => st428 t k) ?_
 refine GoW.retV X428 hx Bd.returns (B d8_101) Bd.notSynchronized ?_ (by decide) (by decide)
 rw [e428]
 exact ⟨rfl, N428, f428_1, V428⟩
def QO33 (Z : State) (a1 : Addr) (dx : UInt64) (x v0 : Int32) (v1 v2 : Int32) (d0 d1 d2 : UInt64) (a2 : Addr) (ka2 : ClassId) (h0 : Heap) (n0 : Nat) (v : Option Value) (h : Heap) (L : List Loc) : Prop := ∃ w0 : Int32, ∃ w1 : Int32, ∃ w2 : Int32, ∃ f0 : UInt64, ∃ f1 : UInt64, ∃ f2 : UInt64, v = none ∧ Fr n0 L ∧ (Keep h0 h [a1, a2]) ∧ (Exa Z h a1 HSn) ∧ (Fld Z h a1 HSn "size" "I" (.int 3)) ∧ (Fld Z h a1 HSn "heap" "[D" (.ref a2)) ∧ (Arv Z h a2 ka2 .double 3 [(.double f0), (.double f1), (.double f2)] (.double 0)) ∧ (f0 = FP.l2d (Int32.toInt64 w0) ∧ f1 = FP.l2d (Int32.toInt64 w1) ∧ f2 = FP.l2d (Int32.toInt64 w2) ∧ (w0.toInt ≤ w1.toInt ∧ w0.toInt ≤ w2.toInt) ∧ (∀ z : Int, cn z w0 + cn z w1 + cn z w2 = min 3 (cn z v0 + cn z v1 + cn z v2 + cn z x)))
theorem rmO33 (l : Launch) (Z : State) (a0 : Array Value) (hw : HW a0 Z) (a1 : Addr) (dx : UInt64) (x v0 : Int32) (v1 v2 : Int32) (d0 d1 d2 : UInt64) (a2 : Addr) (ka2 : ClassId) (h0 : Heap) (n0 : Nat) (P0 : Exa Z h0 a1 HSn) (P1 : Fld Z h0 a1 HSn "size" "I" (.int 3)) (P2 : Fld Z h0 a1 HSn "heap" "[D" (.ref a2)) (P3 : Arv Z h0 a2 ka2 .double 3 [(.double d0), (.double d1), (.double d2)] (.double 0)) (g_a1 : n0 ≤ a1) (g_a2 : n0 ≤ a2) (ne_a1_a2 : a1 ≠ a2) (hd0 : d0 = FP.l2d (Int32.toInt64 v0)) (hd1 : d1 = FP.l2d (Int32.toInt64 v1)) (hd2 : d2 = FP.l2d (Int32.toInt64 v2)) (hdx : dx = FP.l2d (Int32.toInt64 x)) (hH : v0.toInt ≤ v1.toInt ∧ v0.toInt ≤ v2.toInt) :
  MM l Z Y4 prog_43_method_2_code 3 none 1 0 0 16 #[(.ref a1), (.double dx)] h0 (QO33 Z a1 dx x v0 v1 v2 d0 d1 d2 a2 ka2 h0 n0) := by
 refine own_start (fun m => (mkF m 0 (Sh0 a1 dx) [])) (plainFor_of_name pn_com_example_nearterm_nearterm_retrieval_HighestScores) (by simp [entryFrame, mkF, argsToLocals, Value.category]) n0 ?_
 intro p e s m below meth c s₁ Bd hx B hml hZ hown hnm X0 e0 N0
 refine GoW.sg (mkF m 1 (Sh0 a1 dx) [(.ref a1)]) (fun t k => XS.aloadN X0.here hx rfl (B d4_0) rfl rfl k) ?_
 obtain ⟨T271, X271, e271, st271⟩ := getF X0 hx hZ hown (host := "") (Or.inl (ww hw 18 rfl)) Via.refl e0 P1 (g := (mkF m 1 (Sh0 a1 dx) [(.ref a1)])) rfl rfl (B d4_1)
 refine GoW.sg (mkF m 4 (Sh0 a1 dx) [(.int 3)]) (fun t k => st271 t k) ?_
 refine GoW.sg (mkF m 5 (Sh0 a1 dx) [(.ref a1), (.int 3)]) (fun t k => XS.aloadN X271.here hx rfl (B d4_4) rfl rfl k) ?_
 obtain ⟨T272, X272, e272, st272⟩ := getF X271 hx hZ hown (host := "") (Or.inl (ww hw 11 rfl)) Via.refl e271 P2 (g := (mkF m 5 (Sh0 a1 dx) [(.ref a1), (.int 3)])) rfl rfl (B d4_5)
 refine GoW.sg (mkF m 8 (Sh0 a1 dx) [(.ref a2), (.int 3)]) (fun t k => st272 t k) ?_
 obtain ⟨cl273, Ar273, q273, Sz273, Nn273, Hh273, Gg273⟩ := id P3
 have st273 := X272.arraylength hx (hq_ e272 Ar273.1) (State.isArrayOf_alike hZ.alike Ar273.2.1) (g := (mkF m 8 (Sh0 a1 dx) [(.ref a2), (.int 3)])) rfl rfl (B d4_8)
 rw [len_of Sz273 Nn273] at st273
 refine GoW.sg (mkF m 9 (Sh0 a1 dx) [(.int 3), (.int 3)]) (fun t k => st273 t k) ?_
 refine GoW.sg (mkF m 42 (Sh0 a1 dx) [(.ref a1), (.double dx)]) (fun t k => XS.icmpYes X272.here hx rfl (pc0 := 9) (pc' := 40) rfl (B d4_9) rfl (by decide) (by decide) (by decide) (XS.dloadN X272.here hx rfl (B d4_40) rfl (XS.aloadN X272.here hx rfl (B d4_41) rfl rfl k))) ?_
 obtain ⟨T274, X274, e274, st274⟩ := getF X272 hx hZ hown (host := "") (Or.inl (ww hw 11 rfl)) Via.refl e272 P2 (g := (mkF m 42 (Sh0 a1 dx) [(.ref a1), (.double dx)])) rfl rfl (B d4_42)
 refine GoW.sg (mkF m 45 (Sh0 a1 dx) [(.ref a2), (.double dx)]) (fun t k => st274 t k) ?_
 refine GoW.sg (mkF m 46 (Sh0 a1 dx) [(.int 0), (.ref a2), (.double dx)]) (fun t k => XS.iconst X274.here hx rfl (B d4_45) k) ?_
 obtain ⟨cl275, Ar275, q275, Sz275, Nn275, Hh275, Gg275⟩ := id P3
 have hin275 : ¬ ((0 : Int32) < 0 ∨ cl275.slots.size ≤ ((0 : Int32)).toNatClampNeg) := inb_of Sz275 ⟨by decide, by decide⟩
 refine GoW.sg (mkF m 47 (Sh0 a1 dx) [(.double d0), (.double dx)]) (fun t k => X274.daload hx (j := (0 : Int32)) (v := (.double d0)) (hq_ e274 Ar275.1) (State.isArrayOf_alike hZ.alike Ar275.2.1) Ar275.2.2 hin275 (Hh275.at hin275 rfl) (g := (mkF m 46 (Sh0 a1 dx) [(.int 0), (.ref a2), (.double dx)])) rfl rfl (B d4_46) t k) ?_
 refine GoW.sg (mkF m 48 (Sh0 a1 dx) [(.int (lcmpW (Int32.toInt64 x) (Int32.toInt64 v0)))]) (fun t k => XS.dcmpS X274.here hx rfl (B d4_47) rfl (v := (lcmpW (Int32.toInt64 x) (Int32.toInt64 v0))) (by rw [hdx, hd0]; exact dcmpV_w (own_b53 _) (own_b53 _) _) k) ?_
 by_cases c276 : (Int32.toInt64 v0) < (Int32.toInt64 x)
 ·refine GoW.sg (mkF m 52 (Sh0 a1 dx) [(.ref a1)]) (fun t k => XS.ifNo X274.here hx rfl (B d4_48) rfl ((if0 _ _).trans (tlt ((lw_gt _ _).mpr c276)).2.2.2) (XS.aloadN X274.here hx rfl (B d4_51) rfl rfl k)) ?_
  obtain ⟨T277, X277, e277, st277⟩ := getF X274 hx hZ hown (host := "") (Or.inl (ww hw 11 rfl)) Via.refl e274 P2 (g := (mkF m 52 (Sh0 a1 dx) [(.ref a1)])) rfl rfl (B d4_52)
  refine GoW.sg (mkF m 55 (Sh0 a1 dx) [(.ref a2)]) (fun t k => st277 t k) ?_
  refine GoW.sg (mkF m 57 (Sh0 a1 dx) [(.double dx), (.int 0), (.ref a2)]) (fun t k => XS.iconst X277.here hx rfl (B d4_55) (XS.dloadN X277.here hx rfl (B d4_56) rfl k)) ?_
  obtain ⟨cl278, Ar278, q278, Sz278, Nn278, Hh278, Gg278⟩ := P3
  have hin278 : ¬ ((0 : Int32) < 0 ∨ cl278.slots.size ≤ ((0 : Int32)).toNatClampNeg) := inb_of Sz278 ⟨by decide, by decide⟩
  obtain ⟨T278, h278, X278, e278, W278, st278⟩ := stD X277 hx hZ e277 Ar278 (j := (0 : Int32)) hin278 (g := (mkF m 57 (Sh0 a1 dx) [(.double dx), (.int 0), (.ref a2)])) rfl rfl (B d4_57)
  have f278_1 := P0.wr W278
  have f278_2 := P1.other W278 (Or.inl ne_a1_a2)
  have f278_3 := P2.other W278 (Or.inl ne_a1_a2)
  have f278_4 := (Keep.refl h0 [a1, a2]).wr W278 (Or.inl (List.mem_of_getElem? (i := 1) rfl))
  have V278 : Arv Z h278 a2 ka2 .double (3 : Int32) [(.double dx), (.double d1), (.double d2)] (.double (0 : UInt64)) := Arv.set Ar278 q278 Sz278 Nn278 Hh278 Gg278 rfl W278 0 rfl (Nat.le_of_ble_eq_true rfl)
  have N278 := Fr.snoc X278 N0 g_a2
  refine GoW.sg (mkF m 58 (Sh0 a1 dx) []) (fun t k => st278 t k) ?_
  refine GoW.sg (mkF m 60 (Sh0 a1 dx) [(.int 0), (.ref a1)]) (fun t k => XS.aloadN X278.here hx rfl (B d4_58) rfl rfl (XS.iconst X278.here hx rfl (B d4_59) k)) ?_
  by_cases c287 : (Int32.toInt64 v2) < (Int32.toInt64 v1)
  ·show GoW p e below s (QO33 Z a1 dx x v0 v1 v2 d0 d1 d2 a2 ka2 h0 n0) 0 0 (T278.setTop (mkF m 60 (Sh0 a1 dx) [(.int 0), (.ref a1)]))
   by_cases c298 : (Int32.toInt64 v2) < (Int32.toInt64 x)
   ·show GoW p e below s (QO33 Z a1 dx x v0 v1 v2 d0 d1 d2 a2 ka2 h0 n0) 0 0 (T278.setTop (mkF m 60 (Sh0 a1 dx) [(.int 0), (.ref a1)]))
    obtain ⟨_, T333, L333, X333, hQ333, st333⟩ := own_priv X278 hx hZ (y := Y8) hown (ww hw 38 rfl) (ww hw 40 rfl) (ww hw 2 rfl) (ww hw 39 rfl) (ww hw 41 rfl) (ww hw 3 rfl) (by decide) 0 (a := a1) (rm8_13 l Z a0 hw a1 a2 ka2 dx d1 d2 v2 v1 x h278 n0 f278_3 f278_2 V278 g_a2 ne_a1_a2 c287 c298 hdx hd1 hd2 ) (by decide) (by decide) e278 f278_1 (by decide) (by decide) (g := (mkF m 60 (Sh0 a1 dx) [(.int 0), (.ref a1)])) rfl (by rw [hml]; rfl) (argsL := [(.int (0 : Int32))]) (rest := []) (lenOf pd_28I29V rfl) rfl (Nat.le_of_eq rfl) (B d4_60)
    obtain ⟨rfl, N333q, K333, p333_0⟩ := hQ333
    have N333 := Fr.app N278 N333q
    have f333_5 := f278_1.keep K333
    have f333_6 := f278_2.keep K333 (ninS ne_a1_a2 nin0)
    have f333_7 := f278_3.keep K333 (ninS ne_a1_a2 nin0)
    have f333_8 := f278_4.trans K333 (allS (Or.inl (List.mem_of_getElem? (i := 1) rfl)) all0)
    refine GoW.sg (mkF m 63 (Sh0 a1 dx) []) (fun t k => st333 t k) ?_
    refine GoW.retV X333 hx Bd.returns (B d4_63) Bd.notSynchronized ?_ (by decide) (by decide)
    simp only [Int64.lt_iff_toInt_lt, Int32.toInt_toInt64] at c276 c287 c298
    exact ⟨v2, v1, x, d2, d1, dx, rfl, N333, f333_8, f333_5, f333_6, f333_7, p333_0, hd2, hd1, hdx, by omega, fun z => by have _k0 := own_cn z v0; have _k1 := own_cn z v1; have _k2 := own_cn z v2; have _k3 := own_cn z x; omega⟩
   ·show GoW p e below s (QO33 Z a1 dx x v0 v1 v2 d0 d1 d2 a2 ka2 h0 n0) 0 0 (T278.setTop (mkF m 60 (Sh0 a1 dx) [(.int 0), (.ref a1)]))
    obtain ⟨_, T358, L358, X358, hQ358, st358⟩ := own_priv X278 hx hZ (y := Y8) hown (ww hw 38 rfl) (ww hw 40 rfl) (ww hw 2 rfl) (ww hw 39 rfl) (ww hw 41 rfl) (ww hw 3 rfl) (by decide) 0 (a := a1) (rm8_14 l Z a0 hw a1 a2 ka2 dx d1 d2 v2 v1 x h278 n0 f278_3 f278_2 V278 g_a2 c287 c298 hdx hd1 hd2 ) (by decide) (by decide) e278 f278_1 (by decide) (by decide) (g := (mkF m 60 (Sh0 a1 dx) [(.int 0), (.ref a1)])) rfl (by rw [hml]; rfl) (argsL := [(.int (0 : Int32))]) (rest := []) (lenOf pd_28I29V rfl) rfl (Nat.le_of_eq rfl) (B d4_60)
    obtain ⟨rfl, N358q, K358, p358_0⟩ := hQ358
    have N358 := Fr.app N278 N358q
    have f358_9 := f278_1.keep K358
    have f358_10 := f278_2.keep K358 (ninS ne_a1_a2 nin0)
    have f358_11 := f278_3.keep K358 (ninS ne_a1_a2 nin0)
    have f358_12 := f278_4.trans K358 (allS (Or.inl (List.mem_of_getElem? (i := 1) rfl)) all0)
    refine GoW.sg (mkF m 63 (Sh0 a1 dx) []) (fun t k => st358 t k) ?_
    refine GoW.retV X358 hx Bd.returns (B d4_63) Bd.notSynchronized ?_ (by decide) (by decide)
    simp only [Int64.lt_iff_toInt_lt, Int32.toInt_toInt64] at c276 c287 c298
    exact ⟨x, v1, v2, dx, d1, d2, rfl, N358, f358_12, f358_9, f358_10, f358_11, p358_0, hdx, hd1, hd2, by omega, fun z => by have _k0 := own_cn z v0; have _k1 := own_cn z v1; have _k2 := own_cn z v2; have _k3 := own_cn z x; omega⟩
  ·show GoW p e below s (QO33 Z a1 dx x v0 v1 v2 d0 d1 d2 a2 ka2 h0 n0) 0 0 (T278.setTop (mkF m 60 (Sh0 a1 dx) [(.int 0), (.ref a1)]))
   by_cases c369 : (Int32.toInt64 v1) < (Int32.toInt64 x)
   ·show GoW p e below s (QO33 Z a1 dx x v0 v1 v2 d0 d1 d2 a2 ka2 h0 n0) 0 0 (T278.setTop (mkF m 60 (Sh0 a1 dx) [(.int 0), (.ref a1)]))
    obtain ⟨_, T404, L404, X404, hQ404, st404⟩ := own_priv X278 hx hZ (y := Y8) hown (ww hw 38 rfl) (ww hw 40 rfl) (ww hw 2 rfl) (ww hw 39 rfl) (ww hw 41 rfl) (ww hw 3 rfl) (by decide) 0 (a := a1) (rm8_15 l Z a0 hw a1 a2 ka2 dx d1 d2 v2 v1 x h278 n0 f278_3 f278_2 V278 g_a2 ne_a1_a2 c287 c369 hdx hd1 hd2 ) (by decide) (by decide) e278 f278_1 (by decide) (by decide) (g := (mkF m 60 (Sh0 a1 dx) [(.int 0), (.ref a1)])) rfl (by rw [hml]; rfl) (argsL := [(.int (0 : Int32))]) (rest := []) (lenOf pd_28I29V rfl) rfl (Nat.le_of_eq rfl) (B d4_60)
    obtain ⟨rfl, N404q, K404, p404_0⟩ := hQ404
    have N404 := Fr.app N278 N404q
    have f404_13 := f278_1.keep K404
    have f404_14 := f278_2.keep K404 (ninS ne_a1_a2 nin0)
    have f404_15 := f278_3.keep K404 (ninS ne_a1_a2 nin0)
    have f404_16 := f278_4.trans K404 (allS (Or.inl (List.mem_of_getElem? (i := 1) rfl)) all0)
    refine GoW.sg (mkF m 63 (Sh0 a1 dx) []) (fun t k => st404 t k) ?_
    refine GoW.retV X404 hx Bd.returns (B d4_63) Bd.notSynchronized ?_ (by decide) (by decide)
    simp only [Int64.lt_iff_toInt_lt, Int32.toInt_toInt64] at c276 c287 c369
    exact ⟨v1, x, v2, d1, dx, d2, rfl, N404, f404_16, f404_13, f404_14, f404_15, p404_0, hd1, hdx, hd2, by omega, fun z => by have _k0 := own_cn z v0; have _k1 := own_cn z v1; have _k2 := own_cn z v2; have _k3 := own_cn z x; omega⟩
   ·show GoW p e below s (QO33 Z a1 dx x v0 v1 v2 d0 d1 d2 a2 ka2 h0 n0) 0 0 (T278.setTop (mkF m 60 (Sh0 a1 dx) [(.int 0), (.ref a1)]))
    obtain ⟨_, T429, L429, X429, hQ429, st429⟩ := own_priv X278 hx hZ (y := Y8) hown (ww hw 38 rfl) (ww hw 40 rfl) (ww hw 2 rfl) (ww hw 39 rfl) (ww hw 41 rfl) (ww hw 3 rfl) (by decide) 0 (a := a1) (rm8_16 l Z a0 hw a1 a2 ka2 dx d1 d2 v2 v1 x h278 n0 f278_3 f278_2 V278 g_a2 c287 c369 hdx hd1 hd2 ) (by decide) (by decide) e278 f278_1 (by decide) (by decide) (g := (mkF m 60 (Sh0 a1 dx) [(.int 0), (.ref a1)])) rfl (by rw [hml]; rfl) (argsL := [(.int (0 : Int32))]) (rest := []) (lenOf pd_28I29V rfl) rfl (Nat.le_of_eq rfl) (B d4_60)
    obtain ⟨rfl, N429q, K429, p429_0⟩ := hQ429
    have N429 := Fr.app N278 N429q
    have f429_17 := f278_1.keep K429
    have f429_18 := f278_2.keep K429 (ninS ne_a1_a2 nin0)
    have f429_19 := f278_3.keep K429 (ninS ne_a1_a2 nin0)
    have f429_20 := f278_4.trans K429 (allS (Or.inl (List.mem_of_getElem? (i := 1) rfl)) all0)
    refine GoW.sg (mkF m 63 (Sh0 a1 dx) []) (fun t k => st429 t k) ?_
    refine GoW.retV X429 hx Bd.returns (B d4_63) Bd.notSynchronized ?_ (by decide) (by decide)
    simp only [Int64.lt_iff_toInt_lt, Int32.toInt_toInt64] at c276 c287 c369
    exact ⟨x, v1, v2, dx, d1, d2, rfl, N429, f429_20, f429_17, f429_18, f429_19, p429_0, hdx, hd1, hd2, by omega, fun z => by have _k0 := own_cn z v0; have _k1 := own_cn z v1; have _k2 := own_cn z v2; have _k3 := own_cn z x; omega⟩
 ·refine GoW.sg (mkF m 63 (Sh0 a1 dx) []) (fun t k => XS.ifYes X274.here hx rfl (pc0 := 48) (pc' := 63) rfl (B d4_48) rfl ((if0 _ _).trans (flt (mt (lw_gt _ _).mp c276)).2.2.2) (by decide) (by decide) k) ?_
  refine GoW.retV X274 hx Bd.returns (B d4_63) Bd.notSynchronized ?_ (by decide) (by decide)
  rw [e274]
  simp only [Int64.lt_iff_toInt_lt, Int32.toInt_toInt64] at c276
  exact ⟨v0, v1, v2, d0, d1, d2, rfl, N0, (Keep.refl h0 [a1, a2]), P0, P1, P2, P3, hd0, hd1, hd2, by omega, fun z => by have _k0 := own_cn z v0; have _k1 := own_cn z v1; have _k2 := own_cn z v2; have _k3 := own_cn z x; omega⟩
def Q5_17 (Z : State) (a1c a2c : Addr) (ka2c : ClassId) (x1c : UInt64) (x2c : Int32) (h0 : Heap) (n0 : Nat) (v : Option Value) (h : Heap) (L : List Loc) : Prop := v = none ∧ Fr n0 L ∧ (Keep h0 h [a2c]) ∧ (Arv Z h a2c ka2c .double 4 [(.double x1c), (.double 0), (.double 0), (.double 0)] (.double 0))
theorem rm5_17 (l : Launch) (Z : State) (a0 : Array Value) (hw : HW a0 Z) (a1c a2c : Addr) (ka2c : ClassId) (x1c : UInt64) (x2c : Int32) (h0 : Heap) (n0 : Nat) (P0 : Fld Z h0 a1c HSn "heap" "[D" (.ref a2c)) (P1 : Arv Z h0 a2c ka2c .double 4 [(.double x1c), (.double 0), (.double 0), (.double 0)] (.double 0)) (g_a2c : n0 ≤ a2c) (hx1c : x1c = FP.l2d (Int32.toInt64 x2c)) :
  MM l Z Y5 prog_43_method_4_code 4 none 0 0 0 0 #[(.ref a1c), (.int 0)] h0 (Q5_17 Z a1c a2c ka2c x1c x2c h0 n0) := by
 refine own_start (fun m => (mkF m 0 (Sh1 a1c 0) [])) (plainFor_of_name pn_com_example_nearterm_nearterm_retrieval_HighestScores) (by simp [entryFrame, mkF, argsToLocals, Value.category]) n0 ?_
 intro p e s m below meth c s₁ Bd hx B hml hZ hown hnm X0 e0 N0
 refine GoW.sg (mkF m 1 (Sh1 a1c 0) [(.ref a1c)]) (fun t k => XS.aloadN X0.here hx rfl (B d5_0) rfl rfl k) ?_
 obtain ⟨T442, X442, e442, st442⟩ := getF X0 hx hZ hown (host := "") (Or.inl (ww hw 11 rfl)) Via.refl e0 P0 (g := (mkF m 1 (Sh1 a1c 0) [(.ref a1c)])) rfl rfl (B d5_1)
 refine GoW.sg (mkF m 4 (Sh1 a1c 0) [(.ref a2c)]) (fun t k => st442 t k) ?_
 refine GoW.sg (mkF m 5 (Sh1 a1c 0) [(.int 0), (.ref a2c)]) (fun t k => XS.iloadN X442.here hx rfl (B d5_4) rfl k) ?_
 obtain ⟨cl443, Ar443, q443, Sz443, Nn443, Hh443, Gg443⟩ := id P1
 have hin443 : ¬ ((0 : Int32) < 0 ∨ cl443.slots.size ≤ ((0 : Int32)).toNatClampNeg) := inb_of Sz443 ⟨by decide, by decide⟩
 refine GoW.sg (mkF m 6 (Sh1 a1c 0) [(.double x1c)]) (fun t k => X442.daload hx (j := (0 : Int32)) (v := (.double x1c)) (hq_ e442 Ar443.1) (State.isArrayOf_alike hZ.alike Ar443.2.1) Ar443.2.2 hin443 (Hh443.at hin443 rfl) (g := (mkF m 5 (Sh1 a1c 0) [(.int 0), (.ref a2c)])) rfl rfl (B d5_5) t k) ?_
 refine GoW.sg (mkF m 52 (Sh2 a1c 0 x1c) [(.ref a1c)]) (fun t k => XS.dstoreN X442.here hx rfl (B d5_6) rfl (l' := (Sh2 a1c 0 x1c)) rfl (XS.iloadN X442.here hx rfl (B d5_7) rfl (XS.ifYes X442.here hx rfl (pc0 := 8) (pc' := 51) rfl (B d5_8) rfl (by decide) (by decide) (by decide) (XS.aloadN X442.here hx rfl (B d5_51) rfl rfl k)))) ?_
 obtain ⟨T444, X444, e444, st444⟩ := getF X442 hx hZ hown (host := "") (Or.inl (ww hw 11 rfl)) Via.refl e442 P0 (g := (mkF m 52 (Sh2 a1c 0 x1c) [(.ref a1c)])) rfl rfl (B d5_52)
 refine GoW.sg (mkF m 55 (Sh2 a1c 0 x1c) [(.ref a2c)]) (fun t k => st444 t k) ?_
 refine GoW.sg (mkF m 57 (Sh2 a1c 0 x1c) [(.double x1c), (.int 0), (.ref a2c)]) (fun t k => XS.iloadN X444.here hx rfl (B d5_55) rfl (XS.dloadN X444.here hx rfl (B d5_56) rfl k)) ?_
 obtain ⟨cl445, Ar445, q445, Sz445, Nn445, Hh445, Gg445⟩ := P1
 have hin445 : ¬ ((0 : Int32) < 0 ∨ cl445.slots.size ≤ ((0 : Int32)).toNatClampNeg) := inb_of Sz445 ⟨by decide, by decide⟩
 obtain ⟨T445, h445, X445, e445, W445, st445⟩ := stD X444 hx hZ e444 Ar445 (j := (0 : Int32)) hin445 (g := (mkF m 57 (Sh2 a1c 0 x1c) [(.double x1c), (.int 0), (.ref a2c)])) rfl rfl (B d5_57)
 have f445_1 := (Keep.refl h0 [a2c]).wr W445 (Or.inl (List.mem_of_getElem? (i := 0) rfl))
 have V445 : Arv Z h445 a2c ka2c .double (4 : Int32) [(.double x1c), (.double (0 : UInt64)), (.double (0 : UInt64)), (.double (0 : UInt64))] (.double (0 : UInt64)) := Arv.set Ar445 q445 Sz445 Nn445 Hh445 Gg445 rfl W445 0 rfl (Nat.le_of_ble_eq_true rfl)
 have N445 := Fr.snoc X445 N0 g_a2c
 refine GoW.sg (mkF m 58 (Sh2 a1c 0 x1c) []) (fun t k => st445 t k) ?_
 refine GoW.retV X445 hx Bd.returns (B d5_58) Bd.notSynchronized ?_ (by decide) (by decide)
 rw [e445]
 exact ⟨rfl, N445, f445_1, V445⟩
def QO40 (Z : State) (a1 : Addr) (dx : UInt64) (x : Int32) (a2 : Addr) (ka2 : ClassId) (h0 : Heap) (n0 : Nat) (v : Option Value) (h : Heap) (L : List Loc) : Prop := ∃ w0 : Int32, ∃ f0 : UInt64, v = none ∧ Fr n0 L ∧ (Keep h0 h [a1, a2]) ∧ (Exa Z h a1 HSn) ∧ (Fld Z h a1 HSn "size" "I" (.int 1)) ∧ (Fld Z h a1 HSn "heap" "[D" (.ref a2)) ∧ (Arv Z h a2 ka2 .double 4 [(.double f0), (.double 0), (.double 0), (.double 0)] (.double 0)) ∧ (f0 = FP.l2d (Int32.toInt64 w0) ∧ (True) ∧ (∀ z : Int, cn z w0 = cn z x))
theorem rmO40 (l : Launch) (Z : State) (a0 : Array Value) (hw : HW a0 Z) (a1 : Addr) (dx : UInt64) (x : Int32) (a2 : Addr) (ka2 : ClassId) (h0 : Heap) (n0 : Nat) (P0 : Exa Z h0 a1 HSn) (P1 : Fld Z h0 a1 HSn "size" "I" (.int 0)) (P2 : Fld Z h0 a1 HSn "heap" "[D" (.ref a2)) (P3 : Arv Z h0 a2 ka2 .double 4 [(.double 0), (.double 0), (.double 0), (.double 0)] (.double 0)) (g_a1 : n0 ≤ a1) (g_a2 : n0 ≤ a2) (ne_a1_a2 : a1 ≠ a2) (hdx : dx = FP.l2d (Int32.toInt64 x)) (hH : True) :
  MM l Z Y4 prog_43_method_2_code 3 none 1 0 0 15 #[(.ref a1), (.double dx)] h0 (QO40 Z a1 dx x a2 ka2 h0 n0) := by
 refine own_start (fun m => (mkF m 0 (Sh0 a1 dx) [])) (plainFor_of_name pn_com_example_nearterm_nearterm_retrieval_HighestScores) (by simp [entryFrame, mkF, argsToLocals, Value.category]) n0 ?_
 intro p e s m below meth c s₁ Bd hx B hml hZ hown hnm X0 e0 N0
 refine GoW.sg (mkF m 1 (Sh0 a1 dx) [(.ref a1)]) (fun t k => XS.aloadN X0.here hx rfl (B d4_0) rfl rfl k) ?_
 obtain ⟨T430, X430, e430, st430⟩ := getF X0 hx hZ hown (host := "") (Or.inl (ww hw 18 rfl)) Via.refl e0 P1 (g := (mkF m 1 (Sh0 a1 dx) [(.ref a1)])) rfl rfl (B d4_1)
 refine GoW.sg (mkF m 4 (Sh0 a1 dx) [(.int 0)]) (fun t k => st430 t k) ?_
 refine GoW.sg (mkF m 5 (Sh0 a1 dx) [(.ref a1), (.int 0)]) (fun t k => XS.aloadN X430.here hx rfl (B d4_4) rfl rfl k) ?_
 obtain ⟨T431, X431, e431, st431⟩ := getF X430 hx hZ hown (host := "") (Or.inl (ww hw 11 rfl)) Via.refl e430 P2 (g := (mkF m 5 (Sh0 a1 dx) [(.ref a1), (.int 0)])) rfl rfl (B d4_5)
 refine GoW.sg (mkF m 8 (Sh0 a1 dx) [(.ref a2), (.int 0)]) (fun t k => st431 t k) ?_
 obtain ⟨cl432, Ar432, q432, Sz432, Nn432, Hh432, Gg432⟩ := id P3
 have st432 := X431.arraylength hx (hq_ e431 Ar432.1) (State.isArrayOf_alike hZ.alike Ar432.2.1) (g := (mkF m 8 (Sh0 a1 dx) [(.ref a2), (.int 0)])) rfl rfl (B d4_8)
 rw [len_of Sz432 Nn432] at st432
 refine GoW.sg (mkF m 9 (Sh0 a1 dx) [(.int 4), (.int 0)]) (fun t k => st432 t k) ?_
 refine GoW.sg (mkF m 13 (Sh0 a1 dx) [(.ref a1)]) (fun t k => XS.icmpNo X431.here hx rfl (B d4_9) rfl (by decide) (XS.aloadN X431.here hx rfl (B d4_12) rfl rfl k)) ?_
 obtain ⟨T433, X433, e433, st433⟩ := getF X431 hx hZ hown (host := "") (Or.inl (ww hw 11 rfl)) Via.refl e431 P2 (g := (mkF m 13 (Sh0 a1 dx) [(.ref a1)])) rfl rfl (B d4_13)
 refine GoW.sg (mkF m 16 (Sh0 a1 dx) [(.ref a2)]) (fun t k => st433 t k) ?_
 refine GoW.sg (mkF m 17 (Sh0 a1 dx) [(.ref a1), (.ref a2)]) (fun t k => XS.aloadN X433.here hx rfl (B d4_16) rfl rfl k) ?_
 obtain ⟨T434, X434, e434, st434⟩ := getF X433 hx hZ hown (host := "") (Or.inl (ww hw 18 rfl)) Via.refl e433 P1 (g := (mkF m 17 (Sh0 a1 dx) [(.ref a1), (.ref a2)])) rfl rfl (B d4_17)
 refine GoW.sg (mkF m 20 (Sh0 a1 dx) [(.int 0), (.ref a2)]) (fun t k => st434 t k) ?_
 refine GoW.sg (mkF m 21 (Sh0 a1 dx) [(.double dx), (.int 0), (.ref a2)]) (fun t k => XS.dloadN X434.here hx rfl (B d4_20) rfl k) ?_
 obtain ⟨cl435, Ar435, q435, Sz435, Nn435, Hh435, Gg435⟩ := P3
 have hin435 : ¬ ((0 : Int32) < 0 ∨ cl435.slots.size ≤ ((0 : Int32)).toNatClampNeg) := inb_of Sz435 ⟨by decide, by decide⟩
 obtain ⟨T435, h435, X435, e435, W435, st435⟩ := stD X434 hx hZ e434 Ar435 (j := (0 : Int32)) hin435 (g := (mkF m 21 (Sh0 a1 dx) [(.double dx), (.int 0), (.ref a2)])) rfl rfl (B d4_21)
 have f435_1 := P0.wr W435
 have f435_2 := P1.other W435 (Or.inl ne_a1_a2)
 have f435_3 := P2.other W435 (Or.inl ne_a1_a2)
 have f435_4 := (Keep.refl h0 [a1, a2]).wr W435 (Or.inl (List.mem_of_getElem? (i := 1) rfl))
 have V435 : Arv Z h435 a2 ka2 .double (4 : Int32) [(.double dx), (.double (0 : UInt64)), (.double (0 : UInt64)), (.double (0 : UInt64))] (.double (0 : UInt64)) := Arv.set Ar435 q435 Sz435 Nn435 Hh435 Gg435 rfl W435 0 rfl (Nat.le_of_ble_eq_true rfl)
 have N435 := Fr.snoc X435 N0 g_a2
 refine GoW.sg (mkF m 22 (Sh0 a1 dx) []) (fun t k => st435 t k) ?_
 refine GoW.sg (mkF m 25 (Sh0 a1 dx) [(.ref a1), (.ref a1), (.ref a1)]) (fun t k => XS.aloadN X435.here hx rfl (B d4_22) rfl rfl (XS.aloadN X435.here hx rfl (B d4_23) rfl rfl (XS.dup X435.here hx rfl (B d4_24) rfl rfl k))) ?_
 obtain ⟨T436, X436, e436, st436⟩ := getF X435 hx hZ hown (host := "") (Or.inl (ww hw 18 rfl)) Via.refl e435 f435_2 (g := (mkF m 25 (Sh0 a1 dx) [(.ref a1), (.ref a1), (.ref a1)])) rfl rfl (B d4_25)
 refine GoW.sg (mkF m 28 (Sh0 a1 dx) [(.int 0), (.ref a1), (.ref a1)]) (fun t k => st436 t k) ?_
 refine GoW.sg (mkF m 29 (Sh0 a1 dx) [(.int 0), (.ref a1), (.int 0), (.ref a1)]) (fun t k => XT.dupX1 X436.here hx rfl (B d4_28) rfl rfl rfl k) ?_
 refine GoW.sg (mkF m 30 (Sh0 a1 dx) [(.int 1), (.int 0), (.ref a1), (.int 0), (.ref a1)]) (fun t k => XS.iconst X436.here hx rfl (B d4_29) k) ?_
 refine GoW.st (fun t k => XS.iadd X436.here hx rfl (B d4_30) rfl k) ?_
 rw [show ((0 : Int32) + (1 : Int32)) = (1 : Int32) from by decide]
 show GoW p e below s (QO40 Z a1 dx x a2 ka2 h0 n0) 0 0 (T436.setTop (mkF m 31 (Sh0 a1 dx) [(.int 1), (.ref a1), (.int 0), (.ref a1)]))
 obtain ⟨T437, h437, X437, e437, W437, st437⟩ := putF X436 hx hZ hown (host := "") (Or.inl (ww hw 18 rfl)) Via.refl e436 f435_2 f435_1 (Or.inl (ww hw 19 rfl)) (ww hw 2 rfl) (ty := .int) (by decide) rfl rfl (g := (mkF m 31 (Sh0 a1 dx) [(.int 1), (.ref a1), (.int 0), (.ref a1)])) rfl rfl (B d4_31)
 have N437 := Fr.snoc X437 N435 g_a1
 have f437_5 := f435_1.wr W437
 have f437_6 := f435_3.other W437 (Or.inr (slot_ne (t := (.array .double)) (t' := .int) (Or.inr (ww hw 12 rfl)) (Or.inl (ww hw 19 rfl)) (by decide) (by decide) (by decide)))
 have f437_7 := V435.other W437 (Ne.symm ne_a1_a2)
 have f437_8 := f435_4.wr W437 (Or.inl (List.mem_of_getElem? (i := 0) rfl))
 have F437size : Fld Z h437 a1 HSn "size" "I" (.int (1 : Int32)) := f435_2.same W437
 refine GoW.sg (mkF m 34 (Sh0 a1 dx) [(.int 0), (.ref a1)]) (fun t k => st437 t k) ?_
 obtain ⟨_, T446, L446, X446, hQ446, st446⟩ := own_priv X437 hx hZ (y := Y5) hown (ww hw 27 rfl) (ww hw 29 rfl) (ww hw 2 rfl) (ww hw 28 rfl) (ww hw 30 rfl) (ww hw 3 rfl) (by decide) 0 (a := a1) (rm5_17 l Z a0 hw a1 a2 ka2 dx x h437 n0 f437_6 f437_7 g_a2 hdx ) (by decide) (by decide) e437 f437_5 (by decide) (by decide) (g := (mkF m 34 (Sh0 a1 dx) [(.int 0), (.ref a1)])) rfl (by rw [hml]; rfl) (argsL := [(.int (0 : Int32))]) (rest := []) (lenOf pd_28I29V rfl) rfl (Nat.le_of_eq rfl) (B d4_34)
 obtain ⟨rfl, N446q, K446, p446_0⟩ := hQ446
 have N446 := Fr.app N437 N446q
 have f446_9 := f437_5.keep K446
 have f446_10 := F437size.keep K446 (ninS ne_a1_a2 nin0)
 have f446_11 := f437_6.keep K446 (ninS ne_a1_a2 nin0)
 have f446_12 := f437_8.trans K446 (allS (Or.inl (List.mem_of_getElem? (i := 1) rfl)) all0)
 refine GoW.sg (mkF m 37 (Sh0 a1 dx) []) (fun t k => st446 t k) ?_
 refine GoW.sg (mkF m 63 (Sh0 a1 dx) []) (fun t k => XS.goto X446.here hx rfl (pc0 := 37) (pc' := 63) rfl (B d4_37) (by decide) (by decide) k) ?_
 refine GoW.retV X446 hx Bd.returns (B d4_63) Bd.notSynchronized ?_ (by decide) (by decide)
 exact ⟨x, dx, rfl, N446, f446_12, f446_9, f446_10, f446_11, p446_0, hdx, by trivial, fun z => by omega⟩
def Q5_18 (Z : State) (a1c a2c : Addr) (ka2c : ClassId) (x1c x2c : UInt64) (x3c x4c : Int32) (h0 : Heap) (n0 : Nat) (v : Option Value) (h : Heap) (L : List Loc) : Prop := v = none ∧ Fr n0 L ∧ (Keep h0 h [a2c]) ∧ (Arv Z h a2c ka2c .double 4 [(.double x2c), (.double x1c), (.double 0), (.double 0)] (.double 0))
theorem rm5_18 (l : Launch) (Z : State) (a0 : Array Value) (hw : HW a0 Z) (a1c a2c : Addr) (ka2c : ClassId) (x1c x2c : UInt64) (x3c x4c : Int32) (h0 : Heap) (n0 : Nat) (P0 : Fld Z h0 a1c HSn "heap" "[D" (.ref a2c)) (P1 : Arv Z h0 a2c ka2c .double 4 [(.double x1c), (.double x2c), (.double 0), (.double 0)] (.double 0)) (g_a2c : n0 ≤ a2c) (ne_a1c_a2c : a1c ≠ a2c) (u0 : (Int32.toInt64 x3c) < (Int32.toInt64 x4c)) (hx1c : x1c = FP.l2d (Int32.toInt64 x4c)) (hx2c : x2c = FP.l2d (Int32.toInt64 x3c)) :
  MM l Z Y5 prog_43_method_4_code 4 none 0 0 0 0 #[(.ref a1c), (.int 1)] h0 (Q5_18 Z a1c a2c ka2c x1c x2c x3c x4c h0 n0) := by
 refine own_start (fun m => (mkF m 0 (Sh1 a1c 1) [])) (plainFor_of_name pn_com_example_nearterm_nearterm_retrieval_HighestScores) (by simp [entryFrame, mkF, argsToLocals, Value.category]) n0 ?_
 intro p e s m below meth c s₁ Bd hx B hml hZ hown hnm X0 e0 N0
 refine GoW.sg (mkF m 1 (Sh1 a1c 1) [(.ref a1c)]) (fun t k => XS.aloadN X0.here hx rfl (B d5_0) rfl rfl k) ?_
 obtain ⟨T470, X470, e470, st470⟩ := getF X0 hx hZ hown (host := "") (Or.inl (ww hw 11 rfl)) Via.refl e0 P0 (g := (mkF m 1 (Sh1 a1c 1) [(.ref a1c)])) rfl rfl (B d5_1)
 refine GoW.sg (mkF m 4 (Sh1 a1c 1) [(.ref a2c)]) (fun t k => st470 t k) ?_
 refine GoW.sg (mkF m 5 (Sh1 a1c 1) [(.int 1), (.ref a2c)]) (fun t k => XS.iloadN X470.here hx rfl (B d5_4) rfl k) ?_
 obtain ⟨cl471, Ar471, q471, Sz471, Nn471, Hh471, Gg471⟩ := id P1
 have hin471 : ¬ ((1 : Int32) < 0 ∨ cl471.slots.size ≤ ((1 : Int32)).toNatClampNeg) := inb_of Sz471 ⟨by decide, by decide⟩
 refine GoW.sg (mkF m 6 (Sh1 a1c 1) [(.double x2c)]) (fun t k => X470.daload hx (j := (1 : Int32)) (v := (.double x2c)) (hq_ e470 Ar471.1) (State.isArrayOf_alike hZ.alike Ar471.2.1) Ar471.2.2 hin471 (Hh471.at hin471 rfl) (g := (mkF m 5 (Sh1 a1c 1) [(.int 1), (.ref a2c)])) rfl rfl (B d5_5) t k) ?_
 refine GoW.sg (mkF m 12 (Sh2 a1c 1 x2c) [(.ref a1c)]) (fun t k => XS.dstoreN X470.here hx rfl (B d5_6) rfl (l' := (Sh2 a1c 1 x2c)) rfl (XS.iloadN X470.here hx rfl (B d5_7) rfl (XS.ifNo X470.here hx rfl (B d5_8) rfl (by decide) (XS.aloadN X470.here hx rfl (B d5_11) rfl rfl k)))) ?_
 obtain ⟨T472, X472, e472, st472⟩ := getF X470 hx hZ hown (host := "") (Or.inl (ww hw 11 rfl)) Via.refl e470 P0 (g := (mkF m 12 (Sh2 a1c 1 x2c) [(.ref a1c)])) rfl rfl (B d5_12)
 refine GoW.sg (mkF m 15 (Sh2 a1c 1 x2c) [(.ref a2c)]) (fun t k => st472 t k) ?_
 refine GoW.sg (mkF m 17 (Sh2 a1c 1 x2c) [(.int 1), (.int 1), (.ref a2c)]) (fun t k => XS.iloadN X472.here hx rfl (B d5_15) rfl (XS.iconst X472.here hx rfl (B d5_16) k)) ?_
 refine GoW.st (fun t k => XS.isub X472.here hx rfl (B d5_17) rfl k) ?_
 rw [show ((1 : Int32) - (1 : Int32)) = (0 : Int32) from by decide]
 show GoW p e below s (Q5_18 Z a1c a2c ka2c x1c x2c x3c x4c h0 n0) 0 0 (T472.setTop (mkF m 18 (Sh2 a1c 1 x2c) [(.int 0), (.ref a2c)]))
 refine GoW.sg (mkF m 19 (Sh2 a1c 1 x2c) [(.int 2), (.int 0), (.ref a2c)]) (fun t k => XS.iconst X472.here hx rfl (B d5_18) k) ?_
 refine GoW.st (fun t k => XS.idiv X472.here hx rfl (B d5_19) rfl (by decide) k) ?_
 rw [show ((0 : Int32) / (2 : Int32)) = (0 : Int32) from by decide]
 show GoW p e below s (Q5_18 Z a1c a2c ka2c x1c x2c x3c x4c h0 n0) 0 0 (T472.setTop (mkF m 20 (Sh2 a1c 1 x2c) [(.int 0), (.ref a2c)]))
 obtain ⟨cl473, Ar473, q473, Sz473, Nn473, Hh473, Gg473⟩ := id P1
 have hin473 : ¬ ((0 : Int32) < 0 ∨ cl473.slots.size ≤ ((0 : Int32)).toNatClampNeg) := inb_of Sz473 ⟨by decide, by decide⟩
 refine GoW.sg (mkF m 21 (Sh2 a1c 1 x2c) [(.double x1c)]) (fun t k => X472.daload hx (j := (0 : Int32)) (v := (.double x1c)) (hq_ e472 Ar473.1) (State.isArrayOf_alike hZ.alike Ar473.2.1) Ar473.2.2 hin473 (Hh473.at hin473 rfl) (g := (mkF m 20 (Sh2 a1c 1 x2c) [(.int 0), (.ref a2c)])) rfl rfl (B d5_20) t k) ?_
 refine GoW.sg (mkF m 27 (Sh2 a1c 1 x2c) [(.ref a1c)]) (fun t k => XS.dloadN X472.here hx rfl (B d5_21) rfl (XS.dcmpS X472.here hx rfl (B d5_22) rfl (v := (lcmpW (Int32.toInt64 x4c) (Int32.toInt64 x3c))) (by rw [hx1c, hx2c]; exact dcmpV_w (own_b53 _) (own_b53 _) _) (XS.ifNo X472.here hx rfl (B d5_23) rfl ((if0 _ _).trans (tlt ((lw_gt _ _).mpr u0)).2.2.2) (XS.aloadN X472.here hx rfl (B d5_26) rfl rfl k)))) ?_
 obtain ⟨T474, X474, e474, st474⟩ := getF X472 hx hZ hown (host := "") (Or.inl (ww hw 11 rfl)) Via.refl e472 P0 (g := (mkF m 27 (Sh2 a1c 1 x2c) [(.ref a1c)])) rfl rfl (B d5_27)
 refine GoW.sg (mkF m 30 (Sh2 a1c 1 x2c) [(.ref a2c)]) (fun t k => st474 t k) ?_
 refine GoW.sg (mkF m 32 (Sh2 a1c 1 x2c) [(.ref a1c), (.int 1), (.ref a2c)]) (fun t k => XS.iloadN X474.here hx rfl (B d5_30) rfl (XS.aloadN X474.here hx rfl (B d5_31) rfl rfl k)) ?_
 obtain ⟨T475, X475, e475, st475⟩ := getF X474 hx hZ hown (host := "") (Or.inl (ww hw 11 rfl)) Via.refl e474 P0 (g := (mkF m 32 (Sh2 a1c 1 x2c) [(.ref a1c), (.int 1), (.ref a2c)])) rfl rfl (B d5_32)
 refine GoW.sg (mkF m 35 (Sh2 a1c 1 x2c) [(.ref a2c), (.int 1), (.ref a2c)]) (fun t k => st475 t k) ?_
 refine GoW.sg (mkF m 37 (Sh2 a1c 1 x2c) [(.int 1), (.int 1), (.ref a2c), (.int 1), (.ref a2c)]) (fun t k => XS.iloadN X475.here hx rfl (B d5_35) rfl (XS.iconst X475.here hx rfl (B d5_36) k)) ?_
 refine GoW.st (fun t k => XS.isub X475.here hx rfl (B d5_37) rfl k) ?_
 rw [show ((1 : Int32) - (1 : Int32)) = (0 : Int32) from by decide]
 show GoW p e below s (Q5_18 Z a1c a2c ka2c x1c x2c x3c x4c h0 n0) 0 0 (T475.setTop (mkF m 38 (Sh2 a1c 1 x2c) [(.int 0), (.ref a2c), (.int 1), (.ref a2c)]))
 refine GoW.sg (mkF m 39 (Sh2 a1c 1 x2c) [(.int 2), (.int 0), (.ref a2c), (.int 1), (.ref a2c)]) (fun t k => XS.iconst X475.here hx rfl (B d5_38) k) ?_
 refine GoW.st (fun t k => XS.idiv X475.here hx rfl (B d5_39) rfl (by decide) k) ?_
 rw [show ((0 : Int32) / (2 : Int32)) = (0 : Int32) from by decide]
 show GoW p e below s (Q5_18 Z a1c a2c ka2c x1c x2c x3c x4c h0 n0) 0 0 (T475.setTop (mkF m 40 (Sh2 a1c 1 x2c) [(.int 0), (.ref a2c), (.int 1), (.ref a2c)]))
 obtain ⟨cl476, Ar476, q476, Sz476, Nn476, Hh476, Gg476⟩ := id P1
 have hin476 : ¬ ((0 : Int32) < 0 ∨ cl476.slots.size ≤ ((0 : Int32)).toNatClampNeg) := inb_of Sz476 ⟨by decide, by decide⟩
 refine GoW.sg (mkF m 41 (Sh2 a1c 1 x2c) [(.double x1c), (.int 1), (.ref a2c)]) (fun t k => X475.daload hx (j := (0 : Int32)) (v := (.double x1c)) (hq_ e475 Ar476.1) (State.isArrayOf_alike hZ.alike Ar476.2.1) Ar476.2.2 hin476 (Hh476.at hin476 rfl) (g := (mkF m 40 (Sh2 a1c 1 x2c) [(.int 0), (.ref a2c), (.int 1), (.ref a2c)])) rfl rfl (B d5_40) t k) ?_
 obtain ⟨cl477, Ar477, q477, Sz477, Nn477, Hh477, Gg477⟩ := P1
 have hin477 : ¬ ((1 : Int32) < 0 ∨ cl477.slots.size ≤ ((1 : Int32)).toNatClampNeg) := inb_of Sz477 ⟨by decide, by decide⟩
 obtain ⟨T477, h477, X477, e477, W477, st477⟩ := stD X475 hx hZ e475 Ar477 (j := (1 : Int32)) hin477 (g := (mkF m 41 (Sh2 a1c 1 x2c) [(.double x1c), (.int 1), (.ref a2c)])) rfl rfl (B d5_41)
 have f477_1 := P0.other W477 (Or.inl ne_a1c_a2c)
 have f477_2 := (Keep.refl h0 [a2c]).wr W477 (Or.inl (List.mem_of_getElem? (i := 0) rfl))
 have V477 : Arv Z h477 a2c ka2c .double (4 : Int32) [(.double x1c), (.double x1c), (.double (0 : UInt64)), (.double (0 : UInt64))] (.double (0 : UInt64)) := Arv.set Ar477 q477 Sz477 Nn477 Hh477 Gg477 rfl W477 1 rfl (Nat.le_of_ble_eq_true rfl)
 have N477 := Fr.snoc X477 N0 g_a2c
 refine GoW.sg (mkF m 42 (Sh2 a1c 1 x2c) []) (fun t k => st477 t k) ?_
 refine GoW.sg (mkF m 44 (Sh2 a1c 1 x2c) [(.int 1), (.int 1)]) (fun t k => XS.iloadN X477.here hx rfl (B d5_42) rfl (XS.iconst X477.here hx rfl (B d5_43) k)) ?_
 refine GoW.st (fun t k => XS.isub X477.here hx rfl (B d5_44) rfl k) ?_
 rw [show ((1 : Int32) - (1 : Int32)) = (0 : Int32) from by decide]
 show GoW p e below s (Q5_18 Z a1c a2c ka2c x1c x2c x3c x4c h0 n0) 0 0 (T477.setTop (mkF m 45 (Sh2 a1c 1 x2c) [(.int 0)]))
 refine GoW.sg (mkF m 46 (Sh2 a1c 1 x2c) [(.int 2), (.int 0)]) (fun t k => XS.iconst X477.here hx rfl (B d5_45) k) ?_
 refine GoW.st (fun t k => XS.idiv X477.here hx rfl (B d5_46) rfl (by decide) k) ?_
 rw [show ((0 : Int32) / (2 : Int32)) = (0 : Int32) from by decide]
 show GoW p e below s (Q5_18 Z a1c a2c ka2c x1c x2c x3c x4c h0 n0) 0 0 (T477.setTop (mkF m 47 (Sh2 a1c 1 x2c) [(.int 0)]))
 refine GoW.sg (mkF m 52 (Sh2 a1c 0 x2c) [(.ref a1c)]) (fun t k => XS.istoreN X477.here hx rfl (B d5_47) rfl (l' := (Sh2 a1c 0 x2c)) rfl (XS.goto X477.here hx rfl (pc0 := 48) (pc' := 7) rfl (B d5_48) (by decide) (by decide) (XS.iloadN X477.here hx rfl (B d5_7) rfl (XS.ifYes X477.here hx rfl (pc0 := 8) (pc' := 51) rfl (B d5_8) rfl (by decide) (by decide) (by decide) (XS.aloadN X477.here hx rfl (B d5_51) rfl rfl k))))) ?_
 obtain ⟨T478, X478, e478, st478⟩ := getF X477 hx hZ hown (host := "") (Or.inl (ww hw 11 rfl)) Via.refl e477 f477_1 (g := (mkF m 52 (Sh2 a1c 0 x2c) [(.ref a1c)])) rfl rfl (B d5_52)
 refine GoW.sg (mkF m 55 (Sh2 a1c 0 x2c) [(.ref a2c)]) (fun t k => st478 t k) ?_
 refine GoW.sg (mkF m 57 (Sh2 a1c 0 x2c) [(.double x2c), (.int 0), (.ref a2c)]) (fun t k => XS.iloadN X478.here hx rfl (B d5_55) rfl (XS.dloadN X478.here hx rfl (B d5_56) rfl k)) ?_
 obtain ⟨cl479, Ar479, q479, Sz479, Nn479, Hh479, Gg479⟩ := V477
 have hin479 : ¬ ((0 : Int32) < 0 ∨ cl479.slots.size ≤ ((0 : Int32)).toNatClampNeg) := inb_of Sz479 ⟨by decide, by decide⟩
 obtain ⟨T479, h479, X479, e479, W479, st479⟩ := stD X478 hx hZ e478 Ar479 (j := (0 : Int32)) hin479 (g := (mkF m 57 (Sh2 a1c 0 x2c) [(.double x2c), (.int 0), (.ref a2c)])) rfl rfl (B d5_57)
 have f479_4 := f477_2.wr W479 (Or.inl (List.mem_of_getElem? (i := 0) rfl))
 have V479 : Arv Z h479 a2c ka2c .double (4 : Int32) [(.double x2c), (.double x1c), (.double (0 : UInt64)), (.double (0 : UInt64))] (.double (0 : UInt64)) := Arv.set Ar479 q479 Sz479 Nn479 Hh479 Gg479 rfl W479 0 rfl (Nat.le_of_ble_eq_true rfl)
 have N479 := Fr.snoc X479 N477 g_a2c
 refine GoW.sg (mkF m 58 (Sh2 a1c 0 x2c) []) (fun t k => st479 t k) ?_
 refine GoW.retV X479 hx Bd.returns (B d5_58) Bd.notSynchronized ?_ (by decide) (by decide)
 rw [e479]
 exact ⟨rfl, N479, f479_4, V479⟩
def Q5_19 (Z : State) (a1c a2c : Addr) (ka2c : ClassId) (x1c x2c : UInt64) (x3c x4c : Int32) (h0 : Heap) (n0 : Nat) (v : Option Value) (h : Heap) (L : List Loc) : Prop := v = none ∧ Fr n0 L ∧ (Keep h0 h [a2c]) ∧ (Arv Z h a2c ka2c .double 4 [(.double x1c), (.double x2c), (.double 0), (.double 0)] (.double 0))
theorem rm5_19 (l : Launch) (Z : State) (a0 : Array Value) (hw : HW a0 Z) (a1c a2c : Addr) (ka2c : ClassId) (x1c x2c : UInt64) (x3c x4c : Int32) (h0 : Heap) (n0 : Nat) (P0 : Fld Z h0 a1c HSn "heap" "[D" (.ref a2c)) (P1 : Arv Z h0 a2c ka2c .double 4 [(.double x1c), (.double x2c), (.double 0), (.double 0)] (.double 0)) (g_a2c : n0 ≤ a2c) (u0 : ¬ ((Int32.toInt64 x3c) < (Int32.toInt64 x4c))) (hx1c : x1c = FP.l2d (Int32.toInt64 x4c)) (hx2c : x2c = FP.l2d (Int32.toInt64 x3c)) :
  MM l Z Y5 prog_43_method_4_code 4 none 0 0 0 0 #[(.ref a1c), (.int 1)] h0 (Q5_19 Z a1c a2c ka2c x1c x2c x3c x4c h0 n0) := by
 refine own_start (fun m => (mkF m 0 (Sh1 a1c 1) [])) (plainFor_of_name pn_com_example_nearterm_nearterm_retrieval_HighestScores) (by simp [entryFrame, mkF, argsToLocals, Value.category]) n0 ?_
 intro p e s m below meth c s₁ Bd hx B hml hZ hown hnm X0 e0 N0
 refine GoW.sg (mkF m 1 (Sh1 a1c 1) [(.ref a1c)]) (fun t k => XS.aloadN X0.here hx rfl (B d5_0) rfl rfl k) ?_
 obtain ⟨T487, X487, e487, st487⟩ := getF X0 hx hZ hown (host := "") (Or.inl (ww hw 11 rfl)) Via.refl e0 P0 (g := (mkF m 1 (Sh1 a1c 1) [(.ref a1c)])) rfl rfl (B d5_1)
 refine GoW.sg (mkF m 4 (Sh1 a1c 1) [(.ref a2c)]) (fun t k => st487 t k) ?_
 refine GoW.sg (mkF m 5 (Sh1 a1c 1) [(.int 1), (.ref a2c)]) (fun t k => XS.iloadN X487.here hx rfl (B d5_4) rfl k) ?_
 obtain ⟨cl488, Ar488, q488, Sz488, Nn488, Hh488, Gg488⟩ := id P1
 have hin488 : ¬ ((1 : Int32) < 0 ∨ cl488.slots.size ≤ ((1 : Int32)).toNatClampNeg) := inb_of Sz488 ⟨by decide, by decide⟩
 refine GoW.sg (mkF m 6 (Sh1 a1c 1) [(.double x2c)]) (fun t k => X487.daload hx (j := (1 : Int32)) (v := (.double x2c)) (hq_ e487 Ar488.1) (State.isArrayOf_alike hZ.alike Ar488.2.1) Ar488.2.2 hin488 (Hh488.at hin488 rfl) (g := (mkF m 5 (Sh1 a1c 1) [(.int 1), (.ref a2c)])) rfl rfl (B d5_5) t k) ?_
 refine GoW.sg (mkF m 12 (Sh2 a1c 1 x2c) [(.ref a1c)]) (fun t k => XS.dstoreN X487.here hx rfl (B d5_6) rfl (l' := (Sh2 a1c 1 x2c)) rfl (XS.iloadN X487.here hx rfl (B d5_7) rfl (XS.ifNo X487.here hx rfl (B d5_8) rfl (by decide) (XS.aloadN X487.here hx rfl (B d5_11) rfl rfl k)))) ?_
 obtain ⟨T489, X489, e489, st489⟩ := getF X487 hx hZ hown (host := "") (Or.inl (ww hw 11 rfl)) Via.refl e487 P0 (g := (mkF m 12 (Sh2 a1c 1 x2c) [(.ref a1c)])) rfl rfl (B d5_12)
 refine GoW.sg (mkF m 15 (Sh2 a1c 1 x2c) [(.ref a2c)]) (fun t k => st489 t k) ?_
 refine GoW.sg (mkF m 17 (Sh2 a1c 1 x2c) [(.int 1), (.int 1), (.ref a2c)]) (fun t k => XS.iloadN X489.here hx rfl (B d5_15) rfl (XS.iconst X489.here hx rfl (B d5_16) k)) ?_
 refine GoW.st (fun t k => XS.isub X489.here hx rfl (B d5_17) rfl k) ?_
 rw [show ((1 : Int32) - (1 : Int32)) = (0 : Int32) from by decide]
 show GoW p e below s (Q5_19 Z a1c a2c ka2c x1c x2c x3c x4c h0 n0) 0 0 (T489.setTop (mkF m 18 (Sh2 a1c 1 x2c) [(.int 0), (.ref a2c)]))
 refine GoW.sg (mkF m 19 (Sh2 a1c 1 x2c) [(.int 2), (.int 0), (.ref a2c)]) (fun t k => XS.iconst X489.here hx rfl (B d5_18) k) ?_
 refine GoW.st (fun t k => XS.idiv X489.here hx rfl (B d5_19) rfl (by decide) k) ?_
 rw [show ((0 : Int32) / (2 : Int32)) = (0 : Int32) from by decide]
 show GoW p e below s (Q5_19 Z a1c a2c ka2c x1c x2c x3c x4c h0 n0) 0 0 (T489.setTop (mkF m 20 (Sh2 a1c 1 x2c) [(.int 0), (.ref a2c)]))
 obtain ⟨cl490, Ar490, q490, Sz490, Nn490, Hh490, Gg490⟩ := id P1
 have hin490 : ¬ ((0 : Int32) < 0 ∨ cl490.slots.size ≤ ((0 : Int32)).toNatClampNeg) := inb_of Sz490 ⟨by decide, by decide⟩
 refine GoW.sg (mkF m 21 (Sh2 a1c 1 x2c) [(.double x1c)]) (fun t k => X489.daload hx (j := (0 : Int32)) (v := (.double x1c)) (hq_ e489 Ar490.1) (State.isArrayOf_alike hZ.alike Ar490.2.1) Ar490.2.2 hin490 (Hh490.at hin490 rfl) (g := (mkF m 20 (Sh2 a1c 1 x2c) [(.int 0), (.ref a2c)])) rfl rfl (B d5_20) t k) ?_
 refine GoW.sg (mkF m 52 (Sh2 a1c 1 x2c) [(.ref a1c)]) (fun t k => XS.dloadN X489.here hx rfl (B d5_21) rfl (XS.dcmpS X489.here hx rfl (B d5_22) rfl (v := (lcmpW (Int32.toInt64 x4c) (Int32.toInt64 x3c))) (by rw [hx1c, hx2c]; exact dcmpV_w (own_b53 _) (own_b53 _) _) (XS.ifYes X489.here hx rfl (pc0 := 23) (pc' := 51) rfl (B d5_23) rfl ((if0 _ _).trans (flt (mt (lw_gt _ _).mp u0)).2.2.2) (by decide) (by decide) (XS.aloadN X489.here hx rfl (B d5_51) rfl rfl k)))) ?_
 obtain ⟨T491, X491, e491, st491⟩ := getF X489 hx hZ hown (host := "") (Or.inl (ww hw 11 rfl)) Via.refl e489 P0 (g := (mkF m 52 (Sh2 a1c 1 x2c) [(.ref a1c)])) rfl rfl (B d5_52)
 refine GoW.sg (mkF m 55 (Sh2 a1c 1 x2c) [(.ref a2c)]) (fun t k => st491 t k) ?_
 refine GoW.sg (mkF m 57 (Sh2 a1c 1 x2c) [(.double x2c), (.int 1), (.ref a2c)]) (fun t k => XS.iloadN X491.here hx rfl (B d5_55) rfl (XS.dloadN X491.here hx rfl (B d5_56) rfl k)) ?_
 obtain ⟨cl492, Ar492, q492, Sz492, Nn492, Hh492, Gg492⟩ := P1
 have hin492 : ¬ ((1 : Int32) < 0 ∨ cl492.slots.size ≤ ((1 : Int32)).toNatClampNeg) := inb_of Sz492 ⟨by decide, by decide⟩
 obtain ⟨T492, h492, X492, e492, W492, st492⟩ := stD X491 hx hZ e491 Ar492 (j := (1 : Int32)) hin492 (g := (mkF m 57 (Sh2 a1c 1 x2c) [(.double x2c), (.int 1), (.ref a2c)])) rfl rfl (B d5_57)
 have f492_1 := (Keep.refl h0 [a2c]).wr W492 (Or.inl (List.mem_of_getElem? (i := 0) rfl))
 have V492 : Arv Z h492 a2c ka2c .double (4 : Int32) [(.double x1c), (.double x2c), (.double (0 : UInt64)), (.double (0 : UInt64))] (.double (0 : UInt64)) := Arv.set Ar492 q492 Sz492 Nn492 Hh492 Gg492 rfl W492 1 rfl (Nat.le_of_ble_eq_true rfl)
 have N492 := Fr.snoc X492 N0 g_a2c
 refine GoW.sg (mkF m 58 (Sh2 a1c 1 x2c) []) (fun t k => st492 t k) ?_
 refine GoW.retV X492 hx Bd.returns (B d5_58) Bd.notSynchronized ?_ (by decide) (by decide)
 rw [e492]
 exact ⟨rfl, N492, f492_1, V492⟩
def QO41 (Z : State) (a1 : Addr) (dx : UInt64) (x v0 : Int32) (d0 : UInt64) (a2 : Addr) (ka2 : ClassId) (h0 : Heap) (n0 : Nat) (v : Option Value) (h : Heap) (L : List Loc) : Prop := ∃ w0 : Int32, ∃ w1 : Int32, ∃ f0 : UInt64, ∃ f1 : UInt64, v = none ∧ Fr n0 L ∧ (Keep h0 h [a1, a2]) ∧ (Exa Z h a1 HSn) ∧ (Fld Z h a1 HSn "size" "I" (.int 2)) ∧ (Fld Z h a1 HSn "heap" "[D" (.ref a2)) ∧ (Arv Z h a2 ka2 .double 4 [(.double f0), (.double f1), (.double 0), (.double 0)] (.double 0)) ∧ (f0 = FP.l2d (Int32.toInt64 w0) ∧ f1 = FP.l2d (Int32.toInt64 w1) ∧ (w0.toInt ≤ w1.toInt) ∧ (∀ z : Int, cn z w0 + cn z w1 = cn z v0 + cn z x))
theorem rmO41 (l : Launch) (Z : State) (a0 : Array Value) (hw : HW a0 Z) (a1 : Addr) (dx : UInt64) (x v0 : Int32) (d0 : UInt64) (a2 : Addr) (ka2 : ClassId) (h0 : Heap) (n0 : Nat) (P0 : Exa Z h0 a1 HSn) (P1 : Fld Z h0 a1 HSn "size" "I" (.int 1)) (P2 : Fld Z h0 a1 HSn "heap" "[D" (.ref a2)) (P3 : Arv Z h0 a2 ka2 .double 4 [(.double d0), (.double 0), (.double 0), (.double 0)] (.double 0)) (g_a1 : n0 ≤ a1) (g_a2 : n0 ≤ a2) (ne_a1_a2 : a1 ≠ a2) (hd0 : d0 = FP.l2d (Int32.toInt64 v0)) (hdx : dx = FP.l2d (Int32.toInt64 x)) (hH : True) :
  MM l Z Y4 prog_43_method_2_code 3 none 1 0 0 15 #[(.ref a1), (.double dx)] h0 (QO41 Z a1 dx x v0 d0 a2 ka2 h0 n0) := by
 refine own_start (fun m => (mkF m 0 (Sh0 a1 dx) [])) (plainFor_of_name pn_com_example_nearterm_nearterm_retrieval_HighestScores) (by simp [entryFrame, mkF, argsToLocals, Value.category]) n0 ?_
 intro p e s m below meth c s₁ Bd hx B hml hZ hown hnm X0 e0 N0
 refine GoW.sg (mkF m 1 (Sh0 a1 dx) [(.ref a1)]) (fun t k => XS.aloadN X0.here hx rfl (B d4_0) rfl rfl k) ?_
 obtain ⟨T447, X447, e447, st447⟩ := getF X0 hx hZ hown (host := "") (Or.inl (ww hw 18 rfl)) Via.refl e0 P1 (g := (mkF m 1 (Sh0 a1 dx) [(.ref a1)])) rfl rfl (B d4_1)
 refine GoW.sg (mkF m 4 (Sh0 a1 dx) [(.int 1)]) (fun t k => st447 t k) ?_
 refine GoW.sg (mkF m 5 (Sh0 a1 dx) [(.ref a1), (.int 1)]) (fun t k => XS.aloadN X447.here hx rfl (B d4_4) rfl rfl k) ?_
 obtain ⟨T448, X448, e448, st448⟩ := getF X447 hx hZ hown (host := "") (Or.inl (ww hw 11 rfl)) Via.refl e447 P2 (g := (mkF m 5 (Sh0 a1 dx) [(.ref a1), (.int 1)])) rfl rfl (B d4_5)
 refine GoW.sg (mkF m 8 (Sh0 a1 dx) [(.ref a2), (.int 1)]) (fun t k => st448 t k) ?_
 obtain ⟨cl449, Ar449, q449, Sz449, Nn449, Hh449, Gg449⟩ := id P3
 have st449 := X448.arraylength hx (hq_ e448 Ar449.1) (State.isArrayOf_alike hZ.alike Ar449.2.1) (g := (mkF m 8 (Sh0 a1 dx) [(.ref a2), (.int 1)])) rfl rfl (B d4_8)
 rw [len_of Sz449 Nn449] at st449
 refine GoW.sg (mkF m 9 (Sh0 a1 dx) [(.int 4), (.int 1)]) (fun t k => st449 t k) ?_
 refine GoW.sg (mkF m 13 (Sh0 a1 dx) [(.ref a1)]) (fun t k => XS.icmpNo X448.here hx rfl (B d4_9) rfl (by decide) (XS.aloadN X448.here hx rfl (B d4_12) rfl rfl k)) ?_
 obtain ⟨T450, X450, e450, st450⟩ := getF X448 hx hZ hown (host := "") (Or.inl (ww hw 11 rfl)) Via.refl e448 P2 (g := (mkF m 13 (Sh0 a1 dx) [(.ref a1)])) rfl rfl (B d4_13)
 refine GoW.sg (mkF m 16 (Sh0 a1 dx) [(.ref a2)]) (fun t k => st450 t k) ?_
 refine GoW.sg (mkF m 17 (Sh0 a1 dx) [(.ref a1), (.ref a2)]) (fun t k => XS.aloadN X450.here hx rfl (B d4_16) rfl rfl k) ?_
 obtain ⟨T451, X451, e451, st451⟩ := getF X450 hx hZ hown (host := "") (Or.inl (ww hw 18 rfl)) Via.refl e450 P1 (g := (mkF m 17 (Sh0 a1 dx) [(.ref a1), (.ref a2)])) rfl rfl (B d4_17)
 refine GoW.sg (mkF m 20 (Sh0 a1 dx) [(.int 1), (.ref a2)]) (fun t k => st451 t k) ?_
 refine GoW.sg (mkF m 21 (Sh0 a1 dx) [(.double dx), (.int 1), (.ref a2)]) (fun t k => XS.dloadN X451.here hx rfl (B d4_20) rfl k) ?_
 obtain ⟨cl452, Ar452, q452, Sz452, Nn452, Hh452, Gg452⟩ := P3
 have hin452 : ¬ ((1 : Int32) < 0 ∨ cl452.slots.size ≤ ((1 : Int32)).toNatClampNeg) := inb_of Sz452 ⟨by decide, by decide⟩
 obtain ⟨T452, h452, X452, e452, W452, st452⟩ := stD X451 hx hZ e451 Ar452 (j := (1 : Int32)) hin452 (g := (mkF m 21 (Sh0 a1 dx) [(.double dx), (.int 1), (.ref a2)])) rfl rfl (B d4_21)
 have f452_1 := P0.wr W452
 have f452_2 := P1.other W452 (Or.inl ne_a1_a2)
 have f452_3 := P2.other W452 (Or.inl ne_a1_a2)
 have f452_4 := (Keep.refl h0 [a1, a2]).wr W452 (Or.inl (List.mem_of_getElem? (i := 1) rfl))
 have V452 : Arv Z h452 a2 ka2 .double (4 : Int32) [(.double d0), (.double dx), (.double (0 : UInt64)), (.double (0 : UInt64))] (.double (0 : UInt64)) := Arv.set Ar452 q452 Sz452 Nn452 Hh452 Gg452 rfl W452 1 rfl (Nat.le_of_ble_eq_true rfl)
 have N452 := Fr.snoc X452 N0 g_a2
 refine GoW.sg (mkF m 22 (Sh0 a1 dx) []) (fun t k => st452 t k) ?_
 refine GoW.sg (mkF m 25 (Sh0 a1 dx) [(.ref a1), (.ref a1), (.ref a1)]) (fun t k => XS.aloadN X452.here hx rfl (B d4_22) rfl rfl (XS.aloadN X452.here hx rfl (B d4_23) rfl rfl (XS.dup X452.here hx rfl (B d4_24) rfl rfl k))) ?_
 obtain ⟨T453, X453, e453, st453⟩ := getF X452 hx hZ hown (host := "") (Or.inl (ww hw 18 rfl)) Via.refl e452 f452_2 (g := (mkF m 25 (Sh0 a1 dx) [(.ref a1), (.ref a1), (.ref a1)])) rfl rfl (B d4_25)
 refine GoW.sg (mkF m 28 (Sh0 a1 dx) [(.int 1), (.ref a1), (.ref a1)]) (fun t k => st453 t k) ?_
 refine GoW.sg (mkF m 29 (Sh0 a1 dx) [(.int 1), (.ref a1), (.int 1), (.ref a1)]) (fun t k => XT.dupX1 X453.here hx rfl (B d4_28) rfl rfl rfl k) ?_
 refine GoW.sg (mkF m 30 (Sh0 a1 dx) [(.int 1), (.int 1), (.ref a1), (.int 1), (.ref a1)]) (fun t k => XS.iconst X453.here hx rfl (B d4_29) k) ?_
 refine GoW.st (fun t k => XS.iadd X453.here hx rfl (B d4_30) rfl k) ?_
 rw [show ((1 : Int32) + (1 : Int32)) = (2 : Int32) from by decide]
 show GoW p e below s (QO41 Z a1 dx x v0 d0 a2 ka2 h0 n0) 0 0 (T453.setTop (mkF m 31 (Sh0 a1 dx) [(.int 2), (.ref a1), (.int 1), (.ref a1)]))
 obtain ⟨T454, h454, X454, e454, W454, st454⟩ := putF X453 hx hZ hown (host := "") (Or.inl (ww hw 18 rfl)) Via.refl e453 f452_2 f452_1 (Or.inl (ww hw 19 rfl)) (ww hw 2 rfl) (ty := .int) (by decide) rfl rfl (g := (mkF m 31 (Sh0 a1 dx) [(.int 2), (.ref a1), (.int 1), (.ref a1)])) rfl rfl (B d4_31)
 have N454 := Fr.snoc X454 N452 g_a1
 have f454_5 := f452_1.wr W454
 have f454_6 := f452_3.other W454 (Or.inr (slot_ne (t := (.array .double)) (t' := .int) (Or.inr (ww hw 12 rfl)) (Or.inl (ww hw 19 rfl)) (by decide) (by decide) (by decide)))
 have f454_7 := V452.other W454 (Ne.symm ne_a1_a2)
 have f454_8 := f452_4.wr W454 (Or.inl (List.mem_of_getElem? (i := 0) rfl))
 have F454size : Fld Z h454 a1 HSn "size" "I" (.int (2 : Int32)) := f452_2.same W454
 refine GoW.sg (mkF m 34 (Sh0 a1 dx) [(.int 1), (.ref a1)]) (fun t k => st454 t k) ?_
 by_cases c459 : (Int32.toInt64 x) < (Int32.toInt64 v0)
 ·show GoW p e below s (QO41 Z a1 dx x v0 d0 a2 ka2 h0 n0) 0 0 (T454.setTop (mkF m 34 (Sh0 a1 dx) [(.int 1), (.ref a1)]))
  obtain ⟨_, T480, L480, X480, hQ480, st480⟩ := own_priv X454 hx hZ (y := Y5) hown (ww hw 27 rfl) (ww hw 29 rfl) (ww hw 2 rfl) (ww hw 28 rfl) (ww hw 30 rfl) (ww hw 3 rfl) (by decide) 0 (a := a1) (rm5_18 l Z a0 hw a1 a2 ka2 d0 dx x v0 h454 n0 f454_6 f454_7 g_a2 ne_a1_a2 c459 hd0 hdx ) (by decide) (by decide) e454 f454_5 (by decide) (by decide) (g := (mkF m 34 (Sh0 a1 dx) [(.int 1), (.ref a1)])) rfl (by rw [hml]; rfl) (argsL := [(.int (1 : Int32))]) (rest := []) (lenOf pd_28I29V rfl) rfl (Nat.le_of_eq rfl) (B d4_34)
  obtain ⟨rfl, N480q, K480, p480_0⟩ := hQ480
  have N480 := Fr.app N454 N480q
  have f480_9 := f454_5.keep K480
  have f480_10 := F454size.keep K480 (ninS ne_a1_a2 nin0)
  have f480_11 := f454_6.keep K480 (ninS ne_a1_a2 nin0)
  have f480_12 := f454_8.trans K480 (allS (Or.inl (List.mem_of_getElem? (i := 1) rfl)) all0)
  refine GoW.sg (mkF m 37 (Sh0 a1 dx) []) (fun t k => st480 t k) ?_
  refine GoW.sg (mkF m 63 (Sh0 a1 dx) []) (fun t k => XS.goto X480.here hx rfl (pc0 := 37) (pc' := 63) rfl (B d4_37) (by decide) (by decide) k) ?_
  refine GoW.retV X480 hx Bd.returns (B d4_63) Bd.notSynchronized ?_ (by decide) (by decide)
  simp only [Int64.lt_iff_toInt_lt, Int32.toInt_toInt64] at c459
  exact ⟨x, v0, dx, d0, rfl, N480, f480_12, f480_9, f480_10, f480_11, p480_0, hdx, hd0, by omega, fun z => by omega⟩
 ·show GoW p e below s (QO41 Z a1 dx x v0 d0 a2 ka2 h0 n0) 0 0 (T454.setTop (mkF m 34 (Sh0 a1 dx) [(.int 1), (.ref a1)]))
  obtain ⟨_, T493, L493, X493, hQ493, st493⟩ := own_priv X454 hx hZ (y := Y5) hown (ww hw 27 rfl) (ww hw 29 rfl) (ww hw 2 rfl) (ww hw 28 rfl) (ww hw 30 rfl) (ww hw 3 rfl) (by decide) 0 (a := a1) (rm5_19 l Z a0 hw a1 a2 ka2 d0 dx x v0 h454 n0 f454_6 f454_7 g_a2 c459 hd0 hdx ) (by decide) (by decide) e454 f454_5 (by decide) (by decide) (g := (mkF m 34 (Sh0 a1 dx) [(.int 1), (.ref a1)])) rfl (by rw [hml]; rfl) (argsL := [(.int (1 : Int32))]) (rest := []) (lenOf pd_28I29V rfl) rfl (Nat.le_of_eq rfl) (B d4_34)
  obtain ⟨rfl, N493q, K493, p493_0⟩ := hQ493
  have N493 := Fr.app N454 N493q
  have f493_13 := f454_5.keep K493
  have f493_14 := F454size.keep K493 (ninS ne_a1_a2 nin0)
  have f493_15 := f454_6.keep K493 (ninS ne_a1_a2 nin0)
  have f493_16 := f454_8.trans K493 (allS (Or.inl (List.mem_of_getElem? (i := 1) rfl)) all0)
  refine GoW.sg (mkF m 37 (Sh0 a1 dx) []) (fun t k => st493 t k) ?_
  refine GoW.sg (mkF m 63 (Sh0 a1 dx) []) (fun t k => XS.goto X493.here hx rfl (pc0 := 37) (pc' := 63) rfl (B d4_37) (by decide) (by decide) k) ?_
  refine GoW.retV X493 hx Bd.returns (B d4_63) Bd.notSynchronized ?_ (by decide) (by decide)
  simp only [Int64.lt_iff_toInt_lt, Int32.toInt_toInt64] at c459
  exact ⟨v0, x, d0, dx, rfl, N493, f493_16, f493_13, f493_14, f493_15, p493_0, hd0, hdx, by omega, fun z => by omega⟩
def Q5_20 (Z : State) (a1c a2c : Addr) (ka2c : ClassId) (x1c x2c x3c : UInt64) (x4c x5c x6c : Int32) (h0 : Heap) (n0 : Nat) (v : Option Value) (h : Heap) (L : List Loc) : Prop := v = none ∧ Fr n0 L ∧ (Keep h0 h [a2c]) ∧ (Arv Z h a2c ka2c .double 4 [(.double x3c), (.double x2c), (.double x1c), (.double 0)] (.double 0))
theorem rm5_20 (l : Launch) (Z : State) (a0 : Array Value) (hw : HW a0 Z) (a1c a2c : Addr) (ka2c : ClassId) (x1c x2c x3c : UInt64) (x4c x5c x6c : Int32) (h0 : Heap) (n0 : Nat) (P0 : Fld Z h0 a1c HSn "heap" "[D" (.ref a2c)) (P1 : Arv Z h0 a2c ka2c .double 4 [(.double x1c), (.double x2c), (.double x3c), (.double 0)] (.double 0)) (g_a2c : n0 ≤ a2c) (ne_a1c_a2c : a1c ≠ a2c) (u0 : (Int32.toInt64 x4c) < (Int32.toInt64 x5c)) (hx1c : x1c = FP.l2d (Int32.toInt64 x5c)) (hx2c : x2c = FP.l2d (Int32.toInt64 x6c)) (hx3c : x3c = FP.l2d (Int32.toInt64 x4c)) :
  MM l Z Y5 prog_43_method_4_code 4 none 0 0 0 0 #[(.ref a1c), (.int 2)] h0 (Q5_20 Z a1c a2c ka2c x1c x2c x3c x4c x5c x6c h0 n0) := by
 refine own_start (fun m => (mkF m 0 (Sh1 a1c 2) [])) (plainFor_of_name pn_com_example_nearterm_nearterm_retrieval_HighestScores) (by simp [entryFrame, mkF, argsToLocals, Value.category]) n0 ?_
 intro p e s m below meth c s₁ Bd hx B hml hZ hown hnm X0 e0 N0
 refine GoW.sg (mkF m 1 (Sh1 a1c 2) [(.ref a1c)]) (fun t k => XS.aloadN X0.here hx rfl (B d5_0) rfl rfl k) ?_
 obtain ⟨T517, X517, e517, st517⟩ := getF X0 hx hZ hown (host := "") (Or.inl (ww hw 11 rfl)) Via.refl e0 P0 (g := (mkF m 1 (Sh1 a1c 2) [(.ref a1c)])) rfl rfl (B d5_1)
 refine GoW.sg (mkF m 4 (Sh1 a1c 2) [(.ref a2c)]) (fun t k => st517 t k) ?_
 refine GoW.sg (mkF m 5 (Sh1 a1c 2) [(.int 2), (.ref a2c)]) (fun t k => XS.iloadN X517.here hx rfl (B d5_4) rfl k) ?_
 obtain ⟨cl518, Ar518, q518, Sz518, Nn518, Hh518, Gg518⟩ := id P1
 have hin518 : ¬ ((2 : Int32) < 0 ∨ cl518.slots.size ≤ ((2 : Int32)).toNatClampNeg) := inb_of Sz518 ⟨by decide, by decide⟩
 refine GoW.sg (mkF m 6 (Sh1 a1c 2) [(.double x3c)]) (fun t k => X517.daload hx (j := (2 : Int32)) (v := (.double x3c)) (hq_ e517 Ar518.1) (State.isArrayOf_alike hZ.alike Ar518.2.1) Ar518.2.2 hin518 (Hh518.at hin518 rfl) (g := (mkF m 5 (Sh1 a1c 2) [(.int 2), (.ref a2c)])) rfl rfl (B d5_5) t k) ?_
 refine GoW.sg (mkF m 12 (Sh2 a1c 2 x3c) [(.ref a1c)]) (fun t k => XS.dstoreN X517.here hx rfl (B d5_6) rfl (l' := (Sh2 a1c 2 x3c)) rfl (XS.iloadN X517.here hx rfl (B d5_7) rfl (XS.ifNo X517.here hx rfl (B d5_8) rfl (by decide) (XS.aloadN X517.here hx rfl (B d5_11) rfl rfl k)))) ?_
 obtain ⟨T519, X519, e519, st519⟩ := getF X517 hx hZ hown (host := "") (Or.inl (ww hw 11 rfl)) Via.refl e517 P0 (g := (mkF m 12 (Sh2 a1c 2 x3c) [(.ref a1c)])) rfl rfl (B d5_12)
 refine GoW.sg (mkF m 15 (Sh2 a1c 2 x3c) [(.ref a2c)]) (fun t k => st519 t k) ?_
 refine GoW.sg (mkF m 17 (Sh2 a1c 2 x3c) [(.int 1), (.int 2), (.ref a2c)]) (fun t k => XS.iloadN X519.here hx rfl (B d5_15) rfl (XS.iconst X519.here hx rfl (B d5_16) k)) ?_
 refine GoW.st (fun t k => XS.isub X519.here hx rfl (B d5_17) rfl k) ?_
 rw [show ((2 : Int32) - (1 : Int32)) = (1 : Int32) from by decide]
 show GoW p e below s (Q5_20 Z a1c a2c ka2c x1c x2c x3c x4c x5c x6c h0 n0) 0 0 (T519.setTop (mkF m 18 (Sh2 a1c 2 x3c) [(.int 1), (.ref a2c)]))
 refine GoW.sg (mkF m 19 (Sh2 a1c 2 x3c) [(.int 2), (.int 1), (.ref a2c)]) (fun t k => XS.iconst X519.here hx rfl (B d5_18) k) ?_
 refine GoW.st (fun t k => XS.idiv X519.here hx rfl (B d5_19) rfl (by decide) k) ?_
 rw [show ((1 : Int32) / (2 : Int32)) = (0 : Int32) from by decide]
 show GoW p e below s (Q5_20 Z a1c a2c ka2c x1c x2c x3c x4c x5c x6c h0 n0) 0 0 (T519.setTop (mkF m 20 (Sh2 a1c 2 x3c) [(.int 0), (.ref a2c)]))
 obtain ⟨cl520, Ar520, q520, Sz520, Nn520, Hh520, Gg520⟩ := id P1
 have hin520 : ¬ ((0 : Int32) < 0 ∨ cl520.slots.size ≤ ((0 : Int32)).toNatClampNeg) := inb_of Sz520 ⟨by decide, by decide⟩
 refine GoW.sg (mkF m 21 (Sh2 a1c 2 x3c) [(.double x1c)]) (fun t k => X519.daload hx (j := (0 : Int32)) (v := (.double x1c)) (hq_ e519 Ar520.1) (State.isArrayOf_alike hZ.alike Ar520.2.1) Ar520.2.2 hin520 (Hh520.at hin520 rfl) (g := (mkF m 20 (Sh2 a1c 2 x3c) [(.int 0), (.ref a2c)])) rfl rfl (B d5_20) t k) ?_
 refine GoW.sg (mkF m 27 (Sh2 a1c 2 x3c) [(.ref a1c)]) (fun t k => XS.dloadN X519.here hx rfl (B d5_21) rfl (XS.dcmpS X519.here hx rfl (B d5_22) rfl (v := (lcmpW (Int32.toInt64 x5c) (Int32.toInt64 x4c))) (by rw [hx1c, hx3c]; exact dcmpV_w (own_b53 _) (own_b53 _) _) (XS.ifNo X519.here hx rfl (B d5_23) rfl ((if0 _ _).trans (tlt ((lw_gt _ _).mpr u0)).2.2.2) (XS.aloadN X519.here hx rfl (B d5_26) rfl rfl k)))) ?_
 obtain ⟨T521, X521, e521, st521⟩ := getF X519 hx hZ hown (host := "") (Or.inl (ww hw 11 rfl)) Via.refl e519 P0 (g := (mkF m 27 (Sh2 a1c 2 x3c) [(.ref a1c)])) rfl rfl (B d5_27)
 refine GoW.sg (mkF m 30 (Sh2 a1c 2 x3c) [(.ref a2c)]) (fun t k => st521 t k) ?_
 refine GoW.sg (mkF m 32 (Sh2 a1c 2 x3c) [(.ref a1c), (.int 2), (.ref a2c)]) (fun t k => XS.iloadN X521.here hx rfl (B d5_30) rfl (XS.aloadN X521.here hx rfl (B d5_31) rfl rfl k)) ?_
 obtain ⟨T522, X522, e522, st522⟩ := getF X521 hx hZ hown (host := "") (Or.inl (ww hw 11 rfl)) Via.refl e521 P0 (g := (mkF m 32 (Sh2 a1c 2 x3c) [(.ref a1c), (.int 2), (.ref a2c)])) rfl rfl (B d5_32)
 refine GoW.sg (mkF m 35 (Sh2 a1c 2 x3c) [(.ref a2c), (.int 2), (.ref a2c)]) (fun t k => st522 t k) ?_
 refine GoW.sg (mkF m 37 (Sh2 a1c 2 x3c) [(.int 1), (.int 2), (.ref a2c), (.int 2), (.ref a2c)]) (fun t k => XS.iloadN X522.here hx rfl (B d5_35) rfl (XS.iconst X522.here hx rfl (B d5_36) k)) ?_
 refine GoW.st (fun t k => XS.isub X522.here hx rfl (B d5_37) rfl k) ?_
 rw [show ((2 : Int32) - (1 : Int32)) = (1 : Int32) from by decide]
 show GoW p e below s (Q5_20 Z a1c a2c ka2c x1c x2c x3c x4c x5c x6c h0 n0) 0 0 (T522.setTop (mkF m 38 (Sh2 a1c 2 x3c) [(.int 1), (.ref a2c), (.int 2), (.ref a2c)]))
 refine GoW.sg (mkF m 39 (Sh2 a1c 2 x3c) [(.int 2), (.int 1), (.ref a2c), (.int 2), (.ref a2c)]) (fun t k => XS.iconst X522.here hx rfl (B d5_38) k) ?_
 refine GoW.st (fun t k => XS.idiv X522.here hx rfl (B d5_39) rfl (by decide) k) ?_
 rw [show ((1 : Int32) / (2 : Int32)) = (0 : Int32) from by decide]
 show GoW p e below s (Q5_20 Z a1c a2c ka2c x1c x2c x3c x4c x5c x6c h0 n0) 0 0 (T522.setTop (mkF m 40 (Sh2 a1c 2 x3c) [(.int 0), (.ref a2c), (.int 2), (.ref a2c)]))
 obtain ⟨cl523, Ar523, q523, Sz523, Nn523, Hh523, Gg523⟩ := id P1
 have hin523 : ¬ ((0 : Int32) < 0 ∨ cl523.slots.size ≤ ((0 : Int32)).toNatClampNeg) := inb_of Sz523 ⟨by decide, by decide⟩
 refine GoW.sg (mkF m 41 (Sh2 a1c 2 x3c) [(.double x1c), (.int 2), (.ref a2c)]) (fun t k => X522.daload hx (j := (0 : Int32)) (v := (.double x1c)) (hq_ e522 Ar523.1) (State.isArrayOf_alike hZ.alike Ar523.2.1) Ar523.2.2 hin523 (Hh523.at hin523 rfl) (g := (mkF m 40 (Sh2 a1c 2 x3c) [(.int 0), (.ref a2c), (.int 2), (.ref a2c)])) rfl rfl (B d5_40) t k) ?_
 obtain ⟨cl524, Ar524, q524, Sz524, Nn524, Hh524, Gg524⟩ := P1
 have hin524 : ¬ ((2 : Int32) < 0 ∨ cl524.slots.size ≤ ((2 : Int32)).toNatClampNeg) := inb_of Sz524 ⟨by decide, by decide⟩
 obtain ⟨T524, h524, X524, e524, W524, st524⟩ := stD X522 hx hZ e522 Ar524 (j := (2 : Int32)) hin524 (g := (mkF m 41 (Sh2 a1c 2 x3c) [(.double x1c), (.int 2), (.ref a2c)])) rfl rfl (B d5_41)
 have f524_1 := P0.other W524 (Or.inl ne_a1c_a2c)
 have f524_2 := (Keep.refl h0 [a2c]).wr W524 (Or.inl (List.mem_of_getElem? (i := 0) rfl))
 have V524 : Arv Z h524 a2c ka2c .double (4 : Int32) [(.double x1c), (.double x2c), (.double x1c), (.double (0 : UInt64))] (.double (0 : UInt64)) := Arv.set Ar524 q524 Sz524 Nn524 Hh524 Gg524 rfl W524 2 rfl (Nat.le_of_ble_eq_true rfl)
 have N524 := Fr.snoc X524 N0 g_a2c
 refine GoW.sg (mkF m 42 (Sh2 a1c 2 x3c) []) (fun t k => st524 t k) ?_
 refine GoW.sg (mkF m 44 (Sh2 a1c 2 x3c) [(.int 1), (.int 2)]) (fun t k => XS.iloadN X524.here hx rfl (B d5_42) rfl (XS.iconst X524.here hx rfl (B d5_43) k)) ?_
 refine GoW.st (fun t k => XS.isub X524.here hx rfl (B d5_44) rfl k) ?_
 rw [show ((2 : Int32) - (1 : Int32)) = (1 : Int32) from by decide]
 show GoW p e below s (Q5_20 Z a1c a2c ka2c x1c x2c x3c x4c x5c x6c h0 n0) 0 0 (T524.setTop (mkF m 45 (Sh2 a1c 2 x3c) [(.int 1)]))
 refine GoW.sg (mkF m 46 (Sh2 a1c 2 x3c) [(.int 2), (.int 1)]) (fun t k => XS.iconst X524.here hx rfl (B d5_45) k) ?_
 refine GoW.st (fun t k => XS.idiv X524.here hx rfl (B d5_46) rfl (by decide) k) ?_
 rw [show ((1 : Int32) / (2 : Int32)) = (0 : Int32) from by decide]
 show GoW p e below s (Q5_20 Z a1c a2c ka2c x1c x2c x3c x4c x5c x6c h0 n0) 0 0 (T524.setTop (mkF m 47 (Sh2 a1c 2 x3c) [(.int 0)]))
 refine GoW.sg (mkF m 52 (Sh2 a1c 0 x3c) [(.ref a1c)]) (fun t k => XS.istoreN X524.here hx rfl (B d5_47) rfl (l' := (Sh2 a1c 0 x3c)) rfl (XS.goto X524.here hx rfl (pc0 := 48) (pc' := 7) rfl (B d5_48) (by decide) (by decide) (XS.iloadN X524.here hx rfl (B d5_7) rfl (XS.ifYes X524.here hx rfl (pc0 := 8) (pc' := 51) rfl (B d5_8) rfl (by decide) (by decide) (by decide) (XS.aloadN X524.here hx rfl (B d5_51) rfl rfl k))))) ?_
 obtain ⟨T525, X525, e525, st525⟩ := getF X524 hx hZ hown (host := "") (Or.inl (ww hw 11 rfl)) Via.refl e524 f524_1 (g := (mkF m 52 (Sh2 a1c 0 x3c) [(.ref a1c)])) rfl rfl (B d5_52)
 refine GoW.sg (mkF m 55 (Sh2 a1c 0 x3c) [(.ref a2c)]) (fun t k => st525 t k) ?_
 refine GoW.sg (mkF m 57 (Sh2 a1c 0 x3c) [(.double x3c), (.int 0), (.ref a2c)]) (fun t k => XS.iloadN X525.here hx rfl (B d5_55) rfl (XS.dloadN X525.here hx rfl (B d5_56) rfl k)) ?_
 obtain ⟨cl526, Ar526, q526, Sz526, Nn526, Hh526, Gg526⟩ := V524
 have hin526 : ¬ ((0 : Int32) < 0 ∨ cl526.slots.size ≤ ((0 : Int32)).toNatClampNeg) := inb_of Sz526 ⟨by decide, by decide⟩
 obtain ⟨T526, h526, X526, e526, W526, st526⟩ := stD X525 hx hZ e525 Ar526 (j := (0 : Int32)) hin526 (g := (mkF m 57 (Sh2 a1c 0 x3c) [(.double x3c), (.int 0), (.ref a2c)])) rfl rfl (B d5_57)
 have f526_4 := f524_2.wr W526 (Or.inl (List.mem_of_getElem? (i := 0) rfl))
 have V526 : Arv Z h526 a2c ka2c .double (4 : Int32) [(.double x3c), (.double x2c), (.double x1c), (.double (0 : UInt64))] (.double (0 : UInt64)) := Arv.set Ar526 q526 Sz526 Nn526 Hh526 Gg526 rfl W526 0 rfl (Nat.le_of_ble_eq_true rfl)
 have N526 := Fr.snoc X526 N524 g_a2c
 refine GoW.sg (mkF m 58 (Sh2 a1c 0 x3c) []) (fun t k => st526 t k) ?_
 refine GoW.retV X526 hx Bd.returns (B d5_58) Bd.notSynchronized ?_ (by decide) (by decide)
 rw [e526]
 exact ⟨rfl, N526, f526_4, V526⟩
def Q5_21 (Z : State) (a1c a2c : Addr) (ka2c : ClassId) (x1c x2c x3c : UInt64) (x4c x5c x6c : Int32) (h0 : Heap) (n0 : Nat) (v : Option Value) (h : Heap) (L : List Loc) : Prop := v = none ∧ Fr n0 L ∧ (Keep h0 h [a2c]) ∧ (Arv Z h a2c ka2c .double 4 [(.double x1c), (.double x2c), (.double x3c), (.double 0)] (.double 0))
theorem rm5_21 (l : Launch) (Z : State) (a0 : Array Value) (hw : HW a0 Z) (a1c a2c : Addr) (ka2c : ClassId) (x1c x2c x3c : UInt64) (x4c x5c x6c : Int32) (h0 : Heap) (n0 : Nat) (P0 : Fld Z h0 a1c HSn "heap" "[D" (.ref a2c)) (P1 : Arv Z h0 a2c ka2c .double 4 [(.double x1c), (.double x2c), (.double x3c), (.double 0)] (.double 0)) (g_a2c : n0 ≤ a2c) (u0 : ¬ ((Int32.toInt64 x4c) < (Int32.toInt64 x5c))) (hx1c : x1c = FP.l2d (Int32.toInt64 x5c)) (hx2c : x2c = FP.l2d (Int32.toInt64 x6c)) (hx3c : x3c = FP.l2d (Int32.toInt64 x4c)) :
  MM l Z Y5 prog_43_method_4_code 4 none 0 0 0 0 #[(.ref a1c), (.int 2)] h0 (Q5_21 Z a1c a2c ka2c x1c x2c x3c x4c x5c x6c h0 n0) := by
 refine own_start (fun m => (mkF m 0 (Sh1 a1c 2) [])) (plainFor_of_name pn_com_example_nearterm_nearterm_retrieval_HighestScores) (by simp [entryFrame, mkF, argsToLocals, Value.category]) n0 ?_
 intro p e s m below meth c s₁ Bd hx B hml hZ hown hnm X0 e0 N0
 refine GoW.sg (mkF m 1 (Sh1 a1c 2) [(.ref a1c)]) (fun t k => XS.aloadN X0.here hx rfl (B d5_0) rfl rfl k) ?_
 obtain ⟨T534, X534, e534, st534⟩ := getF X0 hx hZ hown (host := "") (Or.inl (ww hw 11 rfl)) Via.refl e0 P0 (g := (mkF m 1 (Sh1 a1c 2) [(.ref a1c)])) rfl rfl (B d5_1)
 refine GoW.sg (mkF m 4 (Sh1 a1c 2) [(.ref a2c)]) (fun t k => st534 t k) ?_
 refine GoW.sg (mkF m 5 (Sh1 a1c 2) [(.int 2), (.ref a2c)]) (fun t k => XS.iloadN X534.here hx rfl (B d5_4) rfl k) ?_
 obtain ⟨cl535, Ar535, q535, Sz535, Nn535, Hh535, Gg535⟩ := id P1
 have hin535 : ¬ ((2 : Int32) < 0 ∨ cl535.slots.size ≤ ((2 : Int32)).toNatClampNeg) := inb_of Sz535 ⟨by decide, by decide⟩
 refine GoW.sg (mkF m 6 (Sh1 a1c 2) [(.double x3c)]) (fun t k => X534.daload hx (j := (2 : Int32)) (v := (.double x3c)) (hq_ e534 Ar535.1) (State.isArrayOf_alike hZ.alike Ar535.2.1) Ar535.2.2 hin535 (Hh535.at hin535 rfl) (g := (mkF m 5 (Sh1 a1c 2) [(.int 2), (.ref a2c)])) rfl rfl (B d5_5) t k) ?_
 refine GoW.sg (mkF m 12 (Sh2 a1c 2 x3c) [(.ref a1c)]) (fun t k => XS.dstoreN X534.here hx rfl (B d5_6) rfl (l' := (Sh2 a1c 2 x3c)) rfl (XS.iloadN X534.here hx rfl (B d5_7) rfl (XS.ifNo X534.here hx rfl (B d5_8) rfl (by decide) (XS.aloadN X534.here hx rfl (B d5_11) rfl rfl k)))) ?_
 obtain ⟨T536, X536, e536, st536⟩ := getF X534 hx hZ hown (host := "") (Or.inl (ww hw 11 rfl)) Via.refl e534 P0 (g := (mkF m 12 (Sh2 a1c 2 x3c) [(.ref a1c)])) rfl rfl (B d5_12)
 refine GoW.sg (mkF m 15 (Sh2 a1c 2 x3c) [(.ref a2c)]) (fun t k => st536 t k) ?_
 refine GoW.sg (mkF m 17 (Sh2 a1c 2 x3c) [(.int 1), (.int 2), (.ref a2c)]) (fun t k => XS.iloadN X536.here hx rfl (B d5_15) rfl (XS.iconst X536.here hx rfl (B d5_16) k)) ?_
 refine GoW.st (fun t k => XS.isub X536.here hx rfl (B d5_17) rfl k) ?_
 rw [show ((2 : Int32) - (1 : Int32)) = (1 : Int32) from by decide]
 show GoW p e below s (Q5_21 Z a1c a2c ka2c x1c x2c x3c x4c x5c x6c h0 n0) 0 0 (T536.setTop (mkF m 18 (Sh2 a1c 2 x3c) [(.int 1), (.ref a2c)]))
 refine GoW.sg (mkF m 19 (Sh2 a1c 2 x3c) [(.int 2), (.int 1), (.ref a2c)]) (fun t k => XS.iconst X536.here hx rfl (B d5_18) k) ?_
 refine GoW.st (fun t k => XS.idiv X536.here hx rfl (B d5_19) rfl (by decide) k) ?_
 rw [show ((1 : Int32) / (2 : Int32)) = (0 : Int32) from by decide]
 show GoW p e below s (Q5_21 Z a1c a2c ka2c x1c x2c x3c x4c x5c x6c h0 n0) 0 0 (T536.setTop (mkF m 20 (Sh2 a1c 2 x3c) [(.int 0), (.ref a2c)]))
 obtain ⟨cl537, Ar537, q537, Sz537, Nn537, Hh537, Gg537⟩ := id P1
 have hin537 : ¬ ((0 : Int32) < 0 ∨ cl537.slots.size ≤ ((0 : Int32)).toNatClampNeg) := inb_of Sz537 ⟨by decide, by decide⟩
 refine GoW.sg (mkF m 21 (Sh2 a1c 2 x3c) [(.double x1c)]) (fun t k => X536.daload hx (j := (0 : Int32)) (v := (.double x1c)) (hq_ e536 Ar537.1) (State.isArrayOf_alike hZ.alike Ar537.2.1) Ar537.2.2 hin537 (Hh537.at hin537 rfl) (g := (mkF m 20 (Sh2 a1c 2 x3c) [(.int 0), (.ref a2c)])) rfl rfl (B d5_20) t k) ?_
 refine GoW.sg (mkF m 52 (Sh2 a1c 2 x3c) [(.ref a1c)]) (fun t k => XS.dloadN X536.here hx rfl (B d5_21) rfl (XS.dcmpS X536.here hx rfl (B d5_22) rfl (v := (lcmpW (Int32.toInt64 x5c) (Int32.toInt64 x4c))) (by rw [hx1c, hx3c]; exact dcmpV_w (own_b53 _) (own_b53 _) _) (XS.ifYes X536.here hx rfl (pc0 := 23) (pc' := 51) rfl (B d5_23) rfl ((if0 _ _).trans (flt (mt (lw_gt _ _).mp u0)).2.2.2) (by decide) (by decide) (XS.aloadN X536.here hx rfl (B d5_51) rfl rfl k)))) ?_
 obtain ⟨T538, X538, e538, st538⟩ := getF X536 hx hZ hown (host := "") (Or.inl (ww hw 11 rfl)) Via.refl e536 P0 (g := (mkF m 52 (Sh2 a1c 2 x3c) [(.ref a1c)])) rfl rfl (B d5_52)
 refine GoW.sg (mkF m 55 (Sh2 a1c 2 x3c) [(.ref a2c)]) (fun t k => st538 t k) ?_
 refine GoW.sg (mkF m 57 (Sh2 a1c 2 x3c) [(.double x3c), (.int 2), (.ref a2c)]) (fun t k => XS.iloadN X538.here hx rfl (B d5_55) rfl (XS.dloadN X538.here hx rfl (B d5_56) rfl k)) ?_
 obtain ⟨cl539, Ar539, q539, Sz539, Nn539, Hh539, Gg539⟩ := P1
 have hin539 : ¬ ((2 : Int32) < 0 ∨ cl539.slots.size ≤ ((2 : Int32)).toNatClampNeg) := inb_of Sz539 ⟨by decide, by decide⟩
 obtain ⟨T539, h539, X539, e539, W539, st539⟩ := stD X538 hx hZ e538 Ar539 (j := (2 : Int32)) hin539 (g := (mkF m 57 (Sh2 a1c 2 x3c) [(.double x3c), (.int 2), (.ref a2c)])) rfl rfl (B d5_57)
 have f539_1 := (Keep.refl h0 [a2c]).wr W539 (Or.inl (List.mem_of_getElem? (i := 0) rfl))
 have V539 : Arv Z h539 a2c ka2c .double (4 : Int32) [(.double x1c), (.double x2c), (.double x3c), (.double (0 : UInt64))] (.double (0 : UInt64)) := Arv.set Ar539 q539 Sz539 Nn539 Hh539 Gg539 rfl W539 2 rfl (Nat.le_of_ble_eq_true rfl)
 have N539 := Fr.snoc X539 N0 g_a2c
 refine GoW.sg (mkF m 58 (Sh2 a1c 2 x3c) []) (fun t k => st539 t k) ?_
 refine GoW.retV X539 hx Bd.returns (B d5_58) Bd.notSynchronized ?_ (by decide) (by decide)
 rw [e539]
 exact ⟨rfl, N539, f539_1, V539⟩
def QO42 (Z : State) (a1 : Addr) (dx : UInt64) (x v0 v1 : Int32) (d0 d1 : UInt64) (a2 : Addr) (ka2 : ClassId) (h0 : Heap) (n0 : Nat) (v : Option Value) (h : Heap) (L : List Loc) : Prop := ∃ w0 : Int32, ∃ w1 : Int32, ∃ w2 : Int32, ∃ f0 : UInt64, ∃ f1 : UInt64, ∃ f2 : UInt64, v = none ∧ Fr n0 L ∧ (Keep h0 h [a1, a2]) ∧ (Exa Z h a1 HSn) ∧ (Fld Z h a1 HSn "size" "I" (.int 3)) ∧ (Fld Z h a1 HSn "heap" "[D" (.ref a2)) ∧ (Arv Z h a2 ka2 .double 4 [(.double f0), (.double f1), (.double f2), (.double 0)] (.double 0)) ∧ (f0 = FP.l2d (Int32.toInt64 w0) ∧ f1 = FP.l2d (Int32.toInt64 w1) ∧ f2 = FP.l2d (Int32.toInt64 w2) ∧ (w0.toInt ≤ w1.toInt ∧ w0.toInt ≤ w2.toInt) ∧ (∀ z : Int, cn z w0 + cn z w1 + cn z w2 = cn z v0 + cn z v1 + cn z x))
theorem rmO42 (l : Launch) (Z : State) (a0 : Array Value) (hw : HW a0 Z) (a1 : Addr) (dx : UInt64) (x v0 v1 : Int32) (d0 d1 : UInt64) (a2 : Addr) (ka2 : ClassId) (h0 : Heap) (n0 : Nat) (P0 : Exa Z h0 a1 HSn) (P1 : Fld Z h0 a1 HSn "size" "I" (.int 2)) (P2 : Fld Z h0 a1 HSn "heap" "[D" (.ref a2)) (P3 : Arv Z h0 a2 ka2 .double 4 [(.double d0), (.double d1), (.double 0), (.double 0)] (.double 0)) (g_a1 : n0 ≤ a1) (g_a2 : n0 ≤ a2) (ne_a1_a2 : a1 ≠ a2) (hd0 : d0 = FP.l2d (Int32.toInt64 v0)) (hd1 : d1 = FP.l2d (Int32.toInt64 v1)) (hdx : dx = FP.l2d (Int32.toInt64 x)) (hH : v0.toInt ≤ v1.toInt) :
  MM l Z Y4 prog_43_method_2_code 3 none 1 0 0 15 #[(.ref a1), (.double dx)] h0 (QO42 Z a1 dx x v0 v1 d0 d1 a2 ka2 h0 n0) := by
 refine own_start (fun m => (mkF m 0 (Sh0 a1 dx) [])) (plainFor_of_name pn_com_example_nearterm_nearterm_retrieval_HighestScores) (by simp [entryFrame, mkF, argsToLocals, Value.category]) n0 ?_
 intro p e s m below meth c s₁ Bd hx B hml hZ hown hnm X0 e0 N0
 refine GoW.sg (mkF m 1 (Sh0 a1 dx) [(.ref a1)]) (fun t k => XS.aloadN X0.here hx rfl (B d4_0) rfl rfl k) ?_
 obtain ⟨T494, X494, e494, st494⟩ := getF X0 hx hZ hown (host := "") (Or.inl (ww hw 18 rfl)) Via.refl e0 P1 (g := (mkF m 1 (Sh0 a1 dx) [(.ref a1)])) rfl rfl (B d4_1)
 refine GoW.sg (mkF m 4 (Sh0 a1 dx) [(.int 2)]) (fun t k => st494 t k) ?_
 refine GoW.sg (mkF m 5 (Sh0 a1 dx) [(.ref a1), (.int 2)]) (fun t k => XS.aloadN X494.here hx rfl (B d4_4) rfl rfl k) ?_
 obtain ⟨T495, X495, e495, st495⟩ := getF X494 hx hZ hown (host := "") (Or.inl (ww hw 11 rfl)) Via.refl e494 P2 (g := (mkF m 5 (Sh0 a1 dx) [(.ref a1), (.int 2)])) rfl rfl (B d4_5)
 refine GoW.sg (mkF m 8 (Sh0 a1 dx) [(.ref a2), (.int 2)]) (fun t k => st495 t k) ?_
 obtain ⟨cl496, Ar496, q496, Sz496, Nn496, Hh496, Gg496⟩ := id P3
 have st496 := X495.arraylength hx (hq_ e495 Ar496.1) (State.isArrayOf_alike hZ.alike Ar496.2.1) (g := (mkF m 8 (Sh0 a1 dx) [(.ref a2), (.int 2)])) rfl rfl (B d4_8)
 rw [len_of Sz496 Nn496] at st496
 refine GoW.sg (mkF m 9 (Sh0 a1 dx) [(.int 4), (.int 2)]) (fun t k => st496 t k) ?_
 refine GoW.sg (mkF m 13 (Sh0 a1 dx) [(.ref a1)]) (fun t k => XS.icmpNo X495.here hx rfl (B d4_9) rfl (by decide) (XS.aloadN X495.here hx rfl (B d4_12) rfl rfl k)) ?_
 obtain ⟨T497, X497, e497, st497⟩ := getF X495 hx hZ hown (host := "") (Or.inl (ww hw 11 rfl)) Via.refl e495 P2 (g := (mkF m 13 (Sh0 a1 dx) [(.ref a1)])) rfl rfl (B d4_13)
 refine GoW.sg (mkF m 16 (Sh0 a1 dx) [(.ref a2)]) (fun t k => st497 t k) ?_
 refine GoW.sg (mkF m 17 (Sh0 a1 dx) [(.ref a1), (.ref a2)]) (fun t k => XS.aloadN X497.here hx rfl (B d4_16) rfl rfl k) ?_
 obtain ⟨T498, X498, e498, st498⟩ := getF X497 hx hZ hown (host := "") (Or.inl (ww hw 18 rfl)) Via.refl e497 P1 (g := (mkF m 17 (Sh0 a1 dx) [(.ref a1), (.ref a2)])) rfl rfl (B d4_17)
 refine GoW.sg (mkF m 20 (Sh0 a1 dx) [(.int 2), (.ref a2)]) (fun t k => st498 t k) ?_
 refine GoW.sg (mkF m 21 (Sh0 a1 dx) [(.double dx), (.int 2), (.ref a2)]) (fun t k => XS.dloadN X498.here hx rfl (B d4_20) rfl k) ?_
 obtain ⟨cl499, Ar499, q499, Sz499, Nn499, Hh499, Gg499⟩ := P3
 have hin499 : ¬ ((2 : Int32) < 0 ∨ cl499.slots.size ≤ ((2 : Int32)).toNatClampNeg) := inb_of Sz499 ⟨by decide, by decide⟩
 obtain ⟨T499, h499, X499, e499, W499, st499⟩ := stD X498 hx hZ e498 Ar499 (j := (2 : Int32)) hin499 (g := (mkF m 21 (Sh0 a1 dx) [(.double dx), (.int 2), (.ref a2)])) rfl rfl (B d4_21)
 have f499_1 := P0.wr W499
 have f499_2 := P1.other W499 (Or.inl ne_a1_a2)
 have f499_3 := P2.other W499 (Or.inl ne_a1_a2)
 have f499_4 := (Keep.refl h0 [a1, a2]).wr W499 (Or.inl (List.mem_of_getElem? (i := 1) rfl))
 have V499 : Arv Z h499 a2 ka2 .double (4 : Int32) [(.double d0), (.double d1), (.double dx), (.double (0 : UInt64))] (.double (0 : UInt64)) := Arv.set Ar499 q499 Sz499 Nn499 Hh499 Gg499 rfl W499 2 rfl (Nat.le_of_ble_eq_true rfl)
 have N499 := Fr.snoc X499 N0 g_a2
 refine GoW.sg (mkF m 22 (Sh0 a1 dx) []) (fun t k => st499 t k) ?_
 refine GoW.sg (mkF m 25 (Sh0 a1 dx) [(.ref a1), (.ref a1), (.ref a1)]) (fun t k => XS.aloadN X499.here hx rfl (B d4_22) rfl rfl (XS.aloadN X499.here hx rfl (B d4_23) rfl rfl (XS.dup X499.here hx rfl (B d4_24) rfl rfl k))) ?_
 obtain ⟨T500, X500, e500, st500⟩ := getF X499 hx hZ hown (host := "") (Or.inl (ww hw 18 rfl)) Via.refl e499 f499_2 (g := (mkF m 25 (Sh0 a1 dx) [(.ref a1), (.ref a1), (.ref a1)])) rfl rfl (B d4_25)
 refine GoW.sg (mkF m 28 (Sh0 a1 dx) [(.int 2), (.ref a1), (.ref a1)]) (fun t k => st500 t k) ?_
 refine GoW.sg (mkF m 29 (Sh0 a1 dx) [(.int 2), (.ref a1), (.int 2), (.ref a1)]) (fun t k => XT.dupX1 X500.here hx rfl (B d4_28) rfl rfl rfl k) ?_
 refine GoW.sg (mkF m 30 (Sh0 a1 dx) [(.int 1), (.int 2), (.ref a1), (.int 2), (.ref a1)]) (fun t k => XS.iconst X500.here hx rfl (B d4_29) k) ?_
 refine GoW.st (fun t k => XS.iadd X500.here hx rfl (B d4_30) rfl k) ?_
 rw [show ((2 : Int32) + (1 : Int32)) = (3 : Int32) from by decide]
 show GoW p e below s (QO42 Z a1 dx x v0 v1 d0 d1 a2 ka2 h0 n0) 0 0 (T500.setTop (mkF m 31 (Sh0 a1 dx) [(.int 3), (.ref a1), (.int 2), (.ref a1)]))
 obtain ⟨T501, h501, X501, e501, W501, st501⟩ := putF X500 hx hZ hown (host := "") (Or.inl (ww hw 18 rfl)) Via.refl e500 f499_2 f499_1 (Or.inl (ww hw 19 rfl)) (ww hw 2 rfl) (ty := .int) (by decide) rfl rfl (g := (mkF m 31 (Sh0 a1 dx) [(.int 3), (.ref a1), (.int 2), (.ref a1)])) rfl rfl (B d4_31)
 have N501 := Fr.snoc X501 N499 g_a1
 have f501_5 := f499_1.wr W501
 have f501_6 := f499_3.other W501 (Or.inr (slot_ne (t := (.array .double)) (t' := .int) (Or.inr (ww hw 12 rfl)) (Or.inl (ww hw 19 rfl)) (by decide) (by decide) (by decide)))
 have f501_7 := V499.other W501 (Ne.symm ne_a1_a2)
 have f501_8 := f499_4.wr W501 (Or.inl (List.mem_of_getElem? (i := 0) rfl))
 have F501size : Fld Z h501 a1 HSn "size" "I" (.int (3 : Int32)) := f499_2.same W501
 refine GoW.sg (mkF m 34 (Sh0 a1 dx) [(.int 2), (.ref a1)]) (fun t k => st501 t k) ?_
 by_cases c506 : (Int32.toInt64 x) < (Int32.toInt64 v0)
 ·show GoW p e below s (QO42 Z a1 dx x v0 v1 d0 d1 a2 ka2 h0 n0) 0 0 (T501.setTop (mkF m 34 (Sh0 a1 dx) [(.int 2), (.ref a1)]))
  obtain ⟨_, T527, L527, X527, hQ527, st527⟩ := own_priv X501 hx hZ (y := Y5) hown (ww hw 27 rfl) (ww hw 29 rfl) (ww hw 2 rfl) (ww hw 28 rfl) (ww hw 30 rfl) (ww hw 3 rfl) (by decide) 0 (a := a1) (rm5_20 l Z a0 hw a1 a2 ka2 d0 d1 dx x v0 v1 h501 n0 f501_6 f501_7 g_a2 ne_a1_a2 c506 hd0 hd1 hdx ) (by decide) (by decide) e501 f501_5 (by decide) (by decide) (g := (mkF m 34 (Sh0 a1 dx) [(.int 2), (.ref a1)])) rfl (by rw [hml]; rfl) (argsL := [(.int (2 : Int32))]) (rest := []) (lenOf pd_28I29V rfl) rfl (Nat.le_of_eq rfl) (B d4_34)
  obtain ⟨rfl, N527q, K527, p527_0⟩ := hQ527
  have N527 := Fr.app N501 N527q
  have f527_9 := f501_5.keep K527
  have f527_10 := F501size.keep K527 (ninS ne_a1_a2 nin0)
  have f527_11 := f501_6.keep K527 (ninS ne_a1_a2 nin0)
  have f527_12 := f501_8.trans K527 (allS (Or.inl (List.mem_of_getElem? (i := 1) rfl)) all0)
  refine GoW.sg (mkF m 37 (Sh0 a1 dx) []) (fun t k => st527 t k) ?_
  refine GoW.sg (mkF m 63 (Sh0 a1 dx) []) (fun t k => XS.goto X527.here hx rfl (pc0 := 37) (pc' := 63) rfl (B d4_37) (by decide) (by decide) k) ?_
  refine GoW.retV X527 hx Bd.returns (B d4_63) Bd.notSynchronized ?_ (by decide) (by decide)
  simp only [Int64.lt_iff_toInt_lt, Int32.toInt_toInt64] at c506
  exact ⟨x, v1, v0, dx, d1, d0, rfl, N527, f527_12, f527_9, f527_10, f527_11, p527_0, hdx, hd1, hd0, by omega, fun z => by omega⟩
 ·show GoW p e below s (QO42 Z a1 dx x v0 v1 d0 d1 a2 ka2 h0 n0) 0 0 (T501.setTop (mkF m 34 (Sh0 a1 dx) [(.int 2), (.ref a1)]))
  obtain ⟨_, T540, L540, X540, hQ540, st540⟩ := own_priv X501 hx hZ (y := Y5) hown (ww hw 27 rfl) (ww hw 29 rfl) (ww hw 2 rfl) (ww hw 28 rfl) (ww hw 30 rfl) (ww hw 3 rfl) (by decide) 0 (a := a1) (rm5_21 l Z a0 hw a1 a2 ka2 d0 d1 dx x v0 v1 h501 n0 f501_6 f501_7 g_a2 c506 hd0 hd1 hdx ) (by decide) (by decide) e501 f501_5 (by decide) (by decide) (g := (mkF m 34 (Sh0 a1 dx) [(.int 2), (.ref a1)])) rfl (by rw [hml]; rfl) (argsL := [(.int (2 : Int32))]) (rest := []) (lenOf pd_28I29V rfl) rfl (Nat.le_of_eq rfl) (B d4_34)
  obtain ⟨rfl, N540q, K540, p540_0⟩ := hQ540
  have N540 := Fr.app N501 N540q
  have f540_13 := f501_5.keep K540
  have f540_14 := F501size.keep K540 (ninS ne_a1_a2 nin0)
  have f540_15 := f501_6.keep K540 (ninS ne_a1_a2 nin0)
  have f540_16 := f501_8.trans K540 (allS (Or.inl (List.mem_of_getElem? (i := 1) rfl)) all0)
  refine GoW.sg (mkF m 37 (Sh0 a1 dx) []) (fun t k => st540 t k) ?_
  refine GoW.sg (mkF m 63 (Sh0 a1 dx) []) (fun t k => XS.goto X540.here hx rfl (pc0 := 37) (pc' := 63) rfl (B d4_37) (by decide) (by decide) k) ?_
  refine GoW.retV X540 hx Bd.returns (B d4_63) Bd.notSynchronized ?_ (by decide) (by decide)
  simp only [Int64.lt_iff_toInt_lt, Int32.toInt_toInt64] at c506
  exact ⟨v0, v1, x, d0, d1, dx, rfl, N540, f540_16, f540_13, f540_14, f540_15, p540_0, hd0, hd1, hdx, by omega, fun z => by omega⟩
def Q5_22 (Z : State) (a1c a2c : Addr) (ka2c : ClassId) (x1c x2c : UInt64) (x3c x4c : UInt64) (x5c x6c : Int32) (x7c x8c : Int32) (h0 : Heap) (n0 : Nat) (v : Option Value) (h : Heap) (L : List Loc) : Prop := v = none ∧ Fr n0 L ∧ (Keep h0 h [a2c]) ∧ (Arv Z h a2c ka2c .double 4 [(.double x4c), (.double x1c), (.double x3c), (.double x2c)] (.double 0))
theorem rm5_22 (l : Launch) (Z : State) (a0 : Array Value) (hw : HW a0 Z) (a1c a2c : Addr) (ka2c : ClassId) (x1c x2c : UInt64) (x3c x4c : UInt64) (x5c x6c : Int32) (x7c x8c : Int32) (h0 : Heap) (n0 : Nat) (P0 : Fld Z h0 a1c HSn "heap" "[D" (.ref a2c)) (P1 : Arv Z h0 a2c ka2c .double 4 [(.double x1c), (.double x2c), (.double x3c), (.double x4c)] (.double 0)) (g_a2c : n0 ≤ a2c) (ne_a1c_a2c : a1c ≠ a2c) (u0 : (Int32.toInt64 x5c) < (Int32.toInt64 x6c)) (u1 : (Int32.toInt64 x5c) < (Int32.toInt64 x7c)) (hx1c : x1c = FP.l2d (Int32.toInt64 x7c)) (hx2c : x2c = FP.l2d (Int32.toInt64 x6c)) (hx3c : x3c = FP.l2d (Int32.toInt64 x8c)) (hx4c : x4c = FP.l2d (Int32.toInt64 x5c)) :
  MM l Z Y5 prog_43_method_4_code 4 none 0 0 0 0 #[(.ref a1c), (.int 3)] h0 (Q5_22 Z a1c a2c ka2c x1c x2c x3c x4c x5c x6c x7c x8c h0 n0) := by
 refine own_start (fun m => (mkF m 0 (Sh1 a1c 3) [])) (plainFor_of_name pn_com_example_nearterm_nearterm_retrieval_HighestScores) (by simp [entryFrame, mkF, argsToLocals, Value.category]) n0 ?_
 intro p e s m below meth c s₁ Bd hx B hml hZ hown hnm X0 e0 N0
 refine GoW.sg (mkF m 1 (Sh1 a1c 3) [(.ref a1c)]) (fun t k => XS.aloadN X0.here hx rfl (B d5_0) rfl rfl k) ?_
 obtain ⟨T581, X581, e581, st581⟩ := getF X0 hx hZ hown (host := "") (Or.inl (ww hw 11 rfl)) Via.refl e0 P0 (g := (mkF m 1 (Sh1 a1c 3) [(.ref a1c)])) rfl rfl (B d5_1)
 refine GoW.sg (mkF m 4 (Sh1 a1c 3) [(.ref a2c)]) (fun t k => st581 t k) ?_
 refine GoW.sg (mkF m 5 (Sh1 a1c 3) [(.int 3), (.ref a2c)]) (fun t k => XS.iloadN X581.here hx rfl (B d5_4) rfl k) ?_
 obtain ⟨cl582, Ar582, q582, Sz582, Nn582, Hh582, Gg582⟩ := id P1
 have hin582 : ¬ ((3 : Int32) < 0 ∨ cl582.slots.size ≤ ((3 : Int32)).toNatClampNeg) := inb_of Sz582 ⟨by decide, by decide⟩
 refine GoW.sg (mkF m 6 (Sh1 a1c 3) [(.double x4c)]) (fun t k => X581.daload hx (j := (3 : Int32)) (v := (.double x4c)) (hq_ e581 Ar582.1) (State.isArrayOf_alike hZ.alike Ar582.2.1) Ar582.2.2 hin582 (Hh582.at hin582 rfl) (g := (mkF m 5 (Sh1 a1c 3) [(.int 3), (.ref a2c)])) rfl rfl (B d5_5) t k) ?_
 refine GoW.sg (mkF m 12 (Sh2 a1c 3 x4c) [(.ref a1c)]) (fun t k => XS.dstoreN X581.here hx rfl (B d5_6) rfl (l' := (Sh2 a1c 3 x4c)) rfl (XS.iloadN X581.here hx rfl (B d5_7) rfl (XS.ifNo X581.here hx rfl (B d5_8) rfl (by decide) (XS.aloadN X581.here hx rfl (B d5_11) rfl rfl k)))) ?_
 obtain ⟨T583, X583, e583, st583⟩ := getF X581 hx hZ hown (host := "") (Or.inl (ww hw 11 rfl)) Via.refl e581 P0 (g := (mkF m 12 (Sh2 a1c 3 x4c) [(.ref a1c)])) rfl rfl (B d5_12)
 refine GoW.sg (mkF m 15 (Sh2 a1c 3 x4c) [(.ref a2c)]) (fun t k => st583 t k) ?_
 refine GoW.sg (mkF m 17 (Sh2 a1c 3 x4c) [(.int 1), (.int 3), (.ref a2c)]) (fun t k => XS.iloadN X583.here hx rfl (B d5_15) rfl (XS.iconst X583.here hx rfl (B d5_16) k)) ?_
 refine GoW.st (fun t k => XS.isub X583.here hx rfl (B d5_17) rfl k) ?_
 rw [show ((3 : Int32) - (1 : Int32)) = (2 : Int32) from by decide]
 show GoW p e below s (Q5_22 Z a1c a2c ka2c x1c x2c x3c x4c x5c x6c x7c x8c h0 n0) 0 0 (T583.setTop (mkF m 18 (Sh2 a1c 3 x4c) [(.int 2), (.ref a2c)]))
 refine GoW.sg (mkF m 19 (Sh2 a1c 3 x4c) [(.int 2), (.int 2), (.ref a2c)]) (fun t k => XS.iconst X583.here hx rfl (B d5_18) k) ?_
 refine GoW.st (fun t k => XS.idiv X583.here hx rfl (B d5_19) rfl (by decide) k) ?_
 rw [show ((2 : Int32) / (2 : Int32)) = (1 : Int32) from by decide]
 show GoW p e below s (Q5_22 Z a1c a2c ka2c x1c x2c x3c x4c x5c x6c x7c x8c h0 n0) 0 0 (T583.setTop (mkF m 20 (Sh2 a1c 3 x4c) [(.int 1), (.ref a2c)]))
 obtain ⟨cl584, Ar584, q584, Sz584, Nn584, Hh584, Gg584⟩ := id P1
 have hin584 : ¬ ((1 : Int32) < 0 ∨ cl584.slots.size ≤ ((1 : Int32)).toNatClampNeg) := inb_of Sz584 ⟨by decide, by decide⟩
 refine GoW.sg (mkF m 21 (Sh2 a1c 3 x4c) [(.double x2c)]) (fun t k => X583.daload hx (j := (1 : Int32)) (v := (.double x2c)) (hq_ e583 Ar584.1) (State.isArrayOf_alike hZ.alike Ar584.2.1) Ar584.2.2 hin584 (Hh584.at hin584 rfl) (g := (mkF m 20 (Sh2 a1c 3 x4c) [(.int 1), (.ref a2c)])) rfl rfl (B d5_20) t k) ?_
 refine GoW.sg (mkF m 27 (Sh2 a1c 3 x4c) [(.ref a1c)]) (fun t k => XS.dloadN X583.here hx rfl (B d5_21) rfl (XS.dcmpS X583.here hx rfl (B d5_22) rfl (v := (lcmpW (Int32.toInt64 x6c) (Int32.toInt64 x5c))) (by rw [hx2c, hx4c]; exact dcmpV_w (own_b53 _) (own_b53 _) _) (XS.ifNo X583.here hx rfl (B d5_23) rfl ((if0 _ _).trans (tlt ((lw_gt _ _).mpr u0)).2.2.2) (XS.aloadN X583.here hx rfl (B d5_26) rfl rfl k)))) ?_
 obtain ⟨T585, X585, e585, st585⟩ := getF X583 hx hZ hown (host := "") (Or.inl (ww hw 11 rfl)) Via.refl e583 P0 (g := (mkF m 27 (Sh2 a1c 3 x4c) [(.ref a1c)])) rfl rfl (B d5_27)
 refine GoW.sg (mkF m 30 (Sh2 a1c 3 x4c) [(.ref a2c)]) (fun t k => st585 t k) ?_
 refine GoW.sg (mkF m 32 (Sh2 a1c 3 x4c) [(.ref a1c), (.int 3), (.ref a2c)]) (fun t k => XS.iloadN X585.here hx rfl (B d5_30) rfl (XS.aloadN X585.here hx rfl (B d5_31) rfl rfl k)) ?_
 obtain ⟨T586, X586, e586, st586⟩ := getF X585 hx hZ hown (host := "") (Or.inl (ww hw 11 rfl)) Via.refl e585 P0 (g := (mkF m 32 (Sh2 a1c 3 x4c) [(.ref a1c), (.int 3), (.ref a2c)])) rfl rfl (B d5_32)
 refine GoW.sg (mkF m 35 (Sh2 a1c 3 x4c) [(.ref a2c), (.int 3), (.ref a2c)]) (fun t k => st586 t k) ?_
 refine GoW.sg (mkF m 37 (Sh2 a1c 3 x4c) [(.int 1), (.int 3), (.ref a2c), (.int 3), (.ref a2c)]) (fun t k => XS.iloadN X586.here hx rfl (B d5_35) rfl (XS.iconst X586.here hx rfl (B d5_36) k)) ?_
 refine GoW.st (fun t k => XS.isub X586.here hx rfl (B d5_37) rfl k) ?_
 rw [show ((3 : Int32) - (1 : Int32)) = (2 : Int32) from by decide]
 show GoW p e below s (Q5_22 Z a1c a2c ka2c x1c x2c x3c x4c x5c x6c x7c x8c h0 n0) 0 0 (T586.setTop (mkF m 38 (Sh2 a1c 3 x4c) [(.int 2), (.ref a2c), (.int 3), (.ref a2c)]))
 refine GoW.sg (mkF m 39 (Sh2 a1c 3 x4c) [(.int 2), (.int 2), (.ref a2c), (.int 3), (.ref a2c)]) (fun t k => XS.iconst X586.here hx rfl (B d5_38) k) ?_
 refine GoW.st (fun t k => XS.idiv X586.here hx rfl (B d5_39) rfl (by decide) k) ?_
 rw [show ((2 : Int32) / (2 : Int32)) = (1 : Int32) from by decide]
 show GoW p e below s (Q5_22 Z a1c a2c ka2c x1c x2c x3c x4c x5c x6c x7c x8c h0 n0) 0 0 (T586.setTop (mkF m 40 (Sh2 a1c 3 x4c) [(.int 1), (.ref a2c), (.int 3), (.ref a2c)]))
 obtain ⟨cl587, Ar587, q587, Sz587, Nn587, Hh587, Gg587⟩ := id P1
 have hin587 : ¬ ((1 : Int32) < 0 ∨ cl587.slots.size ≤ ((1 : Int32)).toNatClampNeg) := inb_of Sz587 ⟨by decide, by decide⟩
 refine GoW.sg (mkF m 41 (Sh2 a1c 3 x4c) [(.double x2c), (.int 3), (.ref a2c)]) (fun t k => X586.daload hx (j := (1 : Int32)) (v := (.double x2c)) (hq_ e586 Ar587.1) (State.isArrayOf_alike hZ.alike Ar587.2.1) Ar587.2.2 hin587 (Hh587.at hin587 rfl) (g := (mkF m 40 (Sh2 a1c 3 x4c) [(.int 1), (.ref a2c), (.int 3), (.ref a2c)])) rfl rfl (B d5_40) t k) ?_
 obtain ⟨cl588, Ar588, q588, Sz588, Nn588, Hh588, Gg588⟩ := P1
 have hin588 : ¬ ((3 : Int32) < 0 ∨ cl588.slots.size ≤ ((3 : Int32)).toNatClampNeg) := inb_of Sz588 ⟨by decide, by decide⟩
 obtain ⟨T588, h588, X588, e588, W588, st588⟩ := stD X586 hx hZ e586 Ar588 (j := (3 : Int32)) hin588 (g := (mkF m 41 (Sh2 a1c 3 x4c) [(.double x2c), (.int 3), (.ref a2c)])) rfl rfl (B d5_41)
 have f588_1 := P0.other W588 (Or.inl ne_a1c_a2c)
 have f588_2 := (Keep.refl h0 [a2c]).wr W588 (Or.inl (List.mem_of_getElem? (i := 0) rfl))
 have V588 : Arv Z h588 a2c ka2c .double (4 : Int32) [(.double x1c), (.double x2c), (.double x3c), (.double x2c)] (.double (0 : UInt64)) := Arv.set Ar588 q588 Sz588 Nn588 Hh588 Gg588 rfl W588 3 rfl (Nat.le_of_ble_eq_true rfl)
 have N588 := Fr.snoc X588 N0 g_a2c
 refine GoW.sg (mkF m 42 (Sh2 a1c 3 x4c) []) (fun t k => st588 t k) ?_
 refine GoW.sg (mkF m 44 (Sh2 a1c 3 x4c) [(.int 1), (.int 3)]) (fun t k => XS.iloadN X588.here hx rfl (B d5_42) rfl (XS.iconst X588.here hx rfl (B d5_43) k)) ?_
 refine GoW.st (fun t k => XS.isub X588.here hx rfl (B d5_44) rfl k) ?_
 rw [show ((3 : Int32) - (1 : Int32)) = (2 : Int32) from by decide]
 show GoW p e below s (Q5_22 Z a1c a2c ka2c x1c x2c x3c x4c x5c x6c x7c x8c h0 n0) 0 0 (T588.setTop (mkF m 45 (Sh2 a1c 3 x4c) [(.int 2)]))
 refine GoW.sg (mkF m 46 (Sh2 a1c 3 x4c) [(.int 2), (.int 2)]) (fun t k => XS.iconst X588.here hx rfl (B d5_45) k) ?_
 refine GoW.st (fun t k => XS.idiv X588.here hx rfl (B d5_46) rfl (by decide) k) ?_
 rw [show ((2 : Int32) / (2 : Int32)) = (1 : Int32) from by decide]
 show GoW p e below s (Q5_22 Z a1c a2c ka2c x1c x2c x3c x4c x5c x6c x7c x8c h0 n0) 0 0 (T588.setTop (mkF m 47 (Sh2 a1c 3 x4c) [(.int 1)]))
 refine GoW.sg (mkF m 12 (Sh2 a1c 1 x4c) [(.ref a1c)]) (fun t k => XS.istoreN X588.here hx rfl (B d5_47) rfl (l' := (Sh2 a1c 1 x4c)) rfl (XS.goto X588.here hx rfl (pc0 := 48) (pc' := 7) rfl (B d5_48) (by decide) (by decide) (XS.iloadN X588.here hx rfl (B d5_7) rfl (XS.ifNo X588.here hx rfl (B d5_8) rfl (by decide) (XS.aloadN X588.here hx rfl (B d5_11) rfl rfl k))))) ?_
 obtain ⟨T589, X589, e589, st589⟩ := getF X588 hx hZ hown (host := "") (Or.inl (ww hw 11 rfl)) Via.refl e588 f588_1 (g := (mkF m 12 (Sh2 a1c 1 x4c) [(.ref a1c)])) rfl rfl (B d5_12)
 refine GoW.sg (mkF m 15 (Sh2 a1c 1 x4c) [(.ref a2c)]) (fun t k => st589 t k) ?_
 refine GoW.sg (mkF m 17 (Sh2 a1c 1 x4c) [(.int 1), (.int 1), (.ref a2c)]) (fun t k => XS.iloadN X589.here hx rfl (B d5_15) rfl (XS.iconst X589.here hx rfl (B d5_16) k)) ?_
 refine GoW.st (fun t k => XS.isub X589.here hx rfl (B d5_17) rfl k) ?_
 rw [show ((1 : Int32) - (1 : Int32)) = (0 : Int32) from by decide]
 show GoW p e below s (Q5_22 Z a1c a2c ka2c x1c x2c x3c x4c x5c x6c x7c x8c h0 n0) 0 0 (T589.setTop (mkF m 18 (Sh2 a1c 1 x4c) [(.int 0), (.ref a2c)]))
 refine GoW.sg (mkF m 19 (Sh2 a1c 1 x4c) [(.int 2), (.int 0), (.ref a2c)]) (fun t k => XS.iconst X589.here hx rfl (B d5_18) k) ?_
 refine GoW.st (fun t k => XS.idiv X589.here hx rfl (B d5_19) rfl (by decide) k) ?_
 rw [show ((0 : Int32) / (2 : Int32)) = (0 : Int32) from by decide]
 show GoW p e below s (Q5_22 Z a1c a2c ka2c x1c x2c x3c x4c x5c x6c x7c x8c h0 n0) 0 0 (T589.setTop (mkF m 20 (Sh2 a1c 1 x4c) [(.int 0), (.ref a2c)]))
 obtain ⟨cl590, Ar590, q590, Sz590, Nn590, Hh590, Gg590⟩ := id V588
 have hin590 : ¬ ((0 : Int32) < 0 ∨ cl590.slots.size ≤ ((0 : Int32)).toNatClampNeg) := inb_of Sz590 ⟨by decide, by decide⟩
 refine GoW.sg (mkF m 21 (Sh2 a1c 1 x4c) [(.double x1c)]) (fun t k => X589.daload hx (j := (0 : Int32)) (v := (.double x1c)) (hq_ e589 Ar590.1) (State.isArrayOf_alike hZ.alike Ar590.2.1) Ar590.2.2 hin590 (Hh590.at hin590 rfl) (g := (mkF m 20 (Sh2 a1c 1 x4c) [(.int 0), (.ref a2c)])) rfl rfl (B d5_20) t k) ?_
 refine GoW.sg (mkF m 27 (Sh2 a1c 1 x4c) [(.ref a1c)]) (fun t k => XS.dloadN X589.here hx rfl (B d5_21) rfl (XS.dcmpS X589.here hx rfl (B d5_22) rfl (v := (lcmpW (Int32.toInt64 x7c) (Int32.toInt64 x5c))) (by rw [hx1c, hx4c]; exact dcmpV_w (own_b53 _) (own_b53 _) _) (XS.ifNo X589.here hx rfl (B d5_23) rfl ((if0 _ _).trans (tlt ((lw_gt _ _).mpr u1)).2.2.2) (XS.aloadN X589.here hx rfl (B d5_26) rfl rfl k)))) ?_
 obtain ⟨T591, X591, e591, st591⟩ := getF X589 hx hZ hown (host := "") (Or.inl (ww hw 11 rfl)) Via.refl e589 f588_1 (g := (mkF m 27 (Sh2 a1c 1 x4c) [(.ref a1c)])) rfl rfl (B d5_27)
 refine GoW.sg (mkF m 30 (Sh2 a1c 1 x4c) [(.ref a2c)]) (fun t k => st591 t k) ?_
 refine GoW.sg (mkF m 32 (Sh2 a1c 1 x4c) [(.ref a1c), (.int 1), (.ref a2c)]) (fun t k => XS.iloadN X591.here hx rfl (B d5_30) rfl (XS.aloadN X591.here hx rfl (B d5_31) rfl rfl k)) ?_
 obtain ⟨T592, X592, e592, st592⟩ := getF X591 hx hZ hown (host := "") (Or.inl (ww hw 11 rfl)) Via.refl e591 f588_1 (g := (mkF m 32 (Sh2 a1c 1 x4c) [(.ref a1c), (.int 1), (.ref a2c)])) rfl rfl (B d5_32)
 refine GoW.sg (mkF m 35 (Sh2 a1c 1 x4c) [(.ref a2c), (.int 1), (.ref a2c)]) (fun t k => st592 t k) ?_
 refine GoW.sg (mkF m 37 (Sh2 a1c 1 x4c) [(.int 1), (.int 1), (.ref a2c), (.int 1), (.ref a2c)]) (fun t k => XS.iloadN X592.here hx rfl (B d5_35) rfl (XS.iconst X592.here hx rfl (B d5_36) k)) ?_
 refine GoW.st (fun t k => XS.isub X592.here hx rfl (B d5_37) rfl k) ?_
 rw [show ((1 : Int32) - (1 : Int32)) = (0 : Int32) from by decide]
 show GoW p e below s (Q5_22 Z a1c a2c ka2c x1c x2c x3c x4c x5c x6c x7c x8c h0 n0) 0 0 (T592.setTop (mkF m 38 (Sh2 a1c 1 x4c) [(.int 0), (.ref a2c), (.int 1), (.ref a2c)]))
 refine GoW.sg (mkF m 39 (Sh2 a1c 1 x4c) [(.int 2), (.int 0), (.ref a2c), (.int 1), (.ref a2c)]) (fun t k => XS.iconst X592.here hx rfl (B d5_38) k) ?_
 refine GoW.st (fun t k => XS.idiv X592.here hx rfl (B d5_39) rfl (by decide) k) ?_
 rw [show ((0 : Int32) / (2 : Int32)) = (0 : Int32) from by decide]
 show GoW p e below s (Q5_22 Z a1c a2c ka2c x1c x2c x3c x4c x5c x6c x7c x8c h0 n0) 0 0 (T592.setTop (mkF m 40 (Sh2 a1c 1 x4c) [(.int 0), (.ref a2c), (.int 1), (.ref a2c)]))
 obtain ⟨cl593, Ar593, q593, Sz593, Nn593, Hh593, Gg593⟩ := id V588
 have hin593 : ¬ ((0 : Int32) < 0 ∨ cl593.slots.size ≤ ((0 : Int32)).toNatClampNeg) := inb_of Sz593 ⟨by decide, by decide⟩
 refine GoW.sg (mkF m 41 (Sh2 a1c 1 x4c) [(.double x1c), (.int 1), (.ref a2c)]) (fun t k => X592.daload hx (j := (0 : Int32)) (v := (.double x1c)) (hq_ e592 Ar593.1) (State.isArrayOf_alike hZ.alike Ar593.2.1) Ar593.2.2 hin593 (Hh593.at hin593 rfl) (g := (mkF m 40 (Sh2 a1c 1 x4c) [(.int 0), (.ref a2c), (.int 1), (.ref a2c)])) rfl rfl (B d5_40) t k) ?_
 obtain ⟨cl594, Ar594, q594, Sz594, Nn594, Hh594, Gg594⟩ := V588
 have hin594 : ¬ ((1 : Int32) < 0 ∨ cl594.slots.size ≤ ((1 : Int32)).toNatClampNeg) := inb_of Sz594 ⟨by decide, by decide⟩
 obtain ⟨T594, h594, X594, e594, W594, st594⟩ := stD X592 hx hZ e592 Ar594 (j := (1 : Int32)) hin594 (g := (mkF m 41 (Sh2 a1c 1 x4c) [(.double x1c), (.int 1), (.ref a2c)])) rfl rfl (B d5_41)
 have f594_3 := f588_1.other W594 (Or.inl ne_a1c_a2c)
 have f594_4 := f588_2.wr W594 (Or.inl (List.mem_of_getElem? (i := 0) rfl))
 have V594 : Arv Z h594 a2c ka2c .double (4 : Int32) [(.double x1c), (.double x1c), (.double x3c), (.double x2c)] (.double (0 : UInt64)) := Arv.set Ar594 q594 Sz594 Nn594 Hh594 Gg594 rfl W594 1 rfl (Nat.le_of_ble_eq_true rfl)
 have N594 := Fr.snoc X594 N588 g_a2c
 refine GoW.sg (mkF m 42 (Sh2 a1c 1 x4c) []) (fun t k => st594 t k) ?_
 refine GoW.sg (mkF m 44 (Sh2 a1c 1 x4c) [(.int 1), (.int 1)]) (fun t k => XS.iloadN X594.here hx rfl (B d5_42) rfl (XS.iconst X594.here hx rfl (B d5_43) k)) ?_
 refine GoW.st (fun t k => XS.isub X594.here hx rfl (B d5_44) rfl k) ?_
 rw [show ((1 : Int32) - (1 : Int32)) = (0 : Int32) from by decide]
 show GoW p e below s (Q5_22 Z a1c a2c ka2c x1c x2c x3c x4c x5c x6c x7c x8c h0 n0) 0 0 (T594.setTop (mkF m 45 (Sh2 a1c 1 x4c) [(.int 0)]))
 refine GoW.sg (mkF m 46 (Sh2 a1c 1 x4c) [(.int 2), (.int 0)]) (fun t k => XS.iconst X594.here hx rfl (B d5_45) k) ?_
 refine GoW.st (fun t k => XS.idiv X594.here hx rfl (B d5_46) rfl (by decide) k) ?_
 rw [show ((0 : Int32) / (2 : Int32)) = (0 : Int32) from by decide]
 show GoW p e below s (Q5_22 Z a1c a2c ka2c x1c x2c x3c x4c x5c x6c x7c x8c h0 n0) 0 0 (T594.setTop (mkF m 47 (Sh2 a1c 1 x4c) [(.int 0)]))
 refine GoW.sg (mkF m 52 (Sh2 a1c 0 x4c) [(.ref a1c)]) (fun t k => XS.istoreN X594.here hx rfl (B d5_47) rfl (l' := (Sh2 a1c 0 x4c)) rfl (XS.goto X594.here hx rfl (pc0 := 48) (pc' := 7) rfl (B d5_48) (by decide) (by decide) (XS.iloadN X594.here hx rfl (B d5_7) rfl (XS.ifYes X594.here hx rfl (pc0 := 8) (pc' := 51) rfl (B d5_8) rfl (by decide) (by decide) (by decide) (XS.aloadN X594.here hx rfl (B d5_51) rfl rfl k))))) ?_
 obtain ⟨T595, X595, e595, st595⟩ := getF X594 hx hZ hown (host := "") (Or.inl (ww hw 11 rfl)) Via.refl e594 f594_3 (g := (mkF m 52 (Sh2 a1c 0 x4c) [(.ref a1c)])) rfl rfl (B d5_52)
 refine GoW.sg (mkF m 55 (Sh2 a1c 0 x4c) [(.ref a2c)]) (fun t k => st595 t k) ?_
 refine GoW.sg (mkF m 57 (Sh2 a1c 0 x4c) [(.double x4c), (.int 0), (.ref a2c)]) (fun t k => XS.iloadN X595.here hx rfl (B d5_55) rfl (XS.dloadN X595.here hx rfl (B d5_56) rfl k)) ?_
 obtain ⟨cl596, Ar596, q596, Sz596, Nn596, Hh596, Gg596⟩ := V594
 have hin596 : ¬ ((0 : Int32) < 0 ∨ cl596.slots.size ≤ ((0 : Int32)).toNatClampNeg) := inb_of Sz596 ⟨by decide, by decide⟩
 obtain ⟨T596, h596, X596, e596, W596, st596⟩ := stD X595 hx hZ e595 Ar596 (j := (0 : Int32)) hin596 (g := (mkF m 57 (Sh2 a1c 0 x4c) [(.double x4c), (.int 0), (.ref a2c)])) rfl rfl (B d5_57)
 have f596_6 := f594_4.wr W596 (Or.inl (List.mem_of_getElem? (i := 0) rfl))
 have V596 : Arv Z h596 a2c ka2c .double (4 : Int32) [(.double x4c), (.double x1c), (.double x3c), (.double x2c)] (.double (0 : UInt64)) := Arv.set Ar596 q596 Sz596 Nn596 Hh596 Gg596 rfl W596 0 rfl (Nat.le_of_ble_eq_true rfl)
 have N596 := Fr.snoc X596 N594 g_a2c
 refine GoW.sg (mkF m 58 (Sh2 a1c 0 x4c) []) (fun t k => st596 t k) ?_
 refine GoW.retV X596 hx Bd.returns (B d5_58) Bd.notSynchronized ?_ (by decide) (by decide)
 rw [e596]
 exact ⟨rfl, N596, f596_6, V596⟩
def Q5_23 (Z : State) (a1c a2c : Addr) (ka2c : ClassId) (x1c x2c : UInt64) (x3c x4c : UInt64) (x5c x6c : Int32) (x7c x8c : Int32) (h0 : Heap) (n0 : Nat) (v : Option Value) (h : Heap) (L : List Loc) : Prop := v = none ∧ Fr n0 L ∧ (Keep h0 h [a2c]) ∧ (Arv Z h a2c ka2c .double 4 [(.double x1c), (.double x4c), (.double x3c), (.double x2c)] (.double 0))
theorem rm5_23 (l : Launch) (Z : State) (a0 : Array Value) (hw : HW a0 Z) (a1c a2c : Addr) (ka2c : ClassId) (x1c x2c : UInt64) (x3c x4c : UInt64) (x5c x6c : Int32) (x7c x8c : Int32) (h0 : Heap) (n0 : Nat) (P0 : Fld Z h0 a1c HSn "heap" "[D" (.ref a2c)) (P1 : Arv Z h0 a2c ka2c .double 4 [(.double x1c), (.double x2c), (.double x3c), (.double x4c)] (.double 0)) (g_a2c : n0 ≤ a2c) (ne_a1c_a2c : a1c ≠ a2c) (u0 : (Int32.toInt64 x5c) < (Int32.toInt64 x6c)) (u1 : ¬ ((Int32.toInt64 x5c) < (Int32.toInt64 x7c))) (hx1c : x1c = FP.l2d (Int32.toInt64 x7c)) (hx2c : x2c = FP.l2d (Int32.toInt64 x6c)) (hx3c : x3c = FP.l2d (Int32.toInt64 x8c)) (hx4c : x4c = FP.l2d (Int32.toInt64 x5c)) :
  MM l Z Y5 prog_43_method_4_code 4 none 0 0 0 0 #[(.ref a1c), (.int 3)] h0 (Q5_23 Z a1c a2c ka2c x1c x2c x3c x4c x5c x6c x7c x8c h0 n0) := by
 refine own_start (fun m => (mkF m 0 (Sh1 a1c 3) [])) (plainFor_of_name pn_com_example_nearterm_nearterm_retrieval_HighestScores) (by simp [entryFrame, mkF, argsToLocals, Value.category]) n0 ?_
 intro p e s m below meth c s₁ Bd hx B hml hZ hown hnm X0 e0 N0
 refine GoW.sg (mkF m 1 (Sh1 a1c 3) [(.ref a1c)]) (fun t k => XS.aloadN X0.here hx rfl (B d5_0) rfl rfl k) ?_
 obtain ⟨T610, X610, e610, st610⟩ := getF X0 hx hZ hown (host := "") (Or.inl (ww hw 11 rfl)) Via.refl e0 P0 (g := (mkF m 1 (Sh1 a1c 3) [(.ref a1c)])) rfl rfl (B d5_1)
 refine GoW.sg (mkF m 4 (Sh1 a1c 3) [(.ref a2c)]) (fun t k => st610 t k) ?_
 refine GoW.sg (mkF m 5 (Sh1 a1c 3) [(.int 3), (.ref a2c)]) (fun t k => XS.iloadN X610.here hx rfl (B d5_4) rfl k) ?_
 obtain ⟨cl611, Ar611, q611, Sz611, Nn611, Hh611, Gg611⟩ := id P1
 have hin611 : ¬ ((3 : Int32) < 0 ∨ cl611.slots.size ≤ ((3 : Int32)).toNatClampNeg) := inb_of Sz611 ⟨by decide, by decide⟩
 refine GoW.sg (mkF m 6 (Sh1 a1c 3) [(.double x4c)]) (fun t k => X610.daload hx (j := (3 : Int32)) (v := (.double x4c)) (hq_ e610 Ar611.1) (State.isArrayOf_alike hZ.alike Ar611.2.1) Ar611.2.2 hin611 (Hh611.at hin611 rfl) (g := (mkF m 5 (Sh1 a1c 3) [(.int 3), (.ref a2c)])) rfl rfl (B d5_5) t k) ?_
 refine GoW.sg (mkF m 12 (Sh2 a1c 3 x4c) [(.ref a1c)]) (fun t k => XS.dstoreN X610.here hx rfl (B d5_6) rfl (l' := (Sh2 a1c 3 x4c)) rfl (XS.iloadN X610.here hx rfl (B d5_7) rfl (XS.ifNo X610.here hx rfl (B d5_8) rfl (by decide) (XS.aloadN X610.here hx rfl (B d5_11) rfl rfl k)))) ?_
 obtain ⟨T612, X612, e612, st612⟩ := getF X610 hx hZ hown (host := "") (Or.inl (ww hw 11 rfl)) Via.refl e610 P0 (g := (mkF m 12 (Sh2 a1c 3 x4c) [(.ref a1c)])) rfl rfl (B d5_12)
 refine GoW.sg (mkF m 15 (Sh2 a1c 3 x4c) [(.ref a2c)]) (fun t k => st612 t k) ?_
 refine GoW.sg (mkF m 17 (Sh2 a1c 3 x4c) [(.int 1), (.int 3), (.ref a2c)]) (fun t k => XS.iloadN X612.here hx rfl (B d5_15) rfl (XS.iconst X612.here hx rfl (B d5_16) k)) ?_
 refine GoW.st (fun t k => XS.isub X612.here hx rfl (B d5_17) rfl k) ?_
 rw [show ((3 : Int32) - (1 : Int32)) = (2 : Int32) from by decide]
 show GoW p e below s (Q5_23 Z a1c a2c ka2c x1c x2c x3c x4c x5c x6c x7c x8c h0 n0) 0 0 (T612.setTop (mkF m 18 (Sh2 a1c 3 x4c) [(.int 2), (.ref a2c)]))
 refine GoW.sg (mkF m 19 (Sh2 a1c 3 x4c) [(.int 2), (.int 2), (.ref a2c)]) (fun t k => XS.iconst X612.here hx rfl (B d5_18) k) ?_
 refine GoW.st (fun t k => XS.idiv X612.here hx rfl (B d5_19) rfl (by decide) k) ?_
 rw [show ((2 : Int32) / (2 : Int32)) = (1 : Int32) from by decide]
 show GoW p e below s (Q5_23 Z a1c a2c ka2c x1c x2c x3c x4c x5c x6c x7c x8c h0 n0) 0 0 (T612.setTop (mkF m 20 (Sh2 a1c 3 x4c) [(.int 1), (.ref a2c)]))
 obtain ⟨cl613, Ar613, q613, Sz613, Nn613, Hh613, Gg613⟩ := id P1
 have hin613 : ¬ ((1 : Int32) < 0 ∨ cl613.slots.size ≤ ((1 : Int32)).toNatClampNeg) := inb_of Sz613 ⟨by decide, by decide⟩
 refine GoW.sg (mkF m 21 (Sh2 a1c 3 x4c) [(.double x2c)]) (fun t k => X612.daload hx (j := (1 : Int32)) (v := (.double x2c)) (hq_ e612 Ar613.1) (State.isArrayOf_alike hZ.alike Ar613.2.1) Ar613.2.2 hin613 (Hh613.at hin613 rfl) (g := (mkF m 20 (Sh2 a1c 3 x4c) [(.int 1), (.ref a2c)])) rfl rfl (B d5_20) t k) ?_
 refine GoW.sg (mkF m 27 (Sh2 a1c 3 x4c) [(.ref a1c)]) (fun t k => XS.dloadN X612.here hx rfl (B d5_21) rfl (XS.dcmpS X612.here hx rfl (B d5_22) rfl (v := (lcmpW (Int32.toInt64 x6c) (Int32.toInt64 x5c))) (by rw [hx2c, hx4c]; exact dcmpV_w (own_b53 _) (own_b53 _) _) (XS.ifNo X612.here hx rfl (B d5_23) rfl ((if0 _ _).trans (tlt ((lw_gt _ _).mpr u0)).2.2.2) (XS.aloadN X612.here hx rfl (B d5_26) rfl rfl k)))) ?_
 obtain ⟨T614, X614, e614, st614⟩ := getF X612 hx hZ hown (host := "") (Or.inl (ww hw 11 rfl)) Via.refl e612 P0 (g := (mkF m 27 (Sh2 a1c 3 x4c) [(.ref a1c)])) rfl rfl (B d5_27)
 refine GoW.sg (mkF m 30 (Sh2 a1c 3 x4c) [(.ref a2c)]) (fun t k => st614 t k) ?_
 refine GoW.sg (mkF m 32 (Sh2 a1c 3 x4c) [(.ref a1c), (.int 3), (.ref a2c)]) (fun t k => XS.iloadN X614.here hx rfl (B d5_30) rfl (XS.aloadN X614.here hx rfl (B d5_31) rfl rfl k)) ?_
 obtain ⟨T615, X615, e615, st615⟩ := getF X614 hx hZ hown (host := "") (Or.inl (ww hw 11 rfl)) Via.refl e614 P0 (g := (mkF m 32 (Sh2 a1c 3 x4c) [(.ref a1c), (.int 3), (.ref a2c)])) rfl rfl (B d5_32)
 refine GoW.sg (mkF m 35 (Sh2 a1c 3 x4c) [(.ref a2c), (.int 3), (.ref a2c)]) (fun t k => st615 t k) ?_
 refine GoW.sg (mkF m 37 (Sh2 a1c 3 x4c) [(.int 1), (.int 3), (.ref a2c), (.int 3), (.ref a2c)]) (fun t k => XS.iloadN X615.here hx rfl (B d5_35) rfl (XS.iconst X615.here hx rfl (B d5_36) k)) ?_
 refine GoW.st (fun t k => XS.isub X615.here hx rfl (B d5_37) rfl k) ?_
 rw [show ((3 : Int32) - (1 : Int32)) = (2 : Int32) from by decide]
 show GoW p e below s (Q5_23 Z a1c a2c ka2c x1c x2c x3c x4c x5c x6c x7c x8c h0 n0) 0 0 (T615.setTop (mkF m 38 (Sh2 a1c 3 x4c) [(.int 2), (.ref a2c), (.int 3), (.ref a2c)]))
 refine GoW.sg (mkF m 39 (Sh2 a1c 3 x4c) [(.int 2), (.int 2), (.ref a2c), (.int 3), (.ref a2c)]) (fun t k => XS.iconst X615.here hx rfl (B d5_38) k) ?_
 refine GoW.st (fun t k => XS.idiv X615.here hx rfl (B d5_39) rfl (by decide) k) ?_
 rw [show ((2 : Int32) / (2 : Int32)) = (1 : Int32) from by decide]
 show GoW p e below s (Q5_23 Z a1c a2c ka2c x1c x2c x3c x4c x5c x6c x7c x8c h0 n0) 0 0 (T615.setTop (mkF m 40 (Sh2 a1c 3 x4c) [(.int 1), (.ref a2c), (.int 3), (.ref a2c)]))
 obtain ⟨cl616, Ar616, q616, Sz616, Nn616, Hh616, Gg616⟩ := id P1
 have hin616 : ¬ ((1 : Int32) < 0 ∨ cl616.slots.size ≤ ((1 : Int32)).toNatClampNeg) := inb_of Sz616 ⟨by decide, by decide⟩
 refine GoW.sg (mkF m 41 (Sh2 a1c 3 x4c) [(.double x2c), (.int 3), (.ref a2c)]) (fun t k => X615.daload hx (j := (1 : Int32)) (v := (.double x2c)) (hq_ e615 Ar616.1) (State.isArrayOf_alike hZ.alike Ar616.2.1) Ar616.2.2 hin616 (Hh616.at hin616 rfl) (g := (mkF m 40 (Sh2 a1c 3 x4c) [(.int 1), (.ref a2c), (.int 3), (.ref a2c)])) rfl rfl (B d5_40) t k) ?_
 obtain ⟨cl617, Ar617, q617, Sz617, Nn617, Hh617, Gg617⟩ := P1
 have hin617 : ¬ ((3 : Int32) < 0 ∨ cl617.slots.size ≤ ((3 : Int32)).toNatClampNeg) := inb_of Sz617 ⟨by decide, by decide⟩
 obtain ⟨T617, h617, X617, e617, W617, st617⟩ := stD X615 hx hZ e615 Ar617 (j := (3 : Int32)) hin617 (g := (mkF m 41 (Sh2 a1c 3 x4c) [(.double x2c), (.int 3), (.ref a2c)])) rfl rfl (B d5_41)
 have f617_1 := P0.other W617 (Or.inl ne_a1c_a2c)
 have f617_2 := (Keep.refl h0 [a2c]).wr W617 (Or.inl (List.mem_of_getElem? (i := 0) rfl))
 have V617 : Arv Z h617 a2c ka2c .double (4 : Int32) [(.double x1c), (.double x2c), (.double x3c), (.double x2c)] (.double (0 : UInt64)) := Arv.set Ar617 q617 Sz617 Nn617 Hh617 Gg617 rfl W617 3 rfl (Nat.le_of_ble_eq_true rfl)
 have N617 := Fr.snoc X617 N0 g_a2c
 refine GoW.sg (mkF m 42 (Sh2 a1c 3 x4c) []) (fun t k => st617 t k) ?_
 refine GoW.sg (mkF m 44 (Sh2 a1c 3 x4c) [(.int 1), (.int 3)]) (fun t k => XS.iloadN X617.here hx rfl (B d5_42) rfl (XS.iconst X617.here hx rfl (B d5_43) k)) ?_
 refine GoW.st (fun t k => XS.isub X617.here hx rfl (B d5_44) rfl k) ?_
 rw [show ((3 : Int32) - (1 : Int32)) = (2 : Int32) from by decide]
 show GoW p e below s (Q5_23 Z a1c a2c ka2c x1c x2c x3c x4c x5c x6c x7c x8c h0 n0) 0 0 (T617.setTop (mkF m 45 (Sh2 a1c 3 x4c) [(.int 2)]))
 refine GoW.sg (mkF m 46 (Sh2 a1c 3 x4c) [(.int 2), (.int 2)]) (fun t k => XS.iconst X617.here hx rfl (B d5_45) k) ?_
 refine GoW.st (fun t k => XS.idiv X617.here hx rfl (B d5_46) rfl (by decide) k) ?_
 rw [show ((2 : Int32) / (2 : Int32)) = (1 : Int32) from by decide]
 show GoW p e below s (Q5_23 Z a1c a2c ka2c x1c x2c x3c x4c x5c x6c x7c x8c h0 n0) 0 0 (T617.setTop (mkF m 47 (Sh2 a1c 3 x4c) [(.int 1)]))
 refine GoW.sg (mkF m 12 (Sh2 a1c 1 x4c) [(.ref a1c)]) (fun t k => XS.istoreN X617.here hx rfl (B d5_47) rfl (l' := (Sh2 a1c 1 x4c)) rfl (XS.goto X617.here hx rfl (pc0 := 48) (pc' := 7) rfl (B d5_48) (by decide) (by decide) (XS.iloadN X617.here hx rfl (B d5_7) rfl (XS.ifNo X617.here hx rfl (B d5_8) rfl (by decide) (XS.aloadN X617.here hx rfl (B d5_11) rfl rfl k))))) ?_
 obtain ⟨T618, X618, e618, st618⟩ := getF X617 hx hZ hown (host := "") (Or.inl (ww hw 11 rfl)) Via.refl e617 f617_1 (g := (mkF m 12 (Sh2 a1c 1 x4c) [(.ref a1c)])) rfl rfl (B d5_12)
 refine GoW.sg (mkF m 15 (Sh2 a1c 1 x4c) [(.ref a2c)]) (fun t k => st618 t k) ?_
 refine GoW.sg (mkF m 17 (Sh2 a1c 1 x4c) [(.int 1), (.int 1), (.ref a2c)]) (fun t k => XS.iloadN X618.here hx rfl (B d5_15) rfl (XS.iconst X618.here hx rfl (B d5_16) k)) ?_
 refine GoW.st (fun t k => XS.isub X618.here hx rfl (B d5_17) rfl k) ?_
 rw [show ((1 : Int32) - (1 : Int32)) = (0 : Int32) from by decide]
 show GoW p e below s (Q5_23 Z a1c a2c ka2c x1c x2c x3c x4c x5c x6c x7c x8c h0 n0) 0 0 (T618.setTop (mkF m 18 (Sh2 a1c 1 x4c) [(.int 0), (.ref a2c)]))
 refine GoW.sg (mkF m 19 (Sh2 a1c 1 x4c) [(.int 2), (.int 0), (.ref a2c)]) (fun t k => XS.iconst X618.here hx rfl (B d5_18) k) ?_
 refine GoW.st (fun t k => XS.idiv X618.here hx rfl (B d5_19) rfl (by decide) k) ?_
 rw [show ((0 : Int32) / (2 : Int32)) = (0 : Int32) from by decide]
 show GoW p e below s (Q5_23 Z a1c a2c ka2c x1c x2c x3c x4c x5c x6c x7c x8c h0 n0) 0 0 (T618.setTop (mkF m 20 (Sh2 a1c 1 x4c) [(.int 0), (.ref a2c)]))
 obtain ⟨cl619, Ar619, q619, Sz619, Nn619, Hh619, Gg619⟩ := id V617
 have hin619 : ¬ ((0 : Int32) < 0 ∨ cl619.slots.size ≤ ((0 : Int32)).toNatClampNeg) := inb_of Sz619 ⟨by decide, by decide⟩
 refine GoW.sg (mkF m 21 (Sh2 a1c 1 x4c) [(.double x1c)]) (fun t k => X618.daload hx (j := (0 : Int32)) (v := (.double x1c)) (hq_ e618 Ar619.1) (State.isArrayOf_alike hZ.alike Ar619.2.1) Ar619.2.2 hin619 (Hh619.at hin619 rfl) (g := (mkF m 20 (Sh2 a1c 1 x4c) [(.int 0), (.ref a2c)])) rfl rfl (B d5_20) t k) ?_
 refine GoW.sg (mkF m 52 (Sh2 a1c 1 x4c) [(.ref a1c)]) (fun t k => XS.dloadN X618.here hx rfl (B d5_21) rfl (XS.dcmpS X618.here hx rfl (B d5_22) rfl (v := (lcmpW (Int32.toInt64 x7c) (Int32.toInt64 x5c))) (by rw [hx1c, hx4c]; exact dcmpV_w (own_b53 _) (own_b53 _) _) (XS.ifYes X618.here hx rfl (pc0 := 23) (pc' := 51) rfl (B d5_23) rfl ((if0 _ _).trans (flt (mt (lw_gt _ _).mp u1)).2.2.2) (by decide) (by decide) (XS.aloadN X618.here hx rfl (B d5_51) rfl rfl k)))) ?_
 obtain ⟨T620, X620, e620, st620⟩ := getF X618 hx hZ hown (host := "") (Or.inl (ww hw 11 rfl)) Via.refl e618 f617_1 (g := (mkF m 52 (Sh2 a1c 1 x4c) [(.ref a1c)])) rfl rfl (B d5_52)
 refine GoW.sg (mkF m 55 (Sh2 a1c 1 x4c) [(.ref a2c)]) (fun t k => st620 t k) ?_
 refine GoW.sg (mkF m 57 (Sh2 a1c 1 x4c) [(.double x4c), (.int 1), (.ref a2c)]) (fun t k => XS.iloadN X620.here hx rfl (B d5_55) rfl (XS.dloadN X620.here hx rfl (B d5_56) rfl k)) ?_
 obtain ⟨cl621, Ar621, q621, Sz621, Nn621, Hh621, Gg621⟩ := V617
 have hin621 : ¬ ((1 : Int32) < 0 ∨ cl621.slots.size ≤ ((1 : Int32)).toNatClampNeg) := inb_of Sz621 ⟨by decide, by decide⟩
 obtain ⟨T621, h621, X621, e621, W621, st621⟩ := stD X620 hx hZ e620 Ar621 (j := (1 : Int32)) hin621 (g := (mkF m 57 (Sh2 a1c 1 x4c) [(.double x4c), (.int 1), (.ref a2c)])) rfl rfl (B d5_57)
 have f621_4 := f617_2.wr W621 (Or.inl (List.mem_of_getElem? (i := 0) rfl))
 have V621 : Arv Z h621 a2c ka2c .double (4 : Int32) [(.double x1c), (.double x4c), (.double x3c), (.double x2c)] (.double (0 : UInt64)) := Arv.set Ar621 q621 Sz621 Nn621 Hh621 Gg621 rfl W621 1 rfl (Nat.le_of_ble_eq_true rfl)
 have N621 := Fr.snoc X621 N617 g_a2c
 refine GoW.sg (mkF m 58 (Sh2 a1c 1 x4c) []) (fun t k => st621 t k) ?_
 refine GoW.retV X621 hx Bd.returns (B d5_58) Bd.notSynchronized ?_ (by decide) (by decide)
 rw [e621]
 exact ⟨rfl, N621, f621_4, V621⟩
def Q5_24 (Z : State) (a1c a2c : Addr) (ka2c : ClassId) (x1c x2c : UInt64) (x3c x4c : UInt64) (x5c x6c : Int32) (x7c x8c : Int32) (h0 : Heap) (n0 : Nat) (v : Option Value) (h : Heap) (L : List Loc) : Prop := v = none ∧ Fr n0 L ∧ (Keep h0 h [a2c]) ∧ (Arv Z h a2c ka2c .double 4 [(.double x1c), (.double x2c), (.double x3c), (.double x4c)] (.double 0))
theorem rm5_24 (l : Launch) (Z : State) (a0 : Array Value) (hw : HW a0 Z) (a1c a2c : Addr) (ka2c : ClassId) (x1c x2c : UInt64) (x3c x4c : UInt64) (x5c x6c : Int32) (x7c x8c : Int32) (h0 : Heap) (n0 : Nat) (P0 : Fld Z h0 a1c HSn "heap" "[D" (.ref a2c)) (P1 : Arv Z h0 a2c ka2c .double 4 [(.double x1c), (.double x2c), (.double x3c), (.double x4c)] (.double 0)) (g_a2c : n0 ≤ a2c) (u0 : ¬ ((Int32.toInt64 x5c) < (Int32.toInt64 x6c))) (hx1c : x1c = FP.l2d (Int32.toInt64 x7c)) (hx2c : x2c = FP.l2d (Int32.toInt64 x6c)) (hx3c : x3c = FP.l2d (Int32.toInt64 x8c)) (hx4c : x4c = FP.l2d (Int32.toInt64 x5c)) :
  MM l Z Y5 prog_43_method_4_code 4 none 0 0 0 0 #[(.ref a1c), (.int 3)] h0 (Q5_24 Z a1c a2c ka2c x1c x2c x3c x4c x5c x6c x7c x8c h0 n0) := by
 refine own_start (fun m => (mkF m 0 (Sh1 a1c 3) [])) (plainFor_of_name pn_com_example_nearterm_nearterm_retrieval_HighestScores) (by simp [entryFrame, mkF, argsToLocals, Value.category]) n0 ?_
 intro p e s m below meth c s₁ Bd hx B hml hZ hown hnm X0 e0 N0
 refine GoW.sg (mkF m 1 (Sh1 a1c 3) [(.ref a1c)]) (fun t k => XS.aloadN X0.here hx rfl (B d5_0) rfl rfl k) ?_
 obtain ⟨T629, X629, e629, st629⟩ := getF X0 hx hZ hown (host := "") (Or.inl (ww hw 11 rfl)) Via.refl e0 P0 (g := (mkF m 1 (Sh1 a1c 3) [(.ref a1c)])) rfl rfl (B d5_1)
 refine GoW.sg (mkF m 4 (Sh1 a1c 3) [(.ref a2c)]) (fun t k => st629 t k) ?_
 refine GoW.sg (mkF m 5 (Sh1 a1c 3) [(.int 3), (.ref a2c)]) (fun t k => XS.iloadN X629.here hx rfl (B d5_4) rfl k) ?_
 obtain ⟨cl630, Ar630, q630, Sz630, Nn630, Hh630, Gg630⟩ := id P1
 have hin630 : ¬ ((3 : Int32) < 0 ∨ cl630.slots.size ≤ ((3 : Int32)).toNatClampNeg) := inb_of Sz630 ⟨by decide, by decide⟩
 refine GoW.sg (mkF m 6 (Sh1 a1c 3) [(.double x4c)]) (fun t k => X629.daload hx (j := (3 : Int32)) (v := (.double x4c)) (hq_ e629 Ar630.1) (State.isArrayOf_alike hZ.alike Ar630.2.1) Ar630.2.2 hin630 (Hh630.at hin630 rfl) (g := (mkF m 5 (Sh1 a1c 3) [(.int 3), (.ref a2c)])) rfl rfl (B d5_5) t k) ?_
 refine GoW.sg (mkF m 12 (Sh2 a1c 3 x4c) [(.ref a1c)]) (fun t k => XS.dstoreN X629.here hx rfl (B d5_6) rfl (l' := (Sh2 a1c 3 x4c)) rfl (XS.iloadN X629.here hx rfl (B d5_7) rfl (XS.ifNo X629.here hx rfl (B d5_8) rfl (by decide) (XS.aloadN X629.here hx rfl (B d5_11) rfl rfl k)))) ?_
 obtain ⟨T631, X631, e631, st631⟩ := getF X629 hx hZ hown (host := "") (Or.inl (ww hw 11 rfl)) Via.refl e629 P0 (g := (mkF m 12 (Sh2 a1c 3 x4c) [(.ref a1c)])) rfl rfl (B d5_12)
 refine GoW.sg (mkF m 15 (Sh2 a1c 3 x4c) [(.ref a2c)]) (fun t k => st631 t k) ?_
 refine GoW.sg (mkF m 17 (Sh2 a1c 3 x4c) [(.int 1), (.int 3), (.ref a2c)]) (fun t k => XS.iloadN X631.here hx rfl (B d5_15) rfl (XS.iconst X631.here hx rfl (B d5_16) k)) ?_
 refine GoW.st (fun t k => XS.isub X631.here hx rfl (B d5_17) rfl k) ?_
 rw [show ((3 : Int32) - (1 : Int32)) = (2 : Int32) from by decide]
 show GoW p e below s (Q5_24 Z a1c a2c ka2c x1c x2c x3c x4c x5c x6c x7c x8c h0 n0) 0 0 (T631.setTop (mkF m 18 (Sh2 a1c 3 x4c) [(.int 2), (.ref a2c)]))
 refine GoW.sg (mkF m 19 (Sh2 a1c 3 x4c) [(.int 2), (.int 2), (.ref a2c)]) (fun t k => XS.iconst X631.here hx rfl (B d5_18) k) ?_
 refine GoW.st (fun t k => XS.idiv X631.here hx rfl (B d5_19) rfl (by decide) k) ?_
 rw [show ((2 : Int32) / (2 : Int32)) = (1 : Int32) from by decide]
 show GoW p e below s (Q5_24 Z a1c a2c ka2c x1c x2c x3c x4c x5c x6c x7c x8c h0 n0) 0 0 (T631.setTop (mkF m 20 (Sh2 a1c 3 x4c) [(.int 1), (.ref a2c)]))
 obtain ⟨cl632, Ar632, q632, Sz632, Nn632, Hh632, Gg632⟩ := id P1
 have hin632 : ¬ ((1 : Int32) < 0 ∨ cl632.slots.size ≤ ((1 : Int32)).toNatClampNeg) := inb_of Sz632 ⟨by decide, by decide⟩
 refine GoW.sg (mkF m 21 (Sh2 a1c 3 x4c) [(.double x2c)]) (fun t k => X631.daload hx (j := (1 : Int32)) (v := (.double x2c)) (hq_ e631 Ar632.1) (State.isArrayOf_alike hZ.alike Ar632.2.1) Ar632.2.2 hin632 (Hh632.at hin632 rfl) (g := (mkF m 20 (Sh2 a1c 3 x4c) [(.int 1), (.ref a2c)])) rfl rfl (B d5_20) t k) ?_
 refine GoW.sg (mkF m 52 (Sh2 a1c 3 x4c) [(.ref a1c)]) (fun t k => XS.dloadN X631.here hx rfl (B d5_21) rfl (XS.dcmpS X631.here hx rfl (B d5_22) rfl (v := (lcmpW (Int32.toInt64 x6c) (Int32.toInt64 x5c))) (by rw [hx2c, hx4c]; exact dcmpV_w (own_b53 _) (own_b53 _) _) (XS.ifYes X631.here hx rfl (pc0 := 23) (pc' := 51) rfl (B d5_23) rfl ((if0 _ _).trans (flt (mt (lw_gt _ _).mp u0)).2.2.2) (by decide) (by decide) (XS.aloadN X631.here hx rfl (B d5_51) rfl rfl k)))) ?_
 obtain ⟨T633, X633, e633, st633⟩ := getF X631 hx hZ hown (host := "") (Or.inl (ww hw 11 rfl)) Via.refl e631 P0 (g := (mkF m 52 (Sh2 a1c 3 x4c) [(.ref a1c)])) rfl rfl (B d5_52)
 refine GoW.sg (mkF m 55 (Sh2 a1c 3 x4c) [(.ref a2c)]) (fun t k => st633 t k) ?_
 refine GoW.sg (mkF m 57 (Sh2 a1c 3 x4c) [(.double x4c), (.int 3), (.ref a2c)]) (fun t k => XS.iloadN X633.here hx rfl (B d5_55) rfl (XS.dloadN X633.here hx rfl (B d5_56) rfl k)) ?_
 obtain ⟨cl634, Ar634, q634, Sz634, Nn634, Hh634, Gg634⟩ := P1
 have hin634 : ¬ ((3 : Int32) < 0 ∨ cl634.slots.size ≤ ((3 : Int32)).toNatClampNeg) := inb_of Sz634 ⟨by decide, by decide⟩
 obtain ⟨T634, h634, X634, e634, W634, st634⟩ := stD X633 hx hZ e633 Ar634 (j := (3 : Int32)) hin634 (g := (mkF m 57 (Sh2 a1c 3 x4c) [(.double x4c), (.int 3), (.ref a2c)])) rfl rfl (B d5_57)
 have f634_1 := (Keep.refl h0 [a2c]).wr W634 (Or.inl (List.mem_of_getElem? (i := 0) rfl))
 have V634 : Arv Z h634 a2c ka2c .double (4 : Int32) [(.double x1c), (.double x2c), (.double x3c), (.double x4c)] (.double (0 : UInt64)) := Arv.set Ar634 q634 Sz634 Nn634 Hh634 Gg634 rfl W634 3 rfl (Nat.le_of_ble_eq_true rfl)
 have N634 := Fr.snoc X634 N0 g_a2c
 refine GoW.sg (mkF m 58 (Sh2 a1c 3 x4c) []) (fun t k => st634 t k) ?_
 refine GoW.retV X634 hx Bd.returns (B d5_58) Bd.notSynchronized ?_ (by decide) (by decide)
 rw [e634]
 exact ⟨rfl, N634, f634_1, V634⟩
def QO43 (Z : State) (a1 : Addr) (dx : UInt64) (x v0 : Int32) (v1 v2 : Int32) (d0 d1 d2 : UInt64) (a2 : Addr) (ka2 : ClassId) (h0 : Heap) (n0 : Nat) (v : Option Value) (h : Heap) (L : List Loc) : Prop := ∃ w0 : Int32, ∃ w1 : Int32, ∃ w2 : Int32, ∃ w3 : Int32, ∃ f0 : UInt64, ∃ f1 : UInt64, ∃ f2 : UInt64, ∃ f3 : UInt64, v = none ∧ Fr n0 L ∧ (Keep h0 h [a1, a2]) ∧ (Exa Z h a1 HSn) ∧ (Fld Z h a1 HSn "size" "I" (.int 4)) ∧ (Fld Z h a1 HSn "heap" "[D" (.ref a2)) ∧ (Arv Z h a2 ka2 .double 4 [(.double f0), (.double f1), (.double f2), (.double f3)] (.double 0)) ∧ (f0 = FP.l2d (Int32.toInt64 w0) ∧ f1 = FP.l2d (Int32.toInt64 w1) ∧ f2 = FP.l2d (Int32.toInt64 w2) ∧ f3 = FP.l2d (Int32.toInt64 w3) ∧ (w0.toInt ≤ w1.toInt ∧ w0.toInt ≤ w2.toInt ∧ w1.toInt ≤ w3.toInt) ∧ (∀ z : Int, cn z w0 + cn z w1 + cn z w2 + cn z w3 = cn z v0 + cn z v1 + cn z v2 + cn z x))
theorem rmO43 (l : Launch) (Z : State) (a0 : Array Value) (hw : HW a0 Z) (a1 : Addr) (dx : UInt64) (x v0 : Int32) (v1 v2 : Int32) (d0 d1 d2 : UInt64) (a2 : Addr) (ka2 : ClassId) (h0 : Heap) (n0 : Nat) (P0 : Exa Z h0 a1 HSn) (P1 : Fld Z h0 a1 HSn "size" "I" (.int 3)) (P2 : Fld Z h0 a1 HSn "heap" "[D" (.ref a2)) (P3 : Arv Z h0 a2 ka2 .double 4 [(.double d0), (.double d1), (.double d2), (.double 0)] (.double 0)) (g_a1 : n0 ≤ a1) (g_a2 : n0 ≤ a2) (ne_a1_a2 : a1 ≠ a2) (hd0 : d0 = FP.l2d (Int32.toInt64 v0)) (hd1 : d1 = FP.l2d (Int32.toInt64 v1)) (hd2 : d2 = FP.l2d (Int32.toInt64 v2)) (hdx : dx = FP.l2d (Int32.toInt64 x)) (hH : v0.toInt ≤ v1.toInt ∧ v0.toInt ≤ v2.toInt) :
  MM l Z Y4 prog_43_method_2_code 3 none 1 0 0 15 #[(.ref a1), (.double dx)] h0 (QO43 Z a1 dx x v0 v1 v2 d0 d1 d2 a2 ka2 h0 n0) := by
 refine own_start (fun m => (mkF m 0 (Sh0 a1 dx) [])) (plainFor_of_name pn_com_example_nearterm_nearterm_retrieval_HighestScores) (by simp [entryFrame, mkF, argsToLocals, Value.category]) n0 ?_
 intro p e s m below meth c s₁ Bd hx B hml hZ hown hnm X0 e0 N0
 refine GoW.sg (mkF m 1 (Sh0 a1 dx) [(.ref a1)]) (fun t k => XS.aloadN X0.here hx rfl (B d4_0) rfl rfl k) ?_
 obtain ⟨T541, X541, e541, st541⟩ := getF X0 hx hZ hown (host := "") (Or.inl (ww hw 18 rfl)) Via.refl e0 P1 (g := (mkF m 1 (Sh0 a1 dx) [(.ref a1)])) rfl rfl (B d4_1)
 refine GoW.sg (mkF m 4 (Sh0 a1 dx) [(.int 3)]) (fun t k => st541 t k) ?_
 refine GoW.sg (mkF m 5 (Sh0 a1 dx) [(.ref a1), (.int 3)]) (fun t k => XS.aloadN X541.here hx rfl (B d4_4) rfl rfl k) ?_
 obtain ⟨T542, X542, e542, st542⟩ := getF X541 hx hZ hown (host := "") (Or.inl (ww hw 11 rfl)) Via.refl e541 P2 (g := (mkF m 5 (Sh0 a1 dx) [(.ref a1), (.int 3)])) rfl rfl (B d4_5)
 refine GoW.sg (mkF m 8 (Sh0 a1 dx) [(.ref a2), (.int 3)]) (fun t k => st542 t k) ?_
 obtain ⟨cl543, Ar543, q543, Sz543, Nn543, Hh543, Gg543⟩ := id P3
 have st543 := X542.arraylength hx (hq_ e542 Ar543.1) (State.isArrayOf_alike hZ.alike Ar543.2.1) (g := (mkF m 8 (Sh0 a1 dx) [(.ref a2), (.int 3)])) rfl rfl (B d4_8)
 rw [len_of Sz543 Nn543] at st543
 refine GoW.sg (mkF m 9 (Sh0 a1 dx) [(.int 4), (.int 3)]) (fun t k => st543 t k) ?_
 refine GoW.sg (mkF m 13 (Sh0 a1 dx) [(.ref a1)]) (fun t k => XS.icmpNo X542.here hx rfl (B d4_9) rfl (by decide) (XS.aloadN X542.here hx rfl (B d4_12) rfl rfl k)) ?_
 obtain ⟨T544, X544, e544, st544⟩ := getF X542 hx hZ hown (host := "") (Or.inl (ww hw 11 rfl)) Via.refl e542 P2 (g := (mkF m 13 (Sh0 a1 dx) [(.ref a1)])) rfl rfl (B d4_13)
 refine GoW.sg (mkF m 16 (Sh0 a1 dx) [(.ref a2)]) (fun t k => st544 t k) ?_
 refine GoW.sg (mkF m 17 (Sh0 a1 dx) [(.ref a1), (.ref a2)]) (fun t k => XS.aloadN X544.here hx rfl (B d4_16) rfl rfl k) ?_
 obtain ⟨T545, X545, e545, st545⟩ := getF X544 hx hZ hown (host := "") (Or.inl (ww hw 18 rfl)) Via.refl e544 P1 (g := (mkF m 17 (Sh0 a1 dx) [(.ref a1), (.ref a2)])) rfl rfl (B d4_17)
 refine GoW.sg (mkF m 20 (Sh0 a1 dx) [(.int 3), (.ref a2)]) (fun t k => st545 t k) ?_
 refine GoW.sg (mkF m 21 (Sh0 a1 dx) [(.double dx), (.int 3), (.ref a2)]) (fun t k => XS.dloadN X545.here hx rfl (B d4_20) rfl k) ?_
 obtain ⟨cl546, Ar546, q546, Sz546, Nn546, Hh546, Gg546⟩ := P3
 have hin546 : ¬ ((3 : Int32) < 0 ∨ cl546.slots.size ≤ ((3 : Int32)).toNatClampNeg) := inb_of Sz546 ⟨by decide, by decide⟩
 obtain ⟨T546, h546, X546, e546, W546, st546⟩ := stD X545 hx hZ e545 Ar546 (j := (3 : Int32)) hin546 (g := (mkF m 21 (Sh0 a1 dx) [(.double dx), (.int 3), (.ref a2)])) rfl rfl (B d4_21)
 have f546_1 := P0.wr W546
 have f546_2 := P1.other W546 (Or.inl ne_a1_a2)
 have f546_3 := P2.other W546 (Or.inl ne_a1_a2)
 have f546_4 := (Keep.refl h0 [a1, a2]).wr W546 (Or.inl (List.mem_of_getElem? (i := 1) rfl))
 have V546 : Arv Z h546 a2 ka2 .double (4 : Int32) [(.double d0), (.double d1), (.double d2), (.double dx)] (.double (0 : UInt64)) := Arv.set Ar546 q546 Sz546 Nn546 Hh546 Gg546 rfl W546 3 rfl (Nat.le_of_ble_eq_true rfl)
 have N546 := Fr.snoc X546 N0 g_a2
 refine GoW.sg (mkF m 22 (Sh0 a1 dx) []) (fun t k => st546 t k) ?_
 refine GoW.sg (mkF m 25 (Sh0 a1 dx) [(.ref a1), (.ref a1), (.ref a1)]) (fun t k => XS.aloadN X546.here hx rfl (B d4_22) rfl rfl (XS.aloadN X546.here hx rfl (B d4_23) rfl rfl (XS.dup X546.here hx rfl (B d4_24) rfl rfl k))) ?_
 obtain ⟨T547, X547, e547, st547⟩ := getF X546 hx hZ hown (host := "") (Or.inl (ww hw 18 rfl)) Via.refl e546 f546_2 (g := (mkF m 25 (Sh0 a1 dx) [(.ref a1), (.ref a1), (.ref a1)])) rfl rfl (B d4_25)
 refine GoW.sg (mkF m 28 (Sh0 a1 dx) [(.int 3), (.ref a1), (.ref a1)]) (fun t k => st547 t k) ?_
 refine GoW.sg (mkF m 29 (Sh0 a1 dx) [(.int 3), (.ref a1), (.int 3), (.ref a1)]) (fun t k => XT.dupX1 X547.here hx rfl (B d4_28) rfl rfl rfl k) ?_
 refine GoW.sg (mkF m 30 (Sh0 a1 dx) [(.int 1), (.int 3), (.ref a1), (.int 3), (.ref a1)]) (fun t k => XS.iconst X547.here hx rfl (B d4_29) k) ?_
 refine GoW.st (fun t k => XS.iadd X547.here hx rfl (B d4_30) rfl k) ?_
 rw [show ((3 : Int32) + (1 : Int32)) = (4 : Int32) from by decide]
 show GoW p e below s (QO43 Z a1 dx x v0 v1 v2 d0 d1 d2 a2 ka2 h0 n0) 0 0 (T547.setTop (mkF m 31 (Sh0 a1 dx) [(.int 4), (.ref a1), (.int 3), (.ref a1)]))
 obtain ⟨T548, h548, X548, e548, W548, st548⟩ := putF X547 hx hZ hown (host := "") (Or.inl (ww hw 18 rfl)) Via.refl e547 f546_2 f546_1 (Or.inl (ww hw 19 rfl)) (ww hw 2 rfl) (ty := .int) (by decide) rfl rfl (g := (mkF m 31 (Sh0 a1 dx) [(.int 4), (.ref a1), (.int 3), (.ref a1)])) rfl rfl (B d4_31)
 have N548 := Fr.snoc X548 N546 g_a1
 have f548_5 := f546_1.wr W548
 have f548_6 := f546_3.other W548 (Or.inr (slot_ne (t := (.array .double)) (t' := .int) (Or.inr (ww hw 12 rfl)) (Or.inl (ww hw 19 rfl)) (by decide) (by decide) (by decide)))
 have f548_7 := V546.other W548 (Ne.symm ne_a1_a2)
 have f548_8 := f546_4.wr W548 (Or.inl (List.mem_of_getElem? (i := 0) rfl))
 have F548size : Fld Z h548 a1 HSn "size" "I" (.int (4 : Int32)) := f546_2.same W548
 refine GoW.sg (mkF m 34 (Sh0 a1 dx) [(.int 3), (.ref a1)]) (fun t k => st548 t k) ?_
 by_cases c553 : (Int32.toInt64 x) < (Int32.toInt64 v1)
 ·show GoW p e below s (QO43 Z a1 dx x v0 v1 v2 d0 d1 d2 a2 ka2 h0 n0) 0 0 (T548.setTop (mkF m 34 (Sh0 a1 dx) [(.int 3), (.ref a1)]))
  by_cases c564 : (Int32.toInt64 x) < (Int32.toInt64 v0)
  ·show GoW p e below s (QO43 Z a1 dx x v0 v1 v2 d0 d1 d2 a2 ka2 h0 n0) 0 0 (T548.setTop (mkF m 34 (Sh0 a1 dx) [(.int 3), (.ref a1)]))
   obtain ⟨_, T597, L597, X597, hQ597, st597⟩ := own_priv X548 hx hZ (y := Y5) hown (ww hw 27 rfl) (ww hw 29 rfl) (ww hw 2 rfl) (ww hw 28 rfl) (ww hw 30 rfl) (ww hw 3 rfl) (by decide) 0 (a := a1) (rm5_22 l Z a0 hw a1 a2 ka2 d0 d1 d2 dx x v1 v0 v2 h548 n0 f548_6 f548_7 g_a2 ne_a1_a2 c553 c564 hd0 hd1 hd2 hdx ) (by decide) (by decide) e548 f548_5 (by decide) (by decide) (g := (mkF m 34 (Sh0 a1 dx) [(.int 3), (.ref a1)])) rfl (by rw [hml]; rfl) (argsL := [(.int (3 : Int32))]) (rest := []) (lenOf pd_28I29V rfl) rfl (Nat.le_of_eq rfl) (B d4_34)
   obtain ⟨rfl, N597q, K597, p597_0⟩ := hQ597
   have N597 := Fr.app N548 N597q
   have f597_9 := f548_5.keep K597
   have f597_10 := F548size.keep K597 (ninS ne_a1_a2 nin0)
   have f597_11 := f548_6.keep K597 (ninS ne_a1_a2 nin0)
   have f597_12 := f548_8.trans K597 (allS (Or.inl (List.mem_of_getElem? (i := 1) rfl)) all0)
   refine GoW.sg (mkF m 37 (Sh0 a1 dx) []) (fun t k => st597 t k) ?_
   refine GoW.sg (mkF m 63 (Sh0 a1 dx) []) (fun t k => XS.goto X597.here hx rfl (pc0 := 37) (pc' := 63) rfl (B d4_37) (by decide) (by decide) k) ?_
   refine GoW.retV X597 hx Bd.returns (B d4_63) Bd.notSynchronized ?_ (by decide) (by decide)
   simp only [Int64.lt_iff_toInt_lt, Int32.toInt_toInt64] at c553 c564
   exact ⟨x, v0, v2, v1, dx, d0, d2, d1, rfl, N597, f597_12, f597_9, f597_10, f597_11, p597_0, hdx, hd0, hd2, hd1, by omega, fun z => by omega⟩
  ·show GoW p e below s (QO43 Z a1 dx x v0 v1 v2 d0 d1 d2 a2 ka2 h0 n0) 0 0 (T548.setTop (mkF m 34 (Sh0 a1 dx) [(.int 3), (.ref a1)]))
   obtain ⟨_, T622, L622, X622, hQ622, st622⟩ := own_priv X548 hx hZ (y := Y5) hown (ww hw 27 rfl) (ww hw 29 rfl) (ww hw 2 rfl) (ww hw 28 rfl) (ww hw 30 rfl) (ww hw 3 rfl) (by decide) 0 (a := a1) (rm5_23 l Z a0 hw a1 a2 ka2 d0 d1 d2 dx x v1 v0 v2 h548 n0 f548_6 f548_7 g_a2 ne_a1_a2 c553 c564 hd0 hd1 hd2 hdx ) (by decide) (by decide) e548 f548_5 (by decide) (by decide) (g := (mkF m 34 (Sh0 a1 dx) [(.int 3), (.ref a1)])) rfl (by rw [hml]; rfl) (argsL := [(.int (3 : Int32))]) (rest := []) (lenOf pd_28I29V rfl) rfl (Nat.le_of_eq rfl) (B d4_34)
   obtain ⟨rfl, N622q, K622, p622_0⟩ := hQ622
   have N622 := Fr.app N548 N622q
   have f622_13 := f548_5.keep K622
   have f622_14 := F548size.keep K622 (ninS ne_a1_a2 nin0)
   have f622_15 := f548_6.keep K622 (ninS ne_a1_a2 nin0)
   have f622_16 := f548_8.trans K622 (allS (Or.inl (List.mem_of_getElem? (i := 1) rfl)) all0)
   refine GoW.sg (mkF m 37 (Sh0 a1 dx) []) (fun t k => st622 t k) ?_
   refine GoW.sg (mkF m 63 (Sh0 a1 dx) []) (fun t k => XS.goto X622.here hx rfl (pc0 := 37) (pc' := 63) rfl (B d4_37) (by decide) (by decide) k) ?_
   refine GoW.retV X622 hx Bd.returns (B d4_63) Bd.notSynchronized ?_ (by decide) (by decide)
   simp only [Int64.lt_iff_toInt_lt, Int32.toInt_toInt64] at c553 c564
   exact ⟨v0, x, v2, v1, d0, dx, d2, d1, rfl, N622, f622_16, f622_13, f622_14, f622_15, p622_0, hd0, hdx, hd2, hd1, by omega, fun z => by omega⟩
 ·show GoW p e below s (QO43 Z a1 dx x v0 v1 v2 d0 d1 d2 a2 ka2 h0 n0) 0 0 (T548.setTop (mkF m 34 (Sh0 a1 dx) [(.int 3), (.ref a1)]))
  obtain ⟨_, T635, L635, X635, hQ635, st635⟩ := own_priv X548 hx hZ (y := Y5) hown (ww hw 27 rfl) (ww hw 29 rfl) (ww hw 2 rfl) (ww hw 28 rfl) (ww hw 30 rfl) (ww hw 3 rfl) (by decide) 0 (a := a1) (rm5_24 l Z a0 hw a1 a2 ka2 d0 d1 d2 dx x v1 v0 v2 h548 n0 f548_6 f548_7 g_a2 c553 hd0 hd1 hd2 hdx ) (by decide) (by decide) e548 f548_5 (by decide) (by decide) (g := (mkF m 34 (Sh0 a1 dx) [(.int 3), (.ref a1)])) rfl (by rw [hml]; rfl) (argsL := [(.int (3 : Int32))]) (rest := []) (lenOf pd_28I29V rfl) rfl (Nat.le_of_eq rfl) (B d4_34)
  obtain ⟨rfl, N635q, K635, p635_0⟩ := hQ635
  have N635 := Fr.app N548 N635q
  have f635_17 := f548_5.keep K635
  have f635_18 := F548size.keep K635 (ninS ne_a1_a2 nin0)
  have f635_19 := f548_6.keep K635 (ninS ne_a1_a2 nin0)
  have f635_20 := f548_8.trans K635 (allS (Or.inl (List.mem_of_getElem? (i := 1) rfl)) all0)
  refine GoW.sg (mkF m 37 (Sh0 a1 dx) []) (fun t k => st635 t k) ?_
  refine GoW.sg (mkF m 63 (Sh0 a1 dx) []) (fun t k => XS.goto X635.here hx rfl (pc0 := 37) (pc' := 63) rfl (B d4_37) (by decide) (by decide) k) ?_
  refine GoW.retV X635 hx Bd.returns (B d4_63) Bd.notSynchronized ?_ (by decide) (by decide)
  simp only [Int64.lt_iff_toInt_lt, Int32.toInt_toInt64] at c553
  exact ⟨v0, v1, v2, x, d0, d1, d2, dx, rfl, N635, f635_20, f635_17, f635_18, f635_19, p635_0, hd0, hd1, hd2, hdx, by omega, fun z => by omega⟩
def Q8_25 (Z : State) (a1c a2c : Addr) (ka2c : ClassId) (x1c x2c : UInt64) (x3c x4c : UInt64) (x5c x6c : Int32) (x7c x8c : Int32) (h0 : Heap) (n0 : Nat) (v : Option Value) (h : Heap) (L : List Loc) : Prop := v = none ∧ Fr n0 L ∧ (Keep h0 h [a2c]) ∧ (Arv Z h a2c ka2c .double 4 [(.double x3c), (.double x2c), (.double x1c), (.double x4c)] (.double 0))
theorem rm8_25 (l : Launch) (Z : State) (a0 : Array Value) (hw : HW a0 Z) (a1c a2c : Addr) (ka2c : ClassId) (x1c x2c : UInt64) (x3c x4c : UInt64) (x5c x6c : Int32) (x7c x8c : Int32) (h0 : Heap) (n0 : Nat) (P0 : Fld Z h0 a1c HSn "heap" "[D" (.ref a2c)) (P1 : Fld Z h0 a1c HSn "size" "I" (.int 4)) (P2 : Arv Z h0 a2c ka2c .double 4 [(.double x1c), (.double x2c), (.double x3c), (.double x4c)] (.double 0)) (g_a2c : n0 ≤ a2c) (ne_a1c_a2c : a1c ≠ a2c) (u0 : (Int32.toInt64 x5c) < (Int32.toInt64 x6c)) (u1 : (Int32.toInt64 x5c) < (Int32.toInt64 x7c)) (hx1c : x1c = FP.l2d (Int32.toInt64 x7c)) (hx2c : x2c = FP.l2d (Int32.toInt64 x6c)) (hx3c : x3c = FP.l2d (Int32.toInt64 x5c)) (hx4c : x4c = FP.l2d (Int32.toInt64 x8c)) :
  MM l Z Y8 prog_43_method_5_code 5 none 0 0 0 0 #[(.ref a1c), (.int 0)] h0 (Q8_25 Z a1c a2c ka2c x1c x2c x3c x4c x5c x6c x7c x8c h0 n0) := by
 refine own_start (fun m => (mkF m 0 (Sh3 a1c 0) [])) (plainFor_of_name pn_com_example_nearterm_nearterm_retrieval_HighestScores) (by simp [entryFrame, mkF, argsToLocals, Value.category]) n0 ?_
 intro p e s m below meth c s₁ Bd hx B hml hZ hown hnm X0 e0 N0
 refine GoW.sg (mkF m 1 (Sh3 a1c 0) [(.ref a1c)]) (fun t k => XS.aloadN X0.here hx rfl (B d8_0) rfl rfl k) ?_
 obtain ⟨T681, X681, e681, st681⟩ := getF X0 hx hZ hown (host := "") (Or.inl (ww hw 11 rfl)) Via.refl e0 P0 (g := (mkF m 1 (Sh3 a1c 0) [(.ref a1c)])) rfl rfl (B d8_1)
 refine GoW.sg (mkF m 4 (Sh3 a1c 0) [(.ref a2c)]) (fun t k => st681 t k) ?_
 refine GoW.sg (mkF m 5 (Sh3 a1c 0) [(.int 0), (.ref a2c)]) (fun t k => XS.iloadN X681.here hx rfl (B d8_4) rfl k) ?_
 obtain ⟨cl682, Ar682, q682, Sz682, Nn682, Hh682, Gg682⟩ := id P2
 have hin682 : ¬ ((0 : Int32) < 0 ∨ cl682.slots.size ≤ ((0 : Int32)).toNatClampNeg) := inb_of Sz682 ⟨by decide, by decide⟩
 refine GoW.sg (mkF m 6 (Sh3 a1c 0) [(.double x1c)]) (fun t k => X681.daload hx (j := (0 : Int32)) (v := (.double x1c)) (hq_ e681 Ar682.1) (State.isArrayOf_alike hZ.alike Ar682.2.1) Ar682.2.2 hin682 (Hh682.at hin682 rfl) (g := (mkF m 5 (Sh3 a1c 0) [(.int 0), (.ref a2c)])) rfl rfl (B d8_5) t k) ?_
 refine GoW.sg (mkF m 9 (Sh4 a1c 0 x1c) [(.int 0), (.int 2)]) (fun t k => XS.dstoreN X681.here hx rfl (B d8_6) rfl (l' := (Sh4 a1c 0 x1c)) rfl (XS.iconst X681.here hx rfl (B d8_7) (XS.iloadN X681.here hx rfl (B d8_8) rfl k))) ?_
 refine GoW.st (fun t k => XS.imul X681.here hx rfl (B d8_9) rfl k) ?_
 rw [show ((2 : Int32) * (0 : Int32)) = (0 : Int32) from by decide]
 show GoW p e below s (Q8_25 Z a1c a2c ka2c x1c x2c x3c x4c x5c x6c x7c x8c h0 n0) 0 0 (T681.setTop (mkF m 10 (Sh4 a1c 0 x1c) [(.int 0)]))
 refine GoW.sg (mkF m 11 (Sh4 a1c 0 x1c) [(.int 1), (.int 0)]) (fun t k => XS.iconst X681.here hx rfl (B d8_10) k) ?_
 refine GoW.st (fun t k => XS.iadd X681.here hx rfl (B d8_11) rfl k) ?_
 rw [show ((0 : Int32) + (1 : Int32)) = (1 : Int32) from by decide]
 show GoW p e below s (Q8_25 Z a1c a2c ka2c x1c x2c x3c x4c x5c x6c x7c x8c h0 n0) 0 0 (T681.setTop (mkF m 12 (Sh4 a1c 0 x1c) [(.int 1)]))
 refine GoW.sg (mkF m 13 (Sh4 a1c 0 x1c) [(.ref a1c), (.int 1)]) (fun t k => XS.aloadN X681.here hx rfl (B d8_12) rfl rfl k) ?_
 obtain ⟨T683, X683, e683, st683⟩ := getF X681 hx hZ hown (host := "") (Or.inl (ww hw 18 rfl)) Via.refl e681 P1 (g := (mkF m 13 (Sh4 a1c 0 x1c) [(.ref a1c), (.int 1)])) rfl rfl (B d8_13)
 refine GoW.sg (mkF m 16 (Sh4 a1c 0 x1c) [(.int 4), (.int 1)]) (fun t k => st683 t k) ?_
 refine GoW.sg (mkF m 21 (Sh4 a1c 0 x1c) [(.int 0), (.int 2)]) (fun t k => XS.icmpNo X683.here hx rfl (B d8_16) rfl (by decide) (XS.iconst X683.here hx rfl (B d8_19) (XS.iloadN X683.here hx rfl (B d8_20) rfl k))) ?_
 refine GoW.st (fun t k => XS.imul X683.here hx rfl (B d8_21) rfl k) ?_
 rw [show ((2 : Int32) * (0 : Int32)) = (0 : Int32) from by decide]
 show GoW p e below s (Q8_25 Z a1c a2c ka2c x1c x2c x3c x4c x5c x6c x7c x8c h0 n0) 0 0 (T683.setTop (mkF m 22 (Sh4 a1c 0 x1c) [(.int 0)]))
 refine GoW.sg (mkF m 23 (Sh4 a1c 0 x1c) [(.int 1), (.int 0)]) (fun t k => XS.iconst X683.here hx rfl (B d8_22) k) ?_
 refine GoW.st (fun t k => XS.iadd X683.here hx rfl (B d8_23) rfl k) ?_
 rw [show ((0 : Int32) + (1 : Int32)) = (1 : Int32) from by decide]
 show GoW p e below s (Q8_25 Z a1c a2c ka2c x1c x2c x3c x4c x5c x6c x7c x8c h0 n0) 0 0 (T683.setTop (mkF m 24 (Sh4 a1c 0 x1c) [(.int 1)]))
 refine GoW.sg (mkF m 29 (Sh5 a1c 0 x1c 1) [(.int 1), (.int 1)]) (fun t k => XS.istore X683.here hx rfl (B d8_24) rfl (l' := (Sh5 a1c 0 x1c 1)) rfl (XS.iload X683.here hx rfl (B d8_26) rfl (XS.iconst X683.here hx rfl (B d8_28) k))) ?_
 refine GoW.st (fun t k => XS.iadd X683.here hx rfl (B d8_29) rfl k) ?_
 rw [show ((1 : Int32) + (1 : Int32)) = (2 : Int32) from by decide]
 show GoW p e below s (Q8_25 Z a1c a2c ka2c x1c x2c x3c x4c x5c x6c x7c x8c h0 n0) 0 0 (T683.setTop (mkF m 30 (Sh5 a1c 0 x1c 1) [(.int 2)]))
 refine GoW.sg (mkF m 31 (Sh5 a1c 0 x1c 1) [(.ref a1c), (.int 2)]) (fun t k => XS.aloadN X683.here hx rfl (B d8_30) rfl rfl k) ?_
 obtain ⟨T684, X684, e684, st684⟩ := getF X683 hx hZ hown (host := "") (Or.inl (ww hw 18 rfl)) Via.refl e683 P1 (g := (mkF m 31 (Sh5 a1c 0 x1c 1) [(.ref a1c), (.int 2)])) rfl rfl (B d8_31)
 refine GoW.sg (mkF m 34 (Sh5 a1c 0 x1c 1) [(.int 4), (.int 2)]) (fun t k => st684 t k) ?_
 refine GoW.sg (mkF m 38 (Sh5 a1c 0 x1c 1) [(.ref a1c)]) (fun t k => XS.icmpNo X684.here hx rfl (B d8_34) rfl (by decide) (XS.aloadN X684.here hx rfl (B d8_37) rfl rfl k)) ?_
 obtain ⟨T685, X685, e685, st685⟩ := getF X684 hx hZ hown (host := "") (Or.inl (ww hw 11 rfl)) Via.refl e684 P0 (g := (mkF m 38 (Sh5 a1c 0 x1c 1) [(.ref a1c)])) rfl rfl (B d8_38)
 refine GoW.sg (mkF m 41 (Sh5 a1c 0 x1c 1) [(.ref a2c)]) (fun t k => st685 t k) ?_
 refine GoW.sg (mkF m 44 (Sh5 a1c 0 x1c 1) [(.int 1), (.int 1), (.ref a2c)]) (fun t k => XS.iload X685.here hx rfl (B d8_41) rfl (XS.iconst X685.here hx rfl (B d8_43) k)) ?_
 refine GoW.st (fun t k => XS.iadd X685.here hx rfl (B d8_44) rfl k) ?_
 rw [show ((1 : Int32) + (1 : Int32)) = (2 : Int32) from by decide]
 show GoW p e below s (Q8_25 Z a1c a2c ka2c x1c x2c x3c x4c x5c x6c x7c x8c h0 n0) 0 0 (T685.setTop (mkF m 45 (Sh5 a1c 0 x1c 1) [(.int 2), (.ref a2c)]))
 obtain ⟨cl686, Ar686, q686, Sz686, Nn686, Hh686, Gg686⟩ := id P2
 have hin686 : ¬ ((2 : Int32) < 0 ∨ cl686.slots.size ≤ ((2 : Int32)).toNatClampNeg) := inb_of Sz686 ⟨by decide, by decide⟩
 refine GoW.sg (mkF m 46 (Sh5 a1c 0 x1c 1) [(.double x3c)]) (fun t k => X685.daload hx (j := (2 : Int32)) (v := (.double x3c)) (hq_ e685 Ar686.1) (State.isArrayOf_alike hZ.alike Ar686.2.1) Ar686.2.2 hin686 (Hh686.at hin686 rfl) (g := (mkF m 45 (Sh5 a1c 0 x1c 1) [(.int 2), (.ref a2c)])) rfl rfl (B d8_45) t k) ?_
 refine GoW.sg (mkF m 47 (Sh5 a1c 0 x1c 1) [(.ref a1c), (.double x3c)]) (fun t k => XS.aloadN X685.here hx rfl (B d8_46) rfl rfl k) ?_
 obtain ⟨T687, X687, e687, st687⟩ := getF X685 hx hZ hown (host := "") (Or.inl (ww hw 11 rfl)) Via.refl e685 P0 (g := (mkF m 47 (Sh5 a1c 0 x1c 1) [(.ref a1c), (.double x3c)])) rfl rfl (B d8_47)
 refine GoW.sg (mkF m 50 (Sh5 a1c 0 x1c 1) [(.ref a2c), (.double x3c)]) (fun t k => st687 t k) ?_
 refine GoW.sg (mkF m 52 (Sh5 a1c 0 x1c 1) [(.int 1), (.ref a2c), (.double x3c)]) (fun t k => XS.iload X687.here hx rfl (B d8_50) rfl k) ?_
 obtain ⟨cl688, Ar688, q688, Sz688, Nn688, Hh688, Gg688⟩ := id P2
 have hin688 : ¬ ((1 : Int32) < 0 ∨ cl688.slots.size ≤ ((1 : Int32)).toNatClampNeg) := inb_of Sz688 ⟨by decide, by decide⟩
 refine GoW.sg (mkF m 53 (Sh5 a1c 0 x1c 1) [(.double x2c), (.double x3c)]) (fun t k => X687.daload hx (j := (1 : Int32)) (v := (.double x2c)) (hq_ e687 Ar688.1) (State.isArrayOf_alike hZ.alike Ar688.2.1) Ar688.2.2 hin688 (Hh688.at hin688 rfl) (g := (mkF m 52 (Sh5 a1c 0 x1c 1) [(.int 1), (.ref a2c), (.double x3c)])) rfl rfl (B d8_52) t k) ?_
 refine GoW.sg (mkF m 61 (Sh5 a1c 0 x1c 2) [(.ref a1c)]) (fun t k => XS.dcmpS X687.here hx rfl (B d8_53) rfl (v := (lcmpW (Int32.toInt64 x5c) (Int32.toInt64 x6c))) (by rw [hx3c, hx2c]; exact dcmpV_w (own_b53 _) (own_b53 _) _) (XS.ifNo X687.here hx rfl (B d8_54) rfl ((if0 _ _).trans (tlt ((lw_lt _ _).mpr u0)).2.1) (XS.iinc X687.here hx rfl (B d8_57) rfl (l' := (Sh5 a1c 0 x1c 2)) rfl (XS.aloadN X687.here hx rfl (B d8_60) rfl rfl k)))) ?_
 obtain ⟨T689, X689, e689, st689⟩ := getF X687 hx hZ hown (host := "") (Or.inl (ww hw 11 rfl)) Via.refl e687 P0 (g := (mkF m 61 (Sh5 a1c 0 x1c 2) [(.ref a1c)])) rfl rfl (B d8_61)
 refine GoW.sg (mkF m 64 (Sh5 a1c 0 x1c 2) [(.ref a2c)]) (fun t k => st689 t k) ?_
 refine GoW.sg (mkF m 66 (Sh5 a1c 0 x1c 2) [(.int 2), (.ref a2c)]) (fun t k => XS.iload X689.here hx rfl (B d8_64) rfl k) ?_
 obtain ⟨cl690, Ar690, q690, Sz690, Nn690, Hh690, Gg690⟩ := id P2
 have hin690 : ¬ ((2 : Int32) < 0 ∨ cl690.slots.size ≤ ((2 : Int32)).toNatClampNeg) := inb_of Sz690 ⟨by decide, by decide⟩
 refine GoW.sg (mkF m 67 (Sh5 a1c 0 x1c 2) [(.double x3c)]) (fun t k => X689.daload hx (j := (2 : Int32)) (v := (.double x3c)) (hq_ e689 Ar690.1) (State.isArrayOf_alike hZ.alike Ar690.2.1) Ar690.2.2 hin690 (Hh690.at hin690 rfl) (g := (mkF m 66 (Sh5 a1c 0 x1c 2) [(.int 2), (.ref a2c)])) rfl rfl (B d8_66) t k) ?_
 refine GoW.sg (mkF m 76 (Sh5 a1c 0 x1c 2) [(.ref a1c)]) (fun t k => XS.dloadN X689.here hx rfl (B d8_67) rfl (XS.dcmpS X689.here hx rfl (B d8_68) rfl (v := (lcmpW (Int32.toInt64 x5c) (Int32.toInt64 x7c))) (by rw [hx3c, hx1c]; exact dcmpV_w (own_b53 _) (own_b53 _) _) (XS.ifYes X689.here hx rfl (pc0 := 69) (pc' := 75) rfl (B d8_69) rfl ((if0 _ _).trans (tlt ((lw_lt _ _).mpr u1)).1) (by decide) (by decide) (XS.aloadN X689.here hx rfl (B d8_75) rfl rfl k)))) ?_
 obtain ⟨T691, X691, e691, st691⟩ := getF X689 hx hZ hown (host := "") (Or.inl (ww hw 11 rfl)) Via.refl e689 P0 (g := (mkF m 76 (Sh5 a1c 0 x1c 2) [(.ref a1c)])) rfl rfl (B d8_76)
 refine GoW.sg (mkF m 79 (Sh5 a1c 0 x1c 2) [(.ref a2c)]) (fun t k => st691 t k) ?_
 refine GoW.sg (mkF m 81 (Sh5 a1c 0 x1c 2) [(.ref a1c), (.int 0), (.ref a2c)]) (fun t k => XS.iloadN X691.here hx rfl (B d8_79) rfl (XS.aloadN X691.here hx rfl (B d8_80) rfl rfl k)) ?_
 obtain ⟨T692, X692, e692, st692⟩ := getF X691 hx hZ hown (host := "") (Or.inl (ww hw 11 rfl)) Via.refl e691 P0 (g := (mkF m 81 (Sh5 a1c 0 x1c 2) [(.ref a1c), (.int 0), (.ref a2c)])) rfl rfl (B d8_81)
 refine GoW.sg (mkF m 84 (Sh5 a1c 0 x1c 2) [(.ref a2c), (.int 0), (.ref a2c)]) (fun t k => st692 t k) ?_
 refine GoW.sg (mkF m 86 (Sh5 a1c 0 x1c 2) [(.int 2), (.ref a2c), (.int 0), (.ref a2c)]) (fun t k => XS.iload X692.here hx rfl (B d8_84) rfl k) ?_
 obtain ⟨cl693, Ar693, q693, Sz693, Nn693, Hh693, Gg693⟩ := id P2
 have hin693 : ¬ ((2 : Int32) < 0 ∨ cl693.slots.size ≤ ((2 : Int32)).toNatClampNeg) := inb_of Sz693 ⟨by decide, by decide⟩
 refine GoW.sg (mkF m 87 (Sh5 a1c 0 x1c 2) [(.double x3c), (.int 0), (.ref a2c)]) (fun t k => X692.daload hx (j := (2 : Int32)) (v := (.double x3c)) (hq_ e692 Ar693.1) (State.isArrayOf_alike hZ.alike Ar693.2.1) Ar693.2.2 hin693 (Hh693.at hin693 rfl) (g := (mkF m 86 (Sh5 a1c 0 x1c 2) [(.int 2), (.ref a2c), (.int 0), (.ref a2c)])) rfl rfl (B d8_86) t k) ?_
 obtain ⟨cl694, Ar694, q694, Sz694, Nn694, Hh694, Gg694⟩ := P2
 have hin694 : ¬ ((0 : Int32) < 0 ∨ cl694.slots.size ≤ ((0 : Int32)).toNatClampNeg) := inb_of Sz694 ⟨by decide, by decide⟩
 obtain ⟨T694, h694, X694, e694, W694, st694⟩ := stD X692 hx hZ e692 Ar694 (j := (0 : Int32)) hin694 (g := (mkF m 87 (Sh5 a1c 0 x1c 2) [(.double x3c), (.int 0), (.ref a2c)])) rfl rfl (B d8_87)
 have f694_1 := P0.other W694 (Or.inl ne_a1c_a2c)
 have f694_2 := P1.other W694 (Or.inl ne_a1c_a2c)
 have f694_3 := (Keep.refl h0 [a2c]).wr W694 (Or.inl (List.mem_of_getElem? (i := 0) rfl))
 have V694 : Arv Z h694 a2c ka2c .double (4 : Int32) [(.double x3c), (.double x2c), (.double x3c), (.double x4c)] (.double (0 : UInt64)) := Arv.set Ar694 q694 Sz694 Nn694 Hh694 Gg694 rfl W694 0 rfl (Nat.le_of_ble_eq_true rfl)
 have N694 := Fr.snoc X694 N0 g_a2c
 refine GoW.sg (mkF m 88 (Sh5 a1c 0 x1c 2) []) (fun t k => st694 t k) ?_
 refine GoW.sg (mkF m 9 (Sh5 a1c 2 x1c 2) [(.int 2), (.int 2)]) (fun t k => XS.iload X694.here hx rfl (B d8_88) rfl (XS.istoreN X694.here hx rfl (B d8_90) rfl (l' := (Sh5 a1c 2 x1c 2)) rfl (XS.goto X694.here hx rfl (pc0 := 91) (pc' := 7) rfl (B d8_91) (by decide) (by decide) (XS.iconst X694.here hx rfl (B d8_7) (XS.iloadN X694.here hx rfl (B d8_8) rfl k))))) ?_
 refine GoW.st (fun t k => XS.imul X694.here hx rfl (B d8_9) rfl k) ?_
 rw [show ((2 : Int32) * (2 : Int32)) = (4 : Int32) from by decide]
 show GoW p e below s (Q8_25 Z a1c a2c ka2c x1c x2c x3c x4c x5c x6c x7c x8c h0 n0) 0 0 (T694.setTop (mkF m 10 (Sh5 a1c 2 x1c 2) [(.int 4)]))
 refine GoW.sg (mkF m 11 (Sh5 a1c 2 x1c 2) [(.int 1), (.int 4)]) (fun t k => XS.iconst X694.here hx rfl (B d8_10) k) ?_
 refine GoW.st (fun t k => XS.iadd X694.here hx rfl (B d8_11) rfl k) ?_
 rw [show ((4 : Int32) + (1 : Int32)) = (5 : Int32) from by decide]
 show GoW p e below s (Q8_25 Z a1c a2c ka2c x1c x2c x3c x4c x5c x6c x7c x8c h0 n0) 0 0 (T694.setTop (mkF m 12 (Sh5 a1c 2 x1c 2) [(.int 5)]))
 refine GoW.sg (mkF m 13 (Sh5 a1c 2 x1c 2) [(.ref a1c), (.int 5)]) (fun t k => XS.aloadN X694.here hx rfl (B d8_12) rfl rfl k) ?_
 obtain ⟨T695, X695, e695, st695⟩ := getF X694 hx hZ hown (host := "") (Or.inl (ww hw 18 rfl)) Via.refl e694 f694_2 (g := (mkF m 13 (Sh5 a1c 2 x1c 2) [(.ref a1c), (.int 5)])) rfl rfl (B d8_13)
 refine GoW.sg (mkF m 16 (Sh5 a1c 2 x1c 2) [(.int 4), (.int 5)]) (fun t k => st695 t k) ?_
 refine GoW.sg (mkF m 95 (Sh5 a1c 2 x1c 2) [(.ref a1c)]) (fun t k => XS.icmpYes X695.here hx rfl (pc0 := 16) (pc' := 94) rfl (B d8_16) rfl (by decide) (by decide) (by decide) (XS.aloadN X695.here hx rfl (B d8_94) rfl rfl k)) ?_
 obtain ⟨T696, X696, e696, st696⟩ := getF X695 hx hZ hown (host := "") (Or.inl (ww hw 11 rfl)) Via.refl e695 f694_1 (g := (mkF m 95 (Sh5 a1c 2 x1c 2) [(.ref a1c)])) rfl rfl (B d8_95)
 refine GoW.sg (mkF m 98 (Sh5 a1c 2 x1c 2) [(.ref a2c)]) (fun t k => st696 t k) ?_
 refine GoW.sg (mkF m 100 (Sh5 a1c 2 x1c 2) [(.double x1c), (.int 2), (.ref a2c)]) (fun t k => XS.iloadN X696.here hx rfl (B d8_98) rfl (XS.dloadN X696.here hx rfl (B d8_99) rfl k)) ?_
 obtain ⟨cl697, Ar697, q697, Sz697, Nn697, Hh697, Gg697⟩ := V694
 have hin697 : ¬ ((2 : Int32) < 0 ∨ cl697.slots.size ≤ ((2 : Int32)).toNatClampNeg) := inb_of Sz697 ⟨by decide, by decide⟩
 obtain ⟨T697, h697, X697, e697, W697, st697⟩ := stD X696 hx hZ e696 Ar697 (j := (2 : Int32)) hin697 (g := (mkF m 100 (Sh5 a1c 2 x1c 2) [(.double x1c), (.int 2), (.ref a2c)])) rfl rfl (B d8_100)
 have f697_6 := f694_3.wr W697 (Or.inl (List.mem_of_getElem? (i := 0) rfl))
 have V697 : Arv Z h697 a2c ka2c .double (4 : Int32) [(.double x3c), (.double x2c), (.double x1c), (.double x4c)] (.double (0 : UInt64)) := Arv.set Ar697 q697 Sz697 Nn697 Hh697 Gg697 rfl W697 2 rfl (Nat.le_of_ble_eq_true rfl)
 have N697 := Fr.snoc X697 N694 g_a2c
 refine GoW.sg (mkF m 101 (Sh5 a1c 2 x1c 2) []) (fun t k => st697 t k) ?_
 refine GoW.retV X697 hx Bd.returns (B d8_101) Bd.notSynchronized ?_ (by decide) (by decide)
 rw [e697]
 exact ⟨rfl, N697, f697_6, V697⟩
def Q8_26 (Z : State) (a1c a2c : Addr) (ka2c : ClassId) (x1c x2c : UInt64) (x3c x4c : UInt64) (x5c x6c : Int32) (x7c x8c : Int32) (h0 : Heap) (n0 : Nat) (v : Option Value) (h : Heap) (L : List Loc) : Prop := v = none ∧ Fr n0 L ∧ (Keep h0 h [a2c]) ∧ (Arv Z h a2c ka2c .double 4 [(.double x1c), (.double x2c), (.double x3c), (.double x4c)] (.double 0))
theorem rm8_26 (l : Launch) (Z : State) (a0 : Array Value) (hw : HW a0 Z) (a1c a2c : Addr) (ka2c : ClassId) (x1c x2c : UInt64) (x3c x4c : UInt64) (x5c x6c : Int32) (x7c x8c : Int32) (h0 : Heap) (n0 : Nat) (P0 : Fld Z h0 a1c HSn "heap" "[D" (.ref a2c)) (P1 : Fld Z h0 a1c HSn "size" "I" (.int 4)) (P2 : Arv Z h0 a2c ka2c .double 4 [(.double x1c), (.double x2c), (.double x3c), (.double x4c)] (.double 0)) (g_a2c : n0 ≤ a2c) (u0 : (Int32.toInt64 x5c) < (Int32.toInt64 x6c)) (u1 : ¬ ((Int32.toInt64 x5c) < (Int32.toInt64 x7c))) (hx1c : x1c = FP.l2d (Int32.toInt64 x7c)) (hx2c : x2c = FP.l2d (Int32.toInt64 x6c)) (hx3c : x3c = FP.l2d (Int32.toInt64 x5c)) (hx4c : x4c = FP.l2d (Int32.toInt64 x8c)) :
  MM l Z Y8 prog_43_method_5_code 5 none 0 0 0 0 #[(.ref a1c), (.int 0)] h0 (Q8_26 Z a1c a2c ka2c x1c x2c x3c x4c x5c x6c x7c x8c h0 n0) := by
 refine own_start (fun m => (mkF m 0 (Sh3 a1c 0) [])) (plainFor_of_name pn_com_example_nearterm_nearterm_retrieval_HighestScores) (by simp [entryFrame, mkF, argsToLocals, Value.category]) n0 ?_
 intro p e s m below meth c s₁ Bd hx B hml hZ hown hnm X0 e0 N0
 refine GoW.sg (mkF m 1 (Sh3 a1c 0) [(.ref a1c)]) (fun t k => XS.aloadN X0.here hx rfl (B d8_0) rfl rfl k) ?_
 obtain ⟨T711, X711, e711, st711⟩ := getF X0 hx hZ hown (host := "") (Or.inl (ww hw 11 rfl)) Via.refl e0 P0 (g := (mkF m 1 (Sh3 a1c 0) [(.ref a1c)])) rfl rfl (B d8_1)
 refine GoW.sg (mkF m 4 (Sh3 a1c 0) [(.ref a2c)]) (fun t k => st711 t k) ?_
 refine GoW.sg (mkF m 5 (Sh3 a1c 0) [(.int 0), (.ref a2c)]) (fun t k => XS.iloadN X711.here hx rfl (B d8_4) rfl k) ?_
 obtain ⟨cl712, Ar712, q712, Sz712, Nn712, Hh712, Gg712⟩ := id P2
 have hin712 : ¬ ((0 : Int32) < 0 ∨ cl712.slots.size ≤ ((0 : Int32)).toNatClampNeg) := inb_of Sz712 ⟨by decide, by decide⟩
 refine GoW.sg (mkF m 6 (Sh3 a1c 0) [(.double x1c)]) (fun t k => X711.daload hx (j := (0 : Int32)) (v := (.double x1c)) (hq_ e711 Ar712.1) (State.isArrayOf_alike hZ.alike Ar712.2.1) Ar712.2.2 hin712 (Hh712.at hin712 rfl) (g := (mkF m 5 (Sh3 a1c 0) [(.int 0), (.ref a2c)])) rfl rfl (B d8_5) t k) ?_
 refine GoW.sg (mkF m 9 (Sh4 a1c 0 x1c) [(.int 0), (.int 2)]) (fun t k => XS.dstoreN X711.here hx rfl (B d8_6) rfl (l' := (Sh4 a1c 0 x1c)) rfl (XS.iconst X711.here hx rfl (B d8_7) (XS.iloadN X711.here hx rfl (B d8_8) rfl k))) ?_
 refine GoW.st (fun t k => XS.imul X711.here hx rfl (B d8_9) rfl k) ?_
 rw [show ((2 : Int32) * (0 : Int32)) = (0 : Int32) from by decide]
 show GoW p e below s (Q8_26 Z a1c a2c ka2c x1c x2c x3c x4c x5c x6c x7c x8c h0 n0) 0 0 (T711.setTop (mkF m 10 (Sh4 a1c 0 x1c) [(.int 0)]))
 refine GoW.sg (mkF m 11 (Sh4 a1c 0 x1c) [(.int 1), (.int 0)]) (fun t k => XS.iconst X711.here hx rfl (B d8_10) k) ?_
 refine GoW.st (fun t k => XS.iadd X711.here hx rfl (B d8_11) rfl k) ?_
 rw [show ((0 : Int32) + (1 : Int32)) = (1 : Int32) from by decide]
 show GoW p e below s (Q8_26 Z a1c a2c ka2c x1c x2c x3c x4c x5c x6c x7c x8c h0 n0) 0 0 (T711.setTop (mkF m 12 (Sh4 a1c 0 x1c) [(.int 1)]))
 refine GoW.sg (mkF m 13 (Sh4 a1c 0 x1c) [(.ref a1c), (.int 1)]) (fun t k => XS.aloadN X711.here hx rfl (B d8_12) rfl rfl k) ?_
 obtain ⟨T713, X713, e713, st713⟩ := getF X711 hx hZ hown (host := "") (Or.inl (ww hw 18 rfl)) Via.refl e711 P1 (g := (mkF m 13 (Sh4 a1c 0 x1c) [(.ref a1c), (.int 1)])) rfl rfl (B d8_13)
 refine GoW.sg (mkF m 16 (Sh4 a1c 0 x1c) [(.int 4), (.int 1)]) (fun t k => st713 t k) ?_
 refine GoW.sg (mkF m 21 (Sh4 a1c 0 x1c) [(.int 0), (.int 2)]) (fun t k => XS.icmpNo X713.here hx rfl (B d8_16) rfl (by decide) (XS.iconst X713.here hx rfl (B d8_19) (XS.iloadN X713.here hx rfl (B d8_20) rfl k))) ?_
 refine GoW.st (fun t k => XS.imul X713.here hx rfl (B d8_21) rfl k) ?_
 rw [show ((2 : Int32) * (0 : Int32)) = (0 : Int32) from by decide]
 show GoW p e below s (Q8_26 Z a1c a2c ka2c x1c x2c x3c x4c x5c x6c x7c x8c h0 n0) 0 0 (T713.setTop (mkF m 22 (Sh4 a1c 0 x1c) [(.int 0)]))
 refine GoW.sg (mkF m 23 (Sh4 a1c 0 x1c) [(.int 1), (.int 0)]) (fun t k => XS.iconst X713.here hx rfl (B d8_22) k) ?_
 refine GoW.st (fun t k => XS.iadd X713.here hx rfl (B d8_23) rfl k) ?_
 rw [show ((0 : Int32) + (1 : Int32)) = (1 : Int32) from by decide]
 show GoW p e below s (Q8_26 Z a1c a2c ka2c x1c x2c x3c x4c x5c x6c x7c x8c h0 n0) 0 0 (T713.setTop (mkF m 24 (Sh4 a1c 0 x1c) [(.int 1)]))
 refine GoW.sg (mkF m 29 (Sh5 a1c 0 x1c 1) [(.int 1), (.int 1)]) (fun t k => XS.istore X713.here hx rfl (B d8_24) rfl (l' := (Sh5 a1c 0 x1c 1)) rfl (XS.iload X713.here hx rfl (B d8_26) rfl (XS.iconst X713.here hx rfl (B d8_28) k))) ?_
 refine GoW.st (fun t k => XS.iadd X713.here hx rfl (B d8_29) rfl k) ?_
 rw [show ((1 : Int32) + (1 : Int32)) = (2 : Int32) from by decide]
 show GoW p e below s (Q8_26 Z a1c a2c ka2c x1c x2c x3c x4c x5c x6c x7c x8c h0 n0) 0 0 (T713.setTop (mkF m 30 (Sh5 a1c 0 x1c 1) [(.int 2)]))
 refine GoW.sg (mkF m 31 (Sh5 a1c 0 x1c 1) [(.ref a1c), (.int 2)]) (fun t k => XS.aloadN X713.here hx rfl (B d8_30) rfl rfl k) ?_
 obtain ⟨T714, X714, e714, st714⟩ := getF X713 hx hZ hown (host := "") (Or.inl (ww hw 18 rfl)) Via.refl e713 P1 (g := (mkF m 31 (Sh5 a1c 0 x1c 1) [(.ref a1c), (.int 2)])) rfl rfl (B d8_31)
 refine GoW.sg (mkF m 34 (Sh5 a1c 0 x1c 1) [(.int 4), (.int 2)]) (fun t k => st714 t k) ?_
 refine GoW.sg (mkF m 38 (Sh5 a1c 0 x1c 1) [(.ref a1c)]) (fun t k => XS.icmpNo X714.here hx rfl (B d8_34) rfl (by decide) (XS.aloadN X714.here hx rfl (B d8_37) rfl rfl k)) ?_
 obtain ⟨T715, X715, e715, st715⟩ := getF X714 hx hZ hown (host := "") (Or.inl (ww hw 11 rfl)) Via.refl e714 P0 (g := (mkF m 38 (Sh5 a1c 0 x1c 1) [(.ref a1c)])) rfl rfl (B d8_38)
 refine GoW.sg (mkF m 41 (Sh5 a1c 0 x1c 1) [(.ref a2c)]) (fun t k => st715 t k) ?_
 refine GoW.sg (mkF m 44 (Sh5 a1c 0 x1c 1) [(.int 1), (.int 1), (.ref a2c)]) (fun t k => XS.iload X715.here hx rfl (B d8_41) rfl (XS.iconst X715.here hx rfl (B d8_43) k)) ?_
 refine GoW.st (fun t k => XS.iadd X715.here hx rfl (B d8_44) rfl k) ?_
 rw [show ((1 : Int32) + (1 : Int32)) = (2 : Int32) from by decide]
 show GoW p e below s (Q8_26 Z a1c a2c ka2c x1c x2c x3c x4c x5c x6c x7c x8c h0 n0) 0 0 (T715.setTop (mkF m 45 (Sh5 a1c 0 x1c 1) [(.int 2), (.ref a2c)]))
 obtain ⟨cl716, Ar716, q716, Sz716, Nn716, Hh716, Gg716⟩ := id P2
 have hin716 : ¬ ((2 : Int32) < 0 ∨ cl716.slots.size ≤ ((2 : Int32)).toNatClampNeg) := inb_of Sz716 ⟨by decide, by decide⟩
 refine GoW.sg (mkF m 46 (Sh5 a1c 0 x1c 1) [(.double x3c)]) (fun t k => X715.daload hx (j := (2 : Int32)) (v := (.double x3c)) (hq_ e715 Ar716.1) (State.isArrayOf_alike hZ.alike Ar716.2.1) Ar716.2.2 hin716 (Hh716.at hin716 rfl) (g := (mkF m 45 (Sh5 a1c 0 x1c 1) [(.int 2), (.ref a2c)])) rfl rfl (B d8_45) t k) ?_
 refine GoW.sg (mkF m 47 (Sh5 a1c 0 x1c 1) [(.ref a1c), (.double x3c)]) (fun t k => XS.aloadN X715.here hx rfl (B d8_46) rfl rfl k) ?_
 obtain ⟨T717, X717, e717, st717⟩ := getF X715 hx hZ hown (host := "") (Or.inl (ww hw 11 rfl)) Via.refl e715 P0 (g := (mkF m 47 (Sh5 a1c 0 x1c 1) [(.ref a1c), (.double x3c)])) rfl rfl (B d8_47)
 refine GoW.sg (mkF m 50 (Sh5 a1c 0 x1c 1) [(.ref a2c), (.double x3c)]) (fun t k => st717 t k) ?_
 refine GoW.sg (mkF m 52 (Sh5 a1c 0 x1c 1) [(.int 1), (.ref a2c), (.double x3c)]) (fun t k => XS.iload X717.here hx rfl (B d8_50) rfl k) ?_
 obtain ⟨cl718, Ar718, q718, Sz718, Nn718, Hh718, Gg718⟩ := id P2
 have hin718 : ¬ ((1 : Int32) < 0 ∨ cl718.slots.size ≤ ((1 : Int32)).toNatClampNeg) := inb_of Sz718 ⟨by decide, by decide⟩
 refine GoW.sg (mkF m 53 (Sh5 a1c 0 x1c 1) [(.double x2c), (.double x3c)]) (fun t k => X717.daload hx (j := (1 : Int32)) (v := (.double x2c)) (hq_ e717 Ar718.1) (State.isArrayOf_alike hZ.alike Ar718.2.1) Ar718.2.2 hin718 (Hh718.at hin718 rfl) (g := (mkF m 52 (Sh5 a1c 0 x1c 1) [(.int 1), (.ref a2c), (.double x3c)])) rfl rfl (B d8_52) t k) ?_
 refine GoW.sg (mkF m 61 (Sh5 a1c 0 x1c 2) [(.ref a1c)]) (fun t k => XS.dcmpS X717.here hx rfl (B d8_53) rfl (v := (lcmpW (Int32.toInt64 x5c) (Int32.toInt64 x6c))) (by rw [hx3c, hx2c]; exact dcmpV_w (own_b53 _) (own_b53 _) _) (XS.ifNo X717.here hx rfl (B d8_54) rfl ((if0 _ _).trans (tlt ((lw_lt _ _).mpr u0)).2.1) (XS.iinc X717.here hx rfl (B d8_57) rfl (l' := (Sh5 a1c 0 x1c 2)) rfl (XS.aloadN X717.here hx rfl (B d8_60) rfl rfl k)))) ?_
 obtain ⟨T719, X719, e719, st719⟩ := getF X717 hx hZ hown (host := "") (Or.inl (ww hw 11 rfl)) Via.refl e717 P0 (g := (mkF m 61 (Sh5 a1c 0 x1c 2) [(.ref a1c)])) rfl rfl (B d8_61)
 refine GoW.sg (mkF m 64 (Sh5 a1c 0 x1c 2) [(.ref a2c)]) (fun t k => st719 t k) ?_
 refine GoW.sg (mkF m 66 (Sh5 a1c 0 x1c 2) [(.int 2), (.ref a2c)]) (fun t k => XS.iload X719.here hx rfl (B d8_64) rfl k) ?_
 obtain ⟨cl720, Ar720, q720, Sz720, Nn720, Hh720, Gg720⟩ := id P2
 have hin720 : ¬ ((2 : Int32) < 0 ∨ cl720.slots.size ≤ ((2 : Int32)).toNatClampNeg) := inb_of Sz720 ⟨by decide, by decide⟩
 refine GoW.sg (mkF m 67 (Sh5 a1c 0 x1c 2) [(.double x3c)]) (fun t k => X719.daload hx (j := (2 : Int32)) (v := (.double x3c)) (hq_ e719 Ar720.1) (State.isArrayOf_alike hZ.alike Ar720.2.1) Ar720.2.2 hin720 (Hh720.at hin720 rfl) (g := (mkF m 66 (Sh5 a1c 0 x1c 2) [(.int 2), (.ref a2c)])) rfl rfl (B d8_66) t k) ?_
 refine GoW.sg (mkF m 95 (Sh5 a1c 0 x1c 2) [(.ref a1c)]) (fun t k => XS.dloadN X719.here hx rfl (B d8_67) rfl (XS.dcmpS X719.here hx rfl (B d8_68) rfl (v := (lcmpW (Int32.toInt64 x5c) (Int32.toInt64 x7c))) (by rw [hx3c, hx1c]; exact dcmpV_w (own_b53 _) (own_b53 _) _) (XS.ifNo X719.here hx rfl (B d8_69) rfl ((if0 _ _).trans (flt (mt (lw_lt _ _).mp u1)).1) (XS.goto X719.here hx rfl (pc0 := 72) (pc' := 94) rfl (B d8_72) (by decide) (by decide) (XS.aloadN X719.here hx rfl (B d8_94) rfl rfl k))))) ?_
 obtain ⟨T721, X721, e721, st721⟩ := getF X719 hx hZ hown (host := "") (Or.inl (ww hw 11 rfl)) Via.refl e719 P0 (g := (mkF m 95 (Sh5 a1c 0 x1c 2) [(.ref a1c)])) rfl rfl (B d8_95)
 refine GoW.sg (mkF m 98 (Sh5 a1c 0 x1c 2) [(.ref a2c)]) (fun t k => st721 t k) ?_
 refine GoW.sg (mkF m 100 (Sh5 a1c 0 x1c 2) [(.double x1c), (.int 0), (.ref a2c)]) (fun t k => XS.iloadN X721.here hx rfl (B d8_98) rfl (XS.dloadN X721.here hx rfl (B d8_99) rfl k)) ?_
 obtain ⟨cl722, Ar722, q722, Sz722, Nn722, Hh722, Gg722⟩ := P2
 have hin722 : ¬ ((0 : Int32) < 0 ∨ cl722.slots.size ≤ ((0 : Int32)).toNatClampNeg) := inb_of Sz722 ⟨by decide, by decide⟩
 obtain ⟨T722, h722, X722, e722, W722, st722⟩ := stD X721 hx hZ e721 Ar722 (j := (0 : Int32)) hin722 (g := (mkF m 100 (Sh5 a1c 0 x1c 2) [(.double x1c), (.int 0), (.ref a2c)])) rfl rfl (B d8_100)
 have f722_1 := (Keep.refl h0 [a2c]).wr W722 (Or.inl (List.mem_of_getElem? (i := 0) rfl))
 have V722 : Arv Z h722 a2c ka2c .double (4 : Int32) [(.double x1c), (.double x2c), (.double x3c), (.double x4c)] (.double (0 : UInt64)) := Arv.set Ar722 q722 Sz722 Nn722 Hh722 Gg722 rfl W722 0 rfl (Nat.le_of_ble_eq_true rfl)
 have N722 := Fr.snoc X722 N0 g_a2c
 refine GoW.sg (mkF m 101 (Sh5 a1c 0 x1c 2) []) (fun t k => st722 t k) ?_
 refine GoW.retV X722 hx Bd.returns (B d8_101) Bd.notSynchronized ?_ (by decide) (by decide)
 rw [e722]
 exact ⟨rfl, N722, f722_1, V722⟩
def Q8_27 (Z : State) (a1c a2c : Addr) (ka2c : ClassId) (x1c x2c : UInt64) (x3c x4c : UInt64) (x5c x6c : Int32) (x7c x8c : Int32) (h0 : Heap) (n0 : Nat) (v : Option Value) (h : Heap) (L : List Loc) : Prop := v = none ∧ Fr n0 L ∧ (Keep h0 h [a2c]) ∧ (Arv Z h a2c ka2c .double 4 [(.double x2c), (.double x4c), (.double x3c), (.double x1c)] (.double 0))
theorem rm8_27 (l : Launch) (Z : State) (a0 : Array Value) (hw : HW a0 Z) (a1c a2c : Addr) (ka2c : ClassId) (x1c x2c : UInt64) (x3c x4c : UInt64) (x5c x6c : Int32) (x7c x8c : Int32) (h0 : Heap) (n0 : Nat) (P0 : Fld Z h0 a1c HSn "heap" "[D" (.ref a2c)) (P1 : Fld Z h0 a1c HSn "size" "I" (.int 4)) (P2 : Arv Z h0 a2c ka2c .double 4 [(.double x1c), (.double x2c), (.double x3c), (.double x4c)] (.double 0)) (g_a2c : n0 ≤ a2c) (ne_a1c_a2c : a1c ≠ a2c) (u0 : ¬ ((Int32.toInt64 x5c) < (Int32.toInt64 x6c))) (u1 : (Int32.toInt64 x6c) < (Int32.toInt64 x7c)) (u2 : (Int32.toInt64 x8c) < (Int32.toInt64 x7c)) (hx1c : x1c = FP.l2d (Int32.toInt64 x7c)) (hx2c : x2c = FP.l2d (Int32.toInt64 x6c)) (hx3c : x3c = FP.l2d (Int32.toInt64 x5c)) (hx4c : x4c = FP.l2d (Int32.toInt64 x8c)) :
  MM l Z Y8 prog_43_method_5_code 5 none 0 0 0 0 #[(.ref a1c), (.int 0)] h0 (Q8_27 Z a1c a2c ka2c x1c x2c x3c x4c x5c x6c x7c x8c h0 n0) := by
 refine own_start (fun m => (mkF m 0 (Sh3 a1c 0) [])) (plainFor_of_name pn_com_example_nearterm_nearterm_retrieval_HighestScores) (by simp [entryFrame, mkF, argsToLocals, Value.category]) n0 ?_
 intro p e s m below meth c s₁ Bd hx B hml hZ hown hnm X0 e0 N0
 refine GoW.sg (mkF m 1 (Sh3 a1c 0) [(.ref a1c)]) (fun t k => XS.aloadN X0.here hx rfl (B d8_0) rfl rfl k) ?_
 obtain ⟨T779, X779, e779, st779⟩ := getF X0 hx hZ hown (host := "") (Or.inl (ww hw 11 rfl)) Via.refl e0 P0 (g := (mkF m 1 (Sh3 a1c 0) [(.ref a1c)])) rfl rfl (B d8_1)
 refine GoW.sg (mkF m 4 (Sh3 a1c 0) [(.ref a2c)]) (fun t k => st779 t k) ?_
 refine GoW.sg (mkF m 5 (Sh3 a1c 0) [(.int 0), (.ref a2c)]) (fun t k => XS.iloadN X779.here hx rfl (B d8_4) rfl k) ?_
 obtain ⟨cl780, Ar780, q780, Sz780, Nn780, Hh780, Gg780⟩ := id P2
 have hin780 : ¬ ((0 : Int32) < 0 ∨ cl780.slots.size ≤ ((0 : Int32)).toNatClampNeg) := inb_of Sz780 ⟨by decide, by decide⟩
 refine GoW.sg (mkF m 6 (Sh3 a1c 0) [(.double x1c)]) (fun t k => X779.daload hx (j := (0 : Int32)) (v := (.double x1c)) (hq_ e779 Ar780.1) (State.isArrayOf_alike hZ.alike Ar780.2.1) Ar780.2.2 hin780 (Hh780.at hin780 rfl) (g := (mkF m 5 (Sh3 a1c 0) [(.int 0), (.ref a2c)])) rfl rfl (B d8_5) t k) ?_
 refine GoW.sg (mkF m 9 (Sh4 a1c 0 x1c) [(.int 0), (.int 2)]) (fun t k => XS.dstoreN X779.here hx rfl (B d8_6) rfl (l' := (Sh4 a1c 0 x1c)) rfl (XS.iconst X779.here hx rfl (B d8_7) (XS.iloadN X779.here hx rfl (B d8_8) rfl k))) ?_
 refine GoW.st (fun t k => XS.imul X779.here hx rfl (B d8_9) rfl k) ?_
 rw [show ((2 : Int32) * (0 : Int32)) = (0 : Int32) from by decide]
 show GoW p e below s (Q8_27 Z a1c a2c ka2c x1c x2c x3c x4c x5c x6c x7c x8c h0 n0) 0 0 (T779.setTop (mkF m 10 (Sh4 a1c 0 x1c) [(.int 0)]))
 refine GoW.sg (mkF m 11 (Sh4 a1c 0 x1c) [(.int 1), (.int 0)]) (fun t k => XS.iconst X779.here hx rfl (B d8_10) k) ?_
 refine GoW.st (fun t k => XS.iadd X779.here hx rfl (B d8_11) rfl k) ?_
 rw [show ((0 : Int32) + (1 : Int32)) = (1 : Int32) from by decide]
 show GoW p e below s (Q8_27 Z a1c a2c ka2c x1c x2c x3c x4c x5c x6c x7c x8c h0 n0) 0 0 (T779.setTop (mkF m 12 (Sh4 a1c 0 x1c) [(.int 1)]))
 refine GoW.sg (mkF m 13 (Sh4 a1c 0 x1c) [(.ref a1c), (.int 1)]) (fun t k => XS.aloadN X779.here hx rfl (B d8_12) rfl rfl k) ?_
 obtain ⟨T781, X781, e781, st781⟩ := getF X779 hx hZ hown (host := "") (Or.inl (ww hw 18 rfl)) Via.refl e779 P1 (g := (mkF m 13 (Sh4 a1c 0 x1c) [(.ref a1c), (.int 1)])) rfl rfl (B d8_13)
 refine GoW.sg (mkF m 16 (Sh4 a1c 0 x1c) [(.int 4), (.int 1)]) (fun t k => st781 t k) ?_
 refine GoW.sg (mkF m 21 (Sh4 a1c 0 x1c) [(.int 0), (.int 2)]) (fun t k => XS.icmpNo X781.here hx rfl (B d8_16) rfl (by decide) (XS.iconst X781.here hx rfl (B d8_19) (XS.iloadN X781.here hx rfl (B d8_20) rfl k))) ?_
 refine GoW.st (fun t k => XS.imul X781.here hx rfl (B d8_21) rfl k) ?_
 rw [show ((2 : Int32) * (0 : Int32)) = (0 : Int32) from by decide]
 show GoW p e below s (Q8_27 Z a1c a2c ka2c x1c x2c x3c x4c x5c x6c x7c x8c h0 n0) 0 0 (T781.setTop (mkF m 22 (Sh4 a1c 0 x1c) [(.int 0)]))
 refine GoW.sg (mkF m 23 (Sh4 a1c 0 x1c) [(.int 1), (.int 0)]) (fun t k => XS.iconst X781.here hx rfl (B d8_22) k) ?_
 refine GoW.st (fun t k => XS.iadd X781.here hx rfl (B d8_23) rfl k) ?_
 rw [show ((0 : Int32) + (1 : Int32)) = (1 : Int32) from by decide]
 show GoW p e below s (Q8_27 Z a1c a2c ka2c x1c x2c x3c x4c x5c x6c x7c x8c h0 n0) 0 0 (T781.setTop (mkF m 24 (Sh4 a1c 0 x1c) [(.int 1)]))
 refine GoW.sg (mkF m 29 (Sh5 a1c 0 x1c 1) [(.int 1), (.int 1)]) (fun t k => XS.istore X781.here hx rfl (B d8_24) rfl (l' := (Sh5 a1c 0 x1c 1)) rfl (XS.iload X781.here hx rfl (B d8_26) rfl (XS.iconst X781.here hx rfl (B d8_28) k))) ?_
 refine GoW.st (fun t k => XS.iadd X781.here hx rfl (B d8_29) rfl k) ?_
 rw [show ((1 : Int32) + (1 : Int32)) = (2 : Int32) from by decide]
 show GoW p e below s (Q8_27 Z a1c a2c ka2c x1c x2c x3c x4c x5c x6c x7c x8c h0 n0) 0 0 (T781.setTop (mkF m 30 (Sh5 a1c 0 x1c 1) [(.int 2)]))
 refine GoW.sg (mkF m 31 (Sh5 a1c 0 x1c 1) [(.ref a1c), (.int 2)]) (fun t k => XS.aloadN X781.here hx rfl (B d8_30) rfl rfl k) ?_
 obtain ⟨T782, X782, e782, st782⟩ := getF X781 hx hZ hown (host := "") (Or.inl (ww hw 18 rfl)) Via.refl e781 P1 (g := (mkF m 31 (Sh5 a1c 0 x1c 1) [(.ref a1c), (.int 2)])) rfl rfl (B d8_31)
 refine GoW.sg (mkF m 34 (Sh5 a1c 0 x1c 1) [(.int 4), (.int 2)]) (fun t k => st782 t k) ?_
 refine GoW.sg (mkF m 38 (Sh5 a1c 0 x1c 1) [(.ref a1c)]) (fun t k => XS.icmpNo X782.here hx rfl (B d8_34) rfl (by decide) (XS.aloadN X782.here hx rfl (B d8_37) rfl rfl k)) ?_
 obtain ⟨T783, X783, e783, st783⟩ := getF X782 hx hZ hown (host := "") (Or.inl (ww hw 11 rfl)) Via.refl e782 P0 (g := (mkF m 38 (Sh5 a1c 0 x1c 1) [(.ref a1c)])) rfl rfl (B d8_38)
 refine GoW.sg (mkF m 41 (Sh5 a1c 0 x1c 1) [(.ref a2c)]) (fun t k => st783 t k) ?_
 refine GoW.sg (mkF m 44 (Sh5 a1c 0 x1c 1) [(.int 1), (.int 1), (.ref a2c)]) (fun t k => XS.iload X783.here hx rfl (B d8_41) rfl (XS.iconst X783.here hx rfl (B d8_43) k)) ?_
 refine GoW.st (fun t k => XS.iadd X783.here hx rfl (B d8_44) rfl k) ?_
 rw [show ((1 : Int32) + (1 : Int32)) = (2 : Int32) from by decide]
 show GoW p e below s (Q8_27 Z a1c a2c ka2c x1c x2c x3c x4c x5c x6c x7c x8c h0 n0) 0 0 (T783.setTop (mkF m 45 (Sh5 a1c 0 x1c 1) [(.int 2), (.ref a2c)]))
 obtain ⟨cl784, Ar784, q784, Sz784, Nn784, Hh784, Gg784⟩ := id P2
 have hin784 : ¬ ((2 : Int32) < 0 ∨ cl784.slots.size ≤ ((2 : Int32)).toNatClampNeg) := inb_of Sz784 ⟨by decide, by decide⟩
 refine GoW.sg (mkF m 46 (Sh5 a1c 0 x1c 1) [(.double x3c)]) (fun t k => X783.daload hx (j := (2 : Int32)) (v := (.double x3c)) (hq_ e783 Ar784.1) (State.isArrayOf_alike hZ.alike Ar784.2.1) Ar784.2.2 hin784 (Hh784.at hin784 rfl) (g := (mkF m 45 (Sh5 a1c 0 x1c 1) [(.int 2), (.ref a2c)])) rfl rfl (B d8_45) t k) ?_
 refine GoW.sg (mkF m 47 (Sh5 a1c 0 x1c 1) [(.ref a1c), (.double x3c)]) (fun t k => XS.aloadN X783.here hx rfl (B d8_46) rfl rfl k) ?_
 obtain ⟨T785, X785, e785, st785⟩ := getF X783 hx hZ hown (host := "") (Or.inl (ww hw 11 rfl)) Via.refl e783 P0 (g := (mkF m 47 (Sh5 a1c 0 x1c 1) [(.ref a1c), (.double x3c)])) rfl rfl (B d8_47)
 refine GoW.sg (mkF m 50 (Sh5 a1c 0 x1c 1) [(.ref a2c), (.double x3c)]) (fun t k => st785 t k) ?_
 refine GoW.sg (mkF m 52 (Sh5 a1c 0 x1c 1) [(.int 1), (.ref a2c), (.double x3c)]) (fun t k => XS.iload X785.here hx rfl (B d8_50) rfl k) ?_
 obtain ⟨cl786, Ar786, q786, Sz786, Nn786, Hh786, Gg786⟩ := id P2
 have hin786 : ¬ ((1 : Int32) < 0 ∨ cl786.slots.size ≤ ((1 : Int32)).toNatClampNeg) := inb_of Sz786 ⟨by decide, by decide⟩
 refine GoW.sg (mkF m 53 (Sh5 a1c 0 x1c 1) [(.double x2c), (.double x3c)]) (fun t k => X785.daload hx (j := (1 : Int32)) (v := (.double x2c)) (hq_ e785 Ar786.1) (State.isArrayOf_alike hZ.alike Ar786.2.1) Ar786.2.2 hin786 (Hh786.at hin786 rfl) (g := (mkF m 52 (Sh5 a1c 0 x1c 1) [(.int 1), (.ref a2c), (.double x3c)])) rfl rfl (B d8_52) t k) ?_
 refine GoW.sg (mkF m 61 (Sh5 a1c 0 x1c 1) [(.ref a1c)]) (fun t k => XS.dcmpS X785.here hx rfl (B d8_53) rfl (v := (lcmpW (Int32.toInt64 x5c) (Int32.toInt64 x6c))) (by rw [hx3c, hx2c]; exact dcmpV_w (own_b53 _) (own_b53 _) _) (XS.ifYes X785.here hx rfl (pc0 := 54) (pc' := 60) rfl (B d8_54) rfl ((if0 _ _).trans (flt (mt (lw_lt _ _).mp u0)).2.1) (by decide) (by decide) (XS.aloadN X785.here hx rfl (B d8_60) rfl rfl k))) ?_
 obtain ⟨T787, X787, e787, st787⟩ := getF X785 hx hZ hown (host := "") (Or.inl (ww hw 11 rfl)) Via.refl e785 P0 (g := (mkF m 61 (Sh5 a1c 0 x1c 1) [(.ref a1c)])) rfl rfl (B d8_61)
 refine GoW.sg (mkF m 64 (Sh5 a1c 0 x1c 1) [(.ref a2c)]) (fun t k => st787 t k) ?_
 refine GoW.sg (mkF m 66 (Sh5 a1c 0 x1c 1) [(.int 1), (.ref a2c)]) (fun t k => XS.iload X787.here hx rfl (B d8_64) rfl k) ?_
 obtain ⟨cl788, Ar788, q788, Sz788, Nn788, Hh788, Gg788⟩ := id P2
 have hin788 : ¬ ((1 : Int32) < 0 ∨ cl788.slots.size ≤ ((1 : Int32)).toNatClampNeg) := inb_of Sz788 ⟨by decide, by decide⟩
 refine GoW.sg (mkF m 67 (Sh5 a1c 0 x1c 1) [(.double x2c)]) (fun t k => X787.daload hx (j := (1 : Int32)) (v := (.double x2c)) (hq_ e787 Ar788.1) (State.isArrayOf_alike hZ.alike Ar788.2.1) Ar788.2.2 hin788 (Hh788.at hin788 rfl) (g := (mkF m 66 (Sh5 a1c 0 x1c 1) [(.int 1), (.ref a2c)])) rfl rfl (B d8_66) t k) ?_
 refine GoW.sg (mkF m 76 (Sh5 a1c 0 x1c 1) [(.ref a1c)]) (fun t k => XS.dloadN X787.here hx rfl (B d8_67) rfl (XS.dcmpS X787.here hx rfl (B d8_68) rfl (v := (lcmpW (Int32.toInt64 x6c) (Int32.toInt64 x7c))) (by rw [hx2c, hx1c]; exact dcmpV_w (own_b53 _) (own_b53 _) _) (XS.ifYes X787.here hx rfl (pc0 := 69) (pc' := 75) rfl (B d8_69) rfl ((if0 _ _).trans (tlt ((lw_lt _ _).mpr u1)).1) (by decide) (by decide) (XS.aloadN X787.here hx rfl (B d8_75) rfl rfl k)))) ?_
 obtain ⟨T789, X789, e789, st789⟩ := getF X787 hx hZ hown (host := "") (Or.inl (ww hw 11 rfl)) Via.refl e787 P0 (g := (mkF m 76 (Sh5 a1c 0 x1c 1) [(.ref a1c)])) rfl rfl (B d8_76)
 refine GoW.sg (mkF m 79 (Sh5 a1c 0 x1c 1) [(.ref a2c)]) (fun t k => st789 t k) ?_
 refine GoW.sg (mkF m 81 (Sh5 a1c 0 x1c 1) [(.ref a1c), (.int 0), (.ref a2c)]) (fun t k => XS.iloadN X789.here hx rfl (B d8_79) rfl (XS.aloadN X789.here hx rfl (B d8_80) rfl rfl k)) ?_
 obtain ⟨T790, X790, e790, st790⟩ := getF X789 hx hZ hown (host := "") (Or.inl (ww hw 11 rfl)) Via.refl e789 P0 (g := (mkF m 81 (Sh5 a1c 0 x1c 1) [(.ref a1c), (.int 0), (.ref a2c)])) rfl rfl (B d8_81)
 refine GoW.sg (mkF m 84 (Sh5 a1c 0 x1c 1) [(.ref a2c), (.int 0), (.ref a2c)]) (fun t k => st790 t k) ?_
 refine GoW.sg (mkF m 86 (Sh5 a1c 0 x1c 1) [(.int 1), (.ref a2c), (.int 0), (.ref a2c)]) (fun t k => XS.iload X790.here hx rfl (B d8_84) rfl k) ?_
 obtain ⟨cl791, Ar791, q791, Sz791, Nn791, Hh791, Gg791⟩ := id P2
 have hin791 : ¬ ((1 : Int32) < 0 ∨ cl791.slots.size ≤ ((1 : Int32)).toNatClampNeg) := inb_of Sz791 ⟨by decide, by decide⟩
 refine GoW.sg (mkF m 87 (Sh5 a1c 0 x1c 1) [(.double x2c), (.int 0), (.ref a2c)]) (fun t k => X790.daload hx (j := (1 : Int32)) (v := (.double x2c)) (hq_ e790 Ar791.1) (State.isArrayOf_alike hZ.alike Ar791.2.1) Ar791.2.2 hin791 (Hh791.at hin791 rfl) (g := (mkF m 86 (Sh5 a1c 0 x1c 1) [(.int 1), (.ref a2c), (.int 0), (.ref a2c)])) rfl rfl (B d8_86) t k) ?_
 obtain ⟨cl792, Ar792, q792, Sz792, Nn792, Hh792, Gg792⟩ := P2
 have hin792 : ¬ ((0 : Int32) < 0 ∨ cl792.slots.size ≤ ((0 : Int32)).toNatClampNeg) := inb_of Sz792 ⟨by decide, by decide⟩
 obtain ⟨T792, h792, X792, e792, W792, st792⟩ := stD X790 hx hZ e790 Ar792 (j := (0 : Int32)) hin792 (g := (mkF m 87 (Sh5 a1c 0 x1c 1) [(.double x2c), (.int 0), (.ref a2c)])) rfl rfl (B d8_87)
 have f792_1 := P0.other W792 (Or.inl ne_a1c_a2c)
 have f792_2 := P1.other W792 (Or.inl ne_a1c_a2c)
 have f792_3 := (Keep.refl h0 [a2c]).wr W792 (Or.inl (List.mem_of_getElem? (i := 0) rfl))
 have V792 : Arv Z h792 a2c ka2c .double (4 : Int32) [(.double x2c), (.double x2c), (.double x3c), (.double x4c)] (.double (0 : UInt64)) := Arv.set Ar792 q792 Sz792 Nn792 Hh792 Gg792 rfl W792 0 rfl (Nat.le_of_ble_eq_true rfl)
 have N792 := Fr.snoc X792 N0 g_a2c
 refine GoW.sg (mkF m 88 (Sh5 a1c 0 x1c 1) []) (fun t k => st792 t k) ?_
 refine GoW.sg (mkF m 9 (Sh5 a1c 1 x1c 1) [(.int 1), (.int 2)]) (fun t k => XS.iload X792.here hx rfl (B d8_88) rfl (XS.istoreN X792.here hx rfl (B d8_90) rfl (l' := (Sh5 a1c 1 x1c 1)) rfl (XS.goto X792.here hx rfl (pc0 := 91) (pc' := 7) rfl (B d8_91) (by decide) (by decide) (XS.iconst X792.here hx rfl (B d8_7) (XS.iloadN X792.here hx rfl (B d8_8) rfl k))))) ?_
 refine GoW.st (fun t k => XS.imul X792.here hx rfl (B d8_9) rfl k) ?_
 rw [show ((2 : Int32) * (1 : Int32)) = (2 : Int32) from by decide]
 show GoW p e below s (Q8_27 Z a1c a2c ka2c x1c x2c x3c x4c x5c x6c x7c x8c h0 n0) 0 0 (T792.setTop (mkF m 10 (Sh5 a1c 1 x1c 1) [(.int 2)]))
 refine GoW.sg (mkF m 11 (Sh5 a1c 1 x1c 1) [(.int 1), (.int 2)]) (fun t k => XS.iconst X792.here hx rfl (B d8_10) k) ?_
 refine GoW.st (fun t k => XS.iadd X792.here hx rfl (B d8_11) rfl k) ?_
 rw [show ((2 : Int32) + (1 : Int32)) = (3 : Int32) from by decide]
 show GoW p e below s (Q8_27 Z a1c a2c ka2c x1c x2c x3c x4c x5c x6c x7c x8c h0 n0) 0 0 (T792.setTop (mkF m 12 (Sh5 a1c 1 x1c 1) [(.int 3)]))
 refine GoW.sg (mkF m 13 (Sh5 a1c 1 x1c 1) [(.ref a1c), (.int 3)]) (fun t k => XS.aloadN X792.here hx rfl (B d8_12) rfl rfl k) ?_
 obtain ⟨T793, X793, e793, st793⟩ := getF X792 hx hZ hown (host := "") (Or.inl (ww hw 18 rfl)) Via.refl e792 f792_2 (g := (mkF m 13 (Sh5 a1c 1 x1c 1) [(.ref a1c), (.int 3)])) rfl rfl (B d8_13)
 refine GoW.sg (mkF m 16 (Sh5 a1c 1 x1c 1) [(.int 4), (.int 3)]) (fun t k => st793 t k) ?_
 refine GoW.sg (mkF m 21 (Sh5 a1c 1 x1c 1) [(.int 1), (.int 2)]) (fun t k => XS.icmpNo X793.here hx rfl (B d8_16) rfl (by decide) (XS.iconst X793.here hx rfl (B d8_19) (XS.iloadN X793.here hx rfl (B d8_20) rfl k))) ?_
 refine GoW.st (fun t k => XS.imul X793.here hx rfl (B d8_21) rfl k) ?_
 rw [show ((2 : Int32) * (1 : Int32)) = (2 : Int32) from by decide]
 show GoW p e below s (Q8_27 Z a1c a2c ka2c x1c x2c x3c x4c x5c x6c x7c x8c h0 n0) 0 0 (T793.setTop (mkF m 22 (Sh5 a1c 1 x1c 1) [(.int 2)]))
 refine GoW.sg (mkF m 23 (Sh5 a1c 1 x1c 1) [(.int 1), (.int 2)]) (fun t k => XS.iconst X793.here hx rfl (B d8_22) k) ?_
 refine GoW.st (fun t k => XS.iadd X793.here hx rfl (B d8_23) rfl k) ?_
 rw [show ((2 : Int32) + (1 : Int32)) = (3 : Int32) from by decide]
 show GoW p e below s (Q8_27 Z a1c a2c ka2c x1c x2c x3c x4c x5c x6c x7c x8c h0 n0) 0 0 (T793.setTop (mkF m 24 (Sh5 a1c 1 x1c 1) [(.int 3)]))
 refine GoW.sg (mkF m 29 (Sh5 a1c 1 x1c 3) [(.int 1), (.int 3)]) (fun t k => XS.istore X793.here hx rfl (B d8_24) rfl (l' := (Sh5 a1c 1 x1c 3)) rfl (XS.iload X793.here hx rfl (B d8_26) rfl (XS.iconst X793.here hx rfl (B d8_28) k))) ?_
 refine GoW.st (fun t k => XS.iadd X793.here hx rfl (B d8_29) rfl k) ?_
 rw [show ((3 : Int32) + (1 : Int32)) = (4 : Int32) from by decide]
 show GoW p e below s (Q8_27 Z a1c a2c ka2c x1c x2c x3c x4c x5c x6c x7c x8c h0 n0) 0 0 (T793.setTop (mkF m 30 (Sh5 a1c 1 x1c 3) [(.int 4)]))
 refine GoW.sg (mkF m 31 (Sh5 a1c 1 x1c 3) [(.ref a1c), (.int 4)]) (fun t k => XS.aloadN X793.here hx rfl (B d8_30) rfl rfl k) ?_
 obtain ⟨T794, X794, e794, st794⟩ := getF X793 hx hZ hown (host := "") (Or.inl (ww hw 18 rfl)) Via.refl e793 f792_2 (g := (mkF m 31 (Sh5 a1c 1 x1c 3) [(.ref a1c), (.int 4)])) rfl rfl (B d8_31)
 refine GoW.sg (mkF m 34 (Sh5 a1c 1 x1c 3) [(.int 4), (.int 4)]) (fun t k => st794 t k) ?_
 refine GoW.sg (mkF m 61 (Sh5 a1c 1 x1c 3) [(.ref a1c)]) (fun t k => XS.icmpYes X794.here hx rfl (pc0 := 34) (pc' := 60) rfl (B d8_34) rfl (by decide) (by decide) (by decide) (XS.aloadN X794.here hx rfl (B d8_60) rfl rfl k)) ?_
 obtain ⟨T795, X795, e795, st795⟩ := getF X794 hx hZ hown (host := "") (Or.inl (ww hw 11 rfl)) Via.refl e794 f792_1 (g := (mkF m 61 (Sh5 a1c 1 x1c 3) [(.ref a1c)])) rfl rfl (B d8_61)
 refine GoW.sg (mkF m 64 (Sh5 a1c 1 x1c 3) [(.ref a2c)]) (fun t k => st795 t k) ?_
 refine GoW.sg (mkF m 66 (Sh5 a1c 1 x1c 3) [(.int 3), (.ref a2c)]) (fun t k => XS.iload X795.here hx rfl (B d8_64) rfl k) ?_
 obtain ⟨cl796, Ar796, q796, Sz796, Nn796, Hh796, Gg796⟩ := id V792
 have hin796 : ¬ ((3 : Int32) < 0 ∨ cl796.slots.size ≤ ((3 : Int32)).toNatClampNeg) := inb_of Sz796 ⟨by decide, by decide⟩
 refine GoW.sg (mkF m 67 (Sh5 a1c 1 x1c 3) [(.double x4c)]) (fun t k => X795.daload hx (j := (3 : Int32)) (v := (.double x4c)) (hq_ e795 Ar796.1) (State.isArrayOf_alike hZ.alike Ar796.2.1) Ar796.2.2 hin796 (Hh796.at hin796 rfl) (g := (mkF m 66 (Sh5 a1c 1 x1c 3) [(.int 3), (.ref a2c)])) rfl rfl (B d8_66) t k) ?_
 refine GoW.sg (mkF m 76 (Sh5 a1c 1 x1c 3) [(.ref a1c)]) (fun t k => XS.dloadN X795.here hx rfl (B d8_67) rfl (XS.dcmpS X795.here hx rfl (B d8_68) rfl (v := (lcmpW (Int32.toInt64 x8c) (Int32.toInt64 x7c))) (by rw [hx4c, hx1c]; exact dcmpV_w (own_b53 _) (own_b53 _) _) (XS.ifYes X795.here hx rfl (pc0 := 69) (pc' := 75) rfl (B d8_69) rfl ((if0 _ _).trans (tlt ((lw_lt _ _).mpr u2)).1) (by decide) (by decide) (XS.aloadN X795.here hx rfl (B d8_75) rfl rfl k)))) ?_
 obtain ⟨T797, X797, e797, st797⟩ := getF X795 hx hZ hown (host := "") (Or.inl (ww hw 11 rfl)) Via.refl e795 f792_1 (g := (mkF m 76 (Sh5 a1c 1 x1c 3) [(.ref a1c)])) rfl rfl (B d8_76)
 refine GoW.sg (mkF m 79 (Sh5 a1c 1 x1c 3) [(.ref a2c)]) (fun t k => st797 t k) ?_
 refine GoW.sg (mkF m 81 (Sh5 a1c 1 x1c 3) [(.ref a1c), (.int 1), (.ref a2c)]) (fun t k => XS.iloadN X797.here hx rfl (B d8_79) rfl (XS.aloadN X797.here hx rfl (B d8_80) rfl rfl k)) ?_
 obtain ⟨T798, X798, e798, st798⟩ := getF X797 hx hZ hown (host := "") (Or.inl (ww hw 11 rfl)) Via.refl e797 f792_1 (g := (mkF m 81 (Sh5 a1c 1 x1c 3) [(.ref a1c), (.int 1), (.ref a2c)])) rfl rfl (B d8_81)
 refine GoW.sg (mkF m 84 (Sh5 a1c 1 x1c 3) [(.ref a2c), (.int 1), (.ref a2c)]) (fun t k => st798 t k) ?_
 refine GoW.sg (mkF m 86 (Sh5 a1c 1 x1c 3) [(.int 3), (.ref a2c), (.int 1), (.ref a2c)]) (fun t k => XS.iload X798.here hx rfl (B d8_84) rfl k) ?_
 obtain ⟨cl799, Ar799, q799, Sz799, Nn799, Hh799, Gg799⟩ := id V792
 have hin799 : ¬ ((3 : Int32) < 0 ∨ cl799.slots.size ≤ ((3 : Int32)).toNatClampNeg) := inb_of Sz799 ⟨by decide, by decide⟩
 refine GoW.sg (mkF m 87 (Sh5 a1c 1 x1c 3) [(.double x4c), (.int 1), (.ref a2c)]) (fun t k => X798.daload hx (j := (3 : Int32)) (v := (.double x4c)) (hq_ e798 Ar799.1) (State.isArrayOf_alike hZ.alike Ar799.2.1) Ar799.2.2 hin799 (Hh799.at hin799 rfl) (g := (mkF m 86 (Sh5 a1c 1 x1c 3) [(.int 3), (.ref a2c), (.int 1), (.ref a2c)])) rfl rfl (B d8_86) t k) ?_
 obtain ⟨cl800, Ar800, q800, Sz800, Nn800, Hh800, Gg800⟩ := V792
 have hin800 : ¬ ((1 : Int32) < 0 ∨ cl800.slots.size ≤ ((1 : Int32)).toNatClampNeg) := inb_of Sz800 ⟨by decide, by decide⟩
 obtain ⟨T800, h800, X800, e800, W800, st800⟩ := stD X798 hx hZ e798 Ar800 (j := (1 : Int32)) hin800 (g := (mkF m 87 (Sh5 a1c 1 x1c 3) [(.double x4c), (.int 1), (.ref a2c)])) rfl rfl (B d8_87)
 have f800_4 := f792_1.other W800 (Or.inl ne_a1c_a2c)
 have f800_5 := f792_2.other W800 (Or.inl ne_a1c_a2c)
 have f800_6 := f792_3.wr W800 (Or.inl (List.mem_of_getElem? (i := 0) rfl))
 have V800 : Arv Z h800 a2c ka2c .double (4 : Int32) [(.double x2c), (.double x4c), (.double x3c), (.double x4c)] (.double (0 : UInt64)) := Arv.set Ar800 q800 Sz800 Nn800 Hh800 Gg800 rfl W800 1 rfl (Nat.le_of_ble_eq_true rfl)
 have N800 := Fr.snoc X800 N792 g_a2c
 refine GoW.sg (mkF m 88 (Sh5 a1c 1 x1c 3) []) (fun t k => st800 t k) ?_
 refine GoW.sg (mkF m 9 (Sh5 a1c 3 x1c 3) [(.int 3), (.int 2)]) (fun t k => XS.iload X800.here hx rfl (B d8_88) rfl (XS.istoreN X800.here hx rfl (B d8_90) rfl (l' := (Sh5 a1c 3 x1c 3)) rfl (XS.goto X800.here hx rfl (pc0 := 91) (pc' := 7) rfl (B d8_91) (by decide) (by decide) (XS.iconst X800.here hx rfl (B d8_7) (XS.iloadN X800.here hx rfl (B d8_8) rfl k))))) ?_
 refine GoW.st (fun t k => XS.imul X800.here hx rfl (B d8_9) rfl k) ?_
 rw [show ((2 : Int32) * (3 : Int32)) = (6 : Int32) from by decide]
 show GoW p e below s (Q8_27 Z a1c a2c ka2c x1c x2c x3c x4c x5c x6c x7c x8c h0 n0) 0 0 (T800.setTop (mkF m 10 (Sh5 a1c 3 x1c 3) [(.int 6)]))
 refine GoW.sg (mkF m 11 (Sh5 a1c 3 x1c 3) [(.int 1), (.int 6)]) (fun t k => XS.iconst X800.here hx rfl (B d8_10) k) ?_
 refine GoW.st (fun t k => XS.iadd X800.here hx rfl (B d8_11) rfl k) ?_
 rw [show ((6 : Int32) + (1 : Int32)) = (7 : Int32) from by decide]
 show GoW p e below s (Q8_27 Z a1c a2c ka2c x1c x2c x3c x4c x5c x6c x7c x8c h0 n0) 0 0 (T800.setTop (mkF m 12 (Sh5 a1c 3 x1c 3) [(.int 7)]))
 refine GoW.sg (mkF m 13 (Sh5 a1c 3 x1c 3) [(.ref a1c), (.int 7)]) (fun t k => XS.aloadN X800.here hx rfl (B d8_12) rfl rfl k) ?_
 obtain ⟨T801, X801, e801, st801⟩ := getF X800 hx hZ hown (host := "") (Or.inl (ww hw 18 rfl)) Via.refl e800 f800_5 (g := (mkF m 13 (Sh5 a1c 3 x1c 3) [(.ref a1c), (.int 7)])) rfl rfl (B d8_13)
 refine GoW.sg (mkF m 16 (Sh5 a1c 3 x1c 3) [(.int 4), (.int 7)]) (fun t k => st801 t k) ?_
 refine GoW.sg (mkF m 95 (Sh5 a1c 3 x1c 3) [(.ref a1c)]) (fun t k => XS.icmpYes X801.here hx rfl (pc0 := 16) (pc' := 94) rfl (B d8_16) rfl (by decide) (by decide) (by decide) (XS.aloadN X801.here hx rfl (B d8_94) rfl rfl k)) ?_
 obtain ⟨T802, X802, e802, st802⟩ := getF X801 hx hZ hown (host := "") (Or.inl (ww hw 11 rfl)) Via.refl e801 f800_4 (g := (mkF m 95 (Sh5 a1c 3 x1c 3) [(.ref a1c)])) rfl rfl (B d8_95)
 refine GoW.sg (mkF m 98 (Sh5 a1c 3 x1c 3) [(.ref a2c)]) (fun t k => st802 t k) ?_
 refine GoW.sg (mkF m 100 (Sh5 a1c 3 x1c 3) [(.double x1c), (.int 3), (.ref a2c)]) (fun t k => XS.iloadN X802.here hx rfl (B d8_98) rfl (XS.dloadN X802.here hx rfl (B d8_99) rfl k)) ?_
 obtain ⟨cl803, Ar803, q803, Sz803, Nn803, Hh803, Gg803⟩ := V800
 have hin803 : ¬ ((3 : Int32) < 0 ∨ cl803.slots.size ≤ ((3 : Int32)).toNatClampNeg) := inb_of Sz803 ⟨by decide, by decide⟩
 obtain ⟨T803, h803, X803, e803, W803, st803⟩ := stD X802 hx hZ e802 Ar803 (j := (3 : Int32)) hin803 (g := (mkF m 100 (Sh5 a1c 3 x1c 3) [(.double x1c), (.int 3), (.ref a2c)])) rfl rfl (B d8_100)
 have f803_9 := f800_6.wr W803 (Or.inl (List.mem_of_getElem? (i := 0) rfl))
 have V803 : Arv Z h803 a2c ka2c .double (4 : Int32) [(.double x2c), (.double x4c), (.double x3c), (.double x1c)] (.double (0 : UInt64)) := Arv.set Ar803 q803 Sz803 Nn803 Hh803 Gg803 rfl W803 3 rfl (Nat.le_of_ble_eq_true rfl)
 have N803 := Fr.snoc X803 N800 g_a2c
 refine GoW.sg (mkF m 101 (Sh5 a1c 3 x1c 3) []) (fun t k => st803 t k) ?_
 refine GoW.retV X803 hx Bd.returns (B d8_101) Bd.notSynchronized ?_ (by decide) (by decide)
 rw [e803]
 exact ⟨rfl, N803, f803_9, V803⟩
def Q8_28 (Z : State) (a1c a2c : Addr) (ka2c : ClassId) (x1c x2c : UInt64) (x3c x4c : UInt64) (x5c x6c : Int32) (x7c x8c : Int32) (h0 : Heap) (n0 : Nat) (v : Option Value) (h : Heap) (L : List Loc) : Prop := v = none ∧ Fr n0 L ∧ (Keep h0 h [a2c]) ∧ (Arv Z h a2c ka2c .double 4 [(.double x2c), (.double x1c), (.double x3c), (.double x4c)] (.double 0))
theorem rm8_28 (l : Launch) (Z : State) (a0 : Array Value) (hw : HW a0 Z) (a1c a2c : Addr) (ka2c : ClassId) (x1c x2c : UInt64) (x3c x4c : UInt64) (x5c x6c : Int32) (x7c x8c : Int32) (h0 : Heap) (n0 : Nat) (P0 : Fld Z h0 a1c HSn "heap" "[D" (.ref a2c)) (P1 : Fld Z h0 a1c HSn "size" "I" (.int 4)) (P2 : Arv Z h0 a2c ka2c .double 4 [(.double x1c), (.double x2c), (.double x3c), (.double x4c)] (.double 0)) (g_a2c : n0 ≤ a2c) (ne_a1c_a2c : a1c ≠ a2c) (u0 : ¬ ((Int32.toInt64 x5c) < (Int32.toInt64 x6c))) (u1 : (Int32.toInt64 x6c) < (Int32.toInt64 x7c)) (u2 : ¬ ((Int32.toInt64 x8c) < (Int32.toInt64 x7c))) (hx1c : x1c = FP.l2d (Int32.toInt64 x7c)) (hx2c : x2c = FP.l2d (Int32.toInt64 x6c)) (hx3c : x3c = FP.l2d (Int32.toInt64 x5c)) (hx4c : x4c = FP.l2d (Int32.toInt64 x8c)) :
  MM l Z Y8 prog_43_method_5_code 5 none 0 0 0 0 #[(.ref a1c), (.int 0)] h0 (Q8_28 Z a1c a2c ka2c x1c x2c x3c x4c x5c x6c x7c x8c h0 n0) := by
 refine own_start (fun m => (mkF m 0 (Sh3 a1c 0) [])) (plainFor_of_name pn_com_example_nearterm_nearterm_retrieval_HighestScores) (by simp [entryFrame, mkF, argsToLocals, Value.category]) n0 ?_
 intro p e s m below meth c s₁ Bd hx B hml hZ hown hnm X0 e0 N0
 refine GoW.sg (mkF m 1 (Sh3 a1c 0) [(.ref a1c)]) (fun t k => XS.aloadN X0.here hx rfl (B d8_0) rfl rfl k) ?_
 obtain ⟨T825, X825, e825, st825⟩ := getF X0 hx hZ hown (host := "") (Or.inl (ww hw 11 rfl)) Via.refl e0 P0 (g := (mkF m 1 (Sh3 a1c 0) [(.ref a1c)])) rfl rfl (B d8_1)
 refine GoW.sg (mkF m 4 (Sh3 a1c 0) [(.ref a2c)]) (fun t k => st825 t k) ?_
 refine GoW.sg (mkF m 5 (Sh3 a1c 0) [(.int 0), (.ref a2c)]) (fun t k => XS.iloadN X825.here hx rfl (B d8_4) rfl k) ?_
 obtain ⟨cl826, Ar826, q826, Sz826, Nn826, Hh826, Gg826⟩ := id P2
 have hin826 : ¬ ((0 : Int32) < 0 ∨ cl826.slots.size ≤ ((0 : Int32)).toNatClampNeg) := inb_of Sz826 ⟨by decide, by decide⟩
 refine GoW.sg (mkF m 6 (Sh3 a1c 0) [(.double x1c)]) (fun t k => X825.daload hx (j := (0 : Int32)) (v := (.double x1c)) (hq_ e825 Ar826.1) (State.isArrayOf_alike hZ.alike Ar826.2.1) Ar826.2.2 hin826 (Hh826.at hin826 rfl) (g := (mkF m 5 (Sh3 a1c 0) [(.int 0), (.ref a2c)])) rfl rfl (B d8_5) t k) ?_
 refine GoW.sg (mkF m 9 (Sh4 a1c 0 x1c) [(.int 0), (.int 2)]) (fun t k => XS.dstoreN X825.here hx rfl (B d8_6) rfl (l' := (Sh4 a1c 0 x1c)) rfl (XS.iconst X825.here hx rfl (B d8_7) (XS.iloadN X825.here hx rfl (B d8_8) rfl k))) ?_
 refine GoW.st (fun t k => XS.imul X825.here hx rfl (B d8_9) rfl k) ?_
 rw [show ((2 : Int32) * (0 : Int32)) = (0 : Int32) from by decide]
 show GoW p e below s (Q8_28 Z a1c a2c ka2c x1c x2c x3c x4c x5c x6c x7c x8c h0 n0) 0 0 (T825.setTop (mkF m 10 (Sh4 a1c 0 x1c) [(.int 0)]))
 refine GoW.sg (mkF m 11 (Sh4 a1c 0 x1c) [(.int 1), (.int 0)]) (fun t k => XS.iconst X825.here hx rfl (B d8_10) k) ?_
 refine GoW.st (fun t k => XS.iadd X825.here hx rfl (B d8_11) rfl k) ?_
 rw [show ((0 : Int32) + (1 : Int32)) = (1 : Int32) from by decide]
 show GoW p e below s (Q8_28 Z a1c a2c ka2c x1c x2c x3c x4c x5c x6c x7c x8c h0 n0) 0 0 (T825.setTop (mkF m 12 (Sh4 a1c 0 x1c) [(.int 1)]))
 refine GoW.sg (mkF m 13 (Sh4 a1c 0 x1c) [(.ref a1c), (.int 1)]) (fun t k => XS.aloadN X825.here hx rfl (B d8_12) rfl rfl k) ?_
 obtain ⟨T827, X827, e827, st827⟩ := getF X825 hx hZ hown (host := "") (Or.inl (ww hw 18 rfl)) Via.refl e825 P1 (g := (mkF m 13 (Sh4 a1c 0 x1c) [(.ref a1c), (.int 1)])) rfl rfl (B d8_13)
 refine GoW.sg (mkF m 16 (Sh4 a1c 0 x1c) [(.int 4), (.int 1)]) (fun t k => st827 t k) ?_
 refine GoW.sg (mkF m 21 (Sh4 a1c 0 x1c) [(.int 0), (.int 2)]) (fun t k => XS.icmpNo X827.here hx rfl (B d8_16) rfl (by decide) (XS.iconst X827.here hx rfl (B d8_19) (XS.iloadN X827.here hx rfl (B d8_20) rfl k))) ?_
 refine GoW.st (fun t k => XS.imul X827.here hx rfl (B d8_21) rfl k) ?_
 rw [show ((2 : Int32) * (0 : Int32)) = (0 : Int32) from by decide]
 show GoW p e below s (Q8_28 Z a1c a2c ka2c x1c x2c x3c x4c x5c x6c x7c x8c h0 n0) 0 0 (T827.setTop (mkF m 22 (Sh4 a1c 0 x1c) [(.int 0)]))
 refine GoW.sg (mkF m 23 (Sh4 a1c 0 x1c) [(.int 1), (.int 0)]) (fun t k => XS.iconst X827.here hx rfl (B d8_22) k) ?_
 refine GoW.st (fun t k => XS.iadd X827.here hx rfl (B d8_23) rfl k) ?_
 rw [show ((0 : Int32) + (1 : Int32)) = (1 : Int32) from by decide]
 show GoW p e below s (Q8_28 Z a1c a2c ka2c x1c x2c x3c x4c x5c x6c x7c x8c h0 n0) 0 0 (T827.setTop (mkF m 24 (Sh4 a1c 0 x1c) [(.int 1)]))
 refine GoW.sg (mkF m 29 (Sh5 a1c 0 x1c 1) [(.int 1), (.int 1)]) (fun t k => XS.istore X827.here hx rfl (B d8_24) rfl (l' := (Sh5 a1c 0 x1c 1)) rfl (XS.iload X827.here hx rfl (B d8_26) rfl (XS.iconst X827.here hx rfl (B d8_28) k))) ?_
 refine GoW.st (fun t k => XS.iadd X827.here hx rfl (B d8_29) rfl k) ?_
 rw [show ((1 : Int32) + (1 : Int32)) = (2 : Int32) from by decide]
 show GoW p e below s (Q8_28 Z a1c a2c ka2c x1c x2c x3c x4c x5c x6c x7c x8c h0 n0) 0 0 (T827.setTop (mkF m 30 (Sh5 a1c 0 x1c 1) [(.int 2)]))
 refine GoW.sg (mkF m 31 (Sh5 a1c 0 x1c 1) [(.ref a1c), (.int 2)]) (fun t k => XS.aloadN X827.here hx rfl (B d8_30) rfl rfl k) ?_
 obtain ⟨T828, X828, e828, st828⟩ := getF X827 hx hZ hown (host := "") (Or.inl (ww hw 18 rfl)) Via.refl e827 P1 (g := (mkF m 31 (Sh5 a1c 0 x1c 1) [(.ref a1c), (.int 2)])) rfl rfl (B d8_31)
 refine GoW.sg (mkF m 34 (Sh5 a1c 0 x1c 1) [(.int 4), (.int 2)]) (fun t k => st828 t k) ?_
 refine GoW.sg (mkF m 38 (Sh5 a1c 0 x1c 1) [(.ref a1c)]) (fun t k => XS.icmpNo X828.here hx rfl (B d8_34) rfl (by decide) (XS.aloadN X828.here hx rfl (B d8_37) rfl rfl k)) ?_
 obtain ⟨T829, X829, e829, st829⟩ := getF X828 hx hZ hown (host := "") (Or.inl (ww hw 11 rfl)) Via.refl e828 P0 (g := (mkF m 38 (Sh5 a1c 0 x1c 1) [(.ref a1c)])) rfl rfl (B d8_38)
 refine GoW.sg (mkF m 41 (Sh5 a1c 0 x1c 1) [(.ref a2c)]) (fun t k => st829 t k) ?_
 refine GoW.sg (mkF m 44 (Sh5 a1c 0 x1c 1) [(.int 1), (.int 1), (.ref a2c)]) (fun t k => XS.iload X829.here hx rfl (B d8_41) rfl (XS.iconst X829.here hx rfl (B d8_43) k)) ?_
 refine GoW.st (fun t k => XS.iadd X829.here hx rfl (B d8_44) rfl k) ?_
 rw [show ((1 : Int32) + (1 : Int32)) = (2 : Int32) from by decide]
 show GoW p e below s (Q8_28 Z a1c a2c ka2c x1c x2c x3c x4c x5c x6c x7c x8c h0 n0) 0 0 (T829.setTop (mkF m 45 (Sh5 a1c 0 x1c 1) [(.int 2), (.ref a2c)]))
 obtain ⟨cl830, Ar830, q830, Sz830, Nn830, Hh830, Gg830⟩ := id P2
 have hin830 : ¬ ((2 : Int32) < 0 ∨ cl830.slots.size ≤ ((2 : Int32)).toNatClampNeg) := inb_of Sz830 ⟨by decide, by decide⟩
 refine GoW.sg (mkF m 46 (Sh5 a1c 0 x1c 1) [(.double x3c)]) (fun t k => X829.daload hx (j := (2 : Int32)) (v := (.double x3c)) (hq_ e829 Ar830.1) (State.isArrayOf_alike hZ.alike Ar830.2.1) Ar830.2.2 hin830 (Hh830.at hin830 rfl) (g := (mkF m 45 (Sh5 a1c 0 x1c 1) [(.int 2), (.ref a2c)])) rfl rfl (B d8_45) t k) ?_
 refine GoW.sg (mkF m 47 (Sh5 a1c 0 x1c 1) [(.ref a1c), (.double x3c)]) (fun t k => XS.aloadN X829.here hx rfl (B d8_46) rfl rfl k) ?_
 obtain ⟨T831, X831, e831, st831⟩ := getF X829 hx hZ hown (host := "") (Or.inl (ww hw 11 rfl)) Via.refl e829 P0 (g := (mkF m 47 (Sh5 a1c 0 x1c 1) [(.ref a1c), (.double x3c)])) rfl rfl (B d8_47)
 refine GoW.sg (mkF m 50 (Sh5 a1c 0 x1c 1) [(.ref a2c), (.double x3c)]) (fun t k => st831 t k) ?_
 refine GoW.sg (mkF m 52 (Sh5 a1c 0 x1c 1) [(.int 1), (.ref a2c), (.double x3c)]) (fun t k => XS.iload X831.here hx rfl (B d8_50) rfl k) ?_
 obtain ⟨cl832, Ar832, q832, Sz832, Nn832, Hh832, Gg832⟩ := id P2
 have hin832 : ¬ ((1 : Int32) < 0 ∨ cl832.slots.size ≤ ((1 : Int32)).toNatClampNeg) := inb_of Sz832 ⟨by decide, by decide⟩
 refine GoW.sg (mkF m 53 (Sh5 a1c 0 x1c 1) [(.double x2c), (.double x3c)]) (fun t k => X831.daload hx (j := (1 : Int32)) (v := (.double x2c)) (hq_ e831 Ar832.1) (State.isArrayOf_alike hZ.alike Ar832.2.1) Ar832.2.2 hin832 (Hh832.at hin832 rfl) (g := (mkF m 52 (Sh5 a1c 0 x1c 1) [(.int 1), (.ref a2c), (.double x3c)])) rfl rfl (B d8_52) t k) ?_
 refine GoW.sg (mkF m 61 (Sh5 a1c 0 x1c 1) [(.ref a1c)]) (fun t k => XS.dcmpS X831.here hx rfl (B d8_53) rfl (v := (lcmpW (Int32.toInt64 x5c) (Int32.toInt64 x6c))) (by rw [hx3c, hx2c]; exact dcmpV_w (own_b53 _) (own_b53 _) _) (XS.ifYes X831.here hx rfl (pc0 := 54) (pc' := 60) rfl (B d8_54) rfl ((if0 _ _).trans (flt (mt (lw_lt _ _).mp u0)).2.1) (by decide) (by decide) (XS.aloadN X831.here hx rfl (B d8_60) rfl rfl k))) ?_
 obtain ⟨T833, X833, e833, st833⟩ := getF X831 hx hZ hown (host := "") (Or.inl (ww hw 11 rfl)) Via.refl e831 P0 (g := (mkF m 61 (Sh5 a1c 0 x1c 1) [(.ref a1c)])) rfl rfl (B d8_61)
 refine GoW.sg (mkF m 64 (Sh5 a1c 0 x1c 1) [(.ref a2c)]) (fun t k => st833 t k) ?_
 refine GoW.sg (mkF m 66 (Sh5 a1c 0 x1c 1) [(.int 1), (.ref a2c)]) (fun t k => XS.iload X833.here hx rfl (B d8_64) rfl k) ?_
 obtain ⟨cl834, Ar834, q834, Sz834, Nn834, Hh834, Gg834⟩ := id P2
 have hin834 : ¬ ((1 : Int32) < 0 ∨ cl834.slots.size ≤ ((1 : Int32)).toNatClampNeg) := inb_of Sz834 ⟨by decide, by decide⟩
 refine GoW.sg (mkF m 67 (Sh5 a1c 0 x1c 1) [(.double x2c)]) (fun t k => X833.daload hx (j := (1 : Int32)) (v := (.double x2c)) (hq_ e833 Ar834.1) (State.isArrayOf_alike hZ.alike Ar834.2.1) Ar834.2.2 hin834 (Hh834.at hin834 rfl) (g := (mkF m 66 (Sh5 a1c 0 x1c 1) [(.int 1), (.ref a2c)])) rfl rfl (B d8_66) t k) ?_
 refine GoW.sg (mkF m 76 (Sh5 a1c 0 x1c 1) [(.ref a1c)]) (fun t k => XS.dloadN X833.here hx rfl (B d8_67) rfl (XS.dcmpS X833.here hx rfl (B d8_68) rfl (v := (lcmpW (Int32.toInt64 x6c) (Int32.toInt64 x7c))) (by rw [hx2c, hx1c]; exact dcmpV_w (own_b53 _) (own_b53 _) _) (XS.ifYes X833.here hx rfl (pc0 := 69) (pc' := 75) rfl (B d8_69) rfl ((if0 _ _).trans (tlt ((lw_lt _ _).mpr u1)).1) (by decide) (by decide) (XS.aloadN X833.here hx rfl (B d8_75) rfl rfl k)))) ?_
 obtain ⟨T835, X835, e835, st835⟩ := getF X833 hx hZ hown (host := "") (Or.inl (ww hw 11 rfl)) Via.refl e833 P0 (g := (mkF m 76 (Sh5 a1c 0 x1c 1) [(.ref a1c)])) rfl rfl (B d8_76)
 refine GoW.sg (mkF m 79 (Sh5 a1c 0 x1c 1) [(.ref a2c)]) (fun t k => st835 t k) ?_
 refine GoW.sg (mkF m 81 (Sh5 a1c 0 x1c 1) [(.ref a1c), (.int 0), (.ref a2c)]) (fun t k => XS.iloadN X835.here hx rfl (B d8_79) rfl (XS.aloadN X835.here hx rfl (B d8_80) rfl rfl k)) ?_
 obtain ⟨T836, X836, e836, st836⟩ := getF X835 hx hZ hown (host := "") (Or.inl (ww hw 11 rfl)) Via.refl e835 P0 (g := (mkF m 81 (Sh5 a1c 0 x1c 1) [(.ref a1c), (.int 0), (.ref a2c)])) rfl rfl (B d8_81)
 refine GoW.sg (mkF m 84 (Sh5 a1c 0 x1c 1) [(.ref a2c), (.int 0), (.ref a2c)]) (fun t k => st836 t k) ?_
 refine GoW.sg (mkF m 86 (Sh5 a1c 0 x1c 1) [(.int 1), (.ref a2c), (.int 0), (.ref a2c)]) (fun t k => XS.iload X836.here hx rfl (B d8_84) rfl k) ?_
 obtain ⟨cl837, Ar837, q837, Sz837, Nn837, Hh837, Gg837⟩ := id P2
 have hin837 : ¬ ((1 : Int32) < 0 ∨ cl837.slots.size ≤ ((1 : Int32)).toNatClampNeg) := inb_of Sz837 ⟨by decide, by decide⟩
 refine GoW.sg (mkF m 87 (Sh5 a1c 0 x1c 1) [(.double x2c), (.int 0), (.ref a2c)]) (fun t k => X836.daload hx (j := (1 : Int32)) (v := (.double x2c)) (hq_ e836 Ar837.1) (State.isArrayOf_alike hZ.alike Ar837.2.1) Ar837.2.2 hin837 (Hh837.at hin837 rfl) (g := (mkF m 86 (Sh5 a1c 0 x1c 1) [(.int 1), (.ref a2c), (.int 0), (.ref a2c)])) rfl rfl (B d8_86) t k) ?_
 obtain ⟨cl838, Ar838, q838, Sz838, Nn838, Hh838, Gg838⟩ := P2
 have hin838 : ¬ ((0 : Int32) < 0 ∨ cl838.slots.size ≤ ((0 : Int32)).toNatClampNeg) := inb_of Sz838 ⟨by decide, by decide⟩
 obtain ⟨T838, h838, X838, e838, W838, st838⟩ := stD X836 hx hZ e836 Ar838 (j := (0 : Int32)) hin838 (g := (mkF m 87 (Sh5 a1c 0 x1c 1) [(.double x2c), (.int 0), (.ref a2c)])) rfl rfl (B d8_87)
 have f838_1 := P0.other W838 (Or.inl ne_a1c_a2c)
 have f838_2 := P1.other W838 (Or.inl ne_a1c_a2c)
 have f838_3 := (Keep.refl h0 [a2c]).wr W838 (Or.inl (List.mem_of_getElem? (i := 0) rfl))
 have V838 : Arv Z h838 a2c ka2c .double (4 : Int32) [(.double x2c), (.double x2c), (.double x3c), (.double x4c)] (.double (0 : UInt64)) := Arv.set Ar838 q838 Sz838 Nn838 Hh838 Gg838 rfl W838 0 rfl (Nat.le_of_ble_eq_true rfl)
 have N838 := Fr.snoc X838 N0 g_a2c
 refine GoW.sg (mkF m 88 (Sh5 a1c 0 x1c 1) []) (fun t k => st838 t k) ?_
 refine GoW.sg (mkF m 9 (Sh5 a1c 1 x1c 1) [(.int 1), (.int 2)]) (fun t k => XS.iload X838.here hx rfl (B d8_88) rfl (XS.istoreN X838.here hx rfl (B d8_90) rfl (l' := (Sh5 a1c 1 x1c 1)) rfl (XS.goto X838.here hx rfl (pc0 := 91) (pc' := 7) rfl (B d8_91) (by decide) (by decide) (XS.iconst X838.here hx rfl (B d8_7) (XS.iloadN X838.here hx rfl (B d8_8) rfl k))))) ?_
 refine GoW.st (fun t k => XS.imul X838.here hx rfl (B d8_9) rfl k) ?_
 rw [show ((2 : Int32) * (1 : Int32)) = (2 : Int32) from by decide]
 show GoW p e below s (Q8_28 Z a1c a2c ka2c x1c x2c x3c x4c x5c x6c x7c x8c h0 n0) 0 0 (T838.setTop (mkF m 10 (Sh5 a1c 1 x1c 1) [(.int 2)]))
 refine GoW.sg (mkF m 11 (Sh5 a1c 1 x1c 1) [(.int 1), (.int 2)]) (fun t k => XS.iconst X838.here hx rfl (B d8_10) k) ?_
 refine GoW.st (fun t k => XS.iadd X838.here hx rfl (B d8_11) rfl k) ?_
 rw [show ((2 : Int32) + (1 : Int32)) = (3 : Int32) from by decide]
 show GoW p e below s (Q8_28 Z a1c a2c ka2c x1c x2c x3c x4c x5c x6c x7c x8c h0 n0) 0 0 (T838.setTop (mkF m 12 (Sh5 a1c 1 x1c 1) [(.int 3)]))
 refine GoW.sg (mkF m 13 (Sh5 a1c 1 x1c 1) [(.ref a1c), (.int 3)]) (fun t k => XS.aloadN X838.here hx rfl (B d8_12) rfl rfl k) ?_
 obtain ⟨T839, X839, e839, st839⟩ := getF X838 hx hZ hown (host := "") (Or.inl (ww hw 18 rfl)) Via.refl e838 f838_2 (g := (mkF m 13 (Sh5 a1c 1 x1c 1) [(.ref a1c), (.int 3)])) rfl rfl (B d8_13)
 refine GoW.sg (mkF m 16 (Sh5 a1c 1 x1c 1) [(.int 4), (.int 3)]) (fun t k => st839 t k) ?_
 refine GoW.sg (mkF m 21 (Sh5 a1c 1 x1c 1) [(.int 1), (.int 2)]) (fun t k => XS.icmpNo X839.here hx rfl (B d8_16) rfl (by decide) (XS.iconst X839.here hx rfl (B d8_19) (XS.iloadN X839.here hx rfl (B d8_20) rfl k))) ?_
 refine GoW.st (fun t k => XS.imul X839.here hx rfl (B d8_21) rfl k) ?_
 rw [show ((2 : Int32) * (1 : Int32)) = (2 : Int32) from by decide]
 show GoW p e below s (Q8_28 Z a1c a2c ka2c x1c x2c x3c x4c x5c x6c x7c x8c h0 n0) 0 0 (T839.setTop (mkF m 22 (Sh5 a1c 1 x1c 1) [(.int 2)]))
 refine GoW.sg (mkF m 23 (Sh5 a1c 1 x1c 1) [(.int 1), (.int 2)]) (fun t k => XS.iconst X839.here hx rfl (B d8_22) k) ?_
 refine GoW.st (fun t k => XS.iadd X839.here hx rfl (B d8_23) rfl k) ?_
 rw [show ((2 : Int32) + (1 : Int32)) = (3 : Int32) from by decide]
 show GoW p e below s (Q8_28 Z a1c a2c ka2c x1c x2c x3c x4c x5c x6c x7c x8c h0 n0) 0 0 (T839.setTop (mkF m 24 (Sh5 a1c 1 x1c 1) [(.int 3)]))
 refine GoW.sg (mkF m 29 (Sh5 a1c 1 x1c 3) [(.int 1), (.int 3)]) (fun t k => XS.istore X839.here hx rfl (B d8_24) rfl (l' := (Sh5 a1c 1 x1c 3)) rfl (XS.iload X839.here hx rfl (B d8_26) rfl (XS.iconst X839.here hx rfl (B d8_28) k))) ?_
 refine GoW.st (fun t k => XS.iadd X839.here hx rfl (B d8_29) rfl k) ?_
 rw [show ((3 : Int32) + (1 : Int32)) = (4 : Int32) from by decide]
 show GoW p e below s (Q8_28 Z a1c a2c ka2c x1c x2c x3c x4c x5c x6c x7c x8c h0 n0) 0 0 (T839.setTop (mkF m 30 (Sh5 a1c 1 x1c 3) [(.int 4)]))
 refine GoW.sg (mkF m 31 (Sh5 a1c 1 x1c 3) [(.ref a1c), (.int 4)]) (fun t k => XS.aloadN X839.here hx rfl (B d8_30) rfl rfl k) ?_
 obtain ⟨T840, X840, e840, st840⟩ := getF X839 hx hZ hown (host := "") (Or.inl (ww hw 18 rfl)) Via.refl e839 f838_2 (g := (mkF m 31 (Sh5 a1c 1 x1c 3) [(.ref a1c), (.int 4)])) rfl rfl (B d8_31)
 refine GoW.sg (mkF m 34 (Sh5 a1c 1 x1c 3) [(.int 4), (.int 4)]) (fun t k => st840 t k) ?_
 refine GoW.sg (mkF m 61 (Sh5 a1c 1 x1c 3) [(.ref a1c)]) (fun t k => XS.icmpYes X840.here hx rfl (pc0 := 34) (pc' := 60) rfl (B d8_34) rfl (by decide) (by decide) (by decide) (XS.aloadN X840.here hx rfl (B d8_60) rfl rfl k)) ?_
 obtain ⟨T841, X841, e841, st841⟩ := getF X840 hx hZ hown (host := "") (Or.inl (ww hw 11 rfl)) Via.refl e840 f838_1 (g := (mkF m 61 (Sh5 a1c 1 x1c 3) [(.ref a1c)])) rfl rfl (B d8_61)
 refine GoW.sg (mkF m 64 (Sh5 a1c 1 x1c 3) [(.ref a2c)]) (fun t k => st841 t k) ?_
 refine GoW.sg (mkF m 66 (Sh5 a1c 1 x1c 3) [(.int 3), (.ref a2c)]) (fun t k => XS.iload X841.here hx rfl (B d8_64) rfl k) ?_
 obtain ⟨cl842, Ar842, q842, Sz842, Nn842, Hh842, Gg842⟩ := id V838
 have hin842 : ¬ ((3 : Int32) < 0 ∨ cl842.slots.size ≤ ((3 : Int32)).toNatClampNeg) := inb_of Sz842 ⟨by decide, by decide⟩
 refine GoW.sg (mkF m 67 (Sh5 a1c 1 x1c 3) [(.double x4c)]) (fun t k => X841.daload hx (j := (3 : Int32)) (v := (.double x4c)) (hq_ e841 Ar842.1) (State.isArrayOf_alike hZ.alike Ar842.2.1) Ar842.2.2 hin842 (Hh842.at hin842 rfl) (g := (mkF m 66 (Sh5 a1c 1 x1c 3) [(.int 3), (.ref a2c)])) rfl rfl (B d8_66) t k) ?_
 refine GoW.sg (mkF m 95 (Sh5 a1c 1 x1c 3) [(.ref a1c)]) (fun t k => XS.dloadN X841.here hx rfl (B d8_67) rfl (XS.dcmpS X841.here hx rfl (B d8_68) rfl (v := (lcmpW (Int32.toInt64 x8c) (Int32.toInt64 x7c))) (by rw [hx4c, hx1c]; exact dcmpV_w (own_b53 _) (own_b53 _) _) (XS.ifNo X841.here hx rfl (B d8_69) rfl ((if0 _ _).trans (flt (mt (lw_lt _ _).mp u2)).1) (XS.goto X841.here hx rfl (pc0 := 72) (pc' := 94) rfl (B d8_72) (by decide) (by decide) (XS.aloadN X841.here hx rfl (B d8_94) rfl rfl k))))) ?_
 obtain ⟨T843, X843, e843, st843⟩ := getF X841 hx hZ hown (host := "") (Or.inl (ww hw 11 rfl)) Via.refl e841 f838_1 (g := (mkF m 95 (Sh5 a1c 1 x1c 3) [(.ref a1c)])) rfl rfl (B d8_95)
 refine GoW.sg (mkF m 98 (Sh5 a1c 1 x1c 3) [(.ref a2c)]) (fun t k => st843 t k) ?_
 refine GoW.sg (mkF m 100 (Sh5 a1c 1 x1c 3) [(.double x1c), (.int 1), (.ref a2c)]) (fun t k => XS.iloadN X843.here hx rfl (B d8_98) rfl (XS.dloadN X843.here hx rfl (B d8_99) rfl k)) ?_
 obtain ⟨cl844, Ar844, q844, Sz844, Nn844, Hh844, Gg844⟩ := V838
 have hin844 : ¬ ((1 : Int32) < 0 ∨ cl844.slots.size ≤ ((1 : Int32)).toNatClampNeg) := inb_of Sz844 ⟨by decide, by decide⟩
 obtain ⟨T844, h844, X844, e844, W844, st844⟩ := stD X843 hx hZ e843 Ar844 (j := (1 : Int32)) hin844 (g := (mkF m 100 (Sh5 a1c 1 x1c 3) [(.double x1c), (.int 1), (.ref a2c)])) rfl rfl (B d8_100)
 have f844_6 := f838_3.wr W844 (Or.inl (List.mem_of_getElem? (i := 0) rfl))
 have V844 : Arv Z h844 a2c ka2c .double (4 : Int32) [(.double x2c), (.double x1c), (.double x3c), (.double x4c)] (.double (0 : UInt64)) := Arv.set Ar844 q844 Sz844 Nn844 Hh844 Gg844 rfl W844 1 rfl (Nat.le_of_ble_eq_true rfl)
 have N844 := Fr.snoc X844 N838 g_a2c
 refine GoW.sg (mkF m 101 (Sh5 a1c 1 x1c 3) []) (fun t k => st844 t k) ?_
 refine GoW.retV X844 hx Bd.returns (B d8_101) Bd.notSynchronized ?_ (by decide) (by decide)
 rw [e844]
 exact ⟨rfl, N844, f844_6, V844⟩
def Q8_29 (Z : State) (a1c a2c : Addr) (ka2c : ClassId) (x1c x2c : UInt64) (x3c x4c : UInt64) (x5c x6c : Int32) (x7c x8c : Int32) (h0 : Heap) (n0 : Nat) (v : Option Value) (h : Heap) (L : List Loc) : Prop := v = none ∧ Fr n0 L ∧ (Keep h0 h [a2c]) ∧ (Arv Z h a2c ka2c .double 4 [(.double x1c), (.double x2c), (.double x3c), (.double x4c)] (.double 0))
theorem rm8_29 (l : Launch) (Z : State) (a0 : Array Value) (hw : HW a0 Z) (a1c a2c : Addr) (ka2c : ClassId) (x1c x2c : UInt64) (x3c x4c : UInt64) (x5c x6c : Int32) (x7c x8c : Int32) (h0 : Heap) (n0 : Nat) (P0 : Fld Z h0 a1c HSn "heap" "[D" (.ref a2c)) (P1 : Fld Z h0 a1c HSn "size" "I" (.int 4)) (P2 : Arv Z h0 a2c ka2c .double 4 [(.double x1c), (.double x2c), (.double x3c), (.double x4c)] (.double 0)) (g_a2c : n0 ≤ a2c) (u0 : ¬ ((Int32.toInt64 x5c) < (Int32.toInt64 x6c))) (u1 : ¬ ((Int32.toInt64 x6c) < (Int32.toInt64 x7c))) (hx1c : x1c = FP.l2d (Int32.toInt64 x7c)) (hx2c : x2c = FP.l2d (Int32.toInt64 x6c)) (hx3c : x3c = FP.l2d (Int32.toInt64 x5c)) (hx4c : x4c = FP.l2d (Int32.toInt64 x8c)) :
  MM l Z Y8 prog_43_method_5_code 5 none 0 0 0 0 #[(.ref a1c), (.int 0)] h0 (Q8_29 Z a1c a2c ka2c x1c x2c x3c x4c x5c x6c x7c x8c h0 n0) := by
 refine own_start (fun m => (mkF m 0 (Sh3 a1c 0) [])) (plainFor_of_name pn_com_example_nearterm_nearterm_retrieval_HighestScores) (by simp [entryFrame, mkF, argsToLocals, Value.category]) n0 ?_
 intro p e s m below meth c s₁ Bd hx B hml hZ hown hnm X0 e0 N0
 refine GoW.sg (mkF m 1 (Sh3 a1c 0) [(.ref a1c)]) (fun t k => XS.aloadN X0.here hx rfl (B d8_0) rfl rfl k) ?_
 obtain ⟨T858, X858, e858, st858⟩ := getF X0 hx hZ hown (host := "") (Or.inl (ww hw 11 rfl)) Via.refl e0 P0 (g := (mkF m 1 (Sh3 a1c 0) [(.ref a1c)])) rfl rfl (B d8_1)
 refine GoW.sg (mkF m 4 (Sh3 a1c 0) [(.ref a2c)]) (fun t k => st858 t k) ?_
 refine GoW.sg (mkF m 5 (Sh3 a1c 0) [(.int 0), (.ref a2c)]) (fun t k => XS.iloadN X858.here hx rfl (B d8_4) rfl k) ?_
 obtain ⟨cl859, Ar859, q859, Sz859, Nn859, Hh859, Gg859⟩ := id P2
 have hin859 : ¬ ((0 : Int32) < 0 ∨ cl859.slots.size ≤ ((0 : Int32)).toNatClampNeg) := inb_of Sz859 ⟨by decide, by decide⟩
 refine GoW.sg (mkF m 6 (Sh3 a1c 0) [(.double x1c)]) (fun t k => X858.daload hx (j := (0 : Int32)) (v := (.double x1c)) (hq_ e858 Ar859.1) (State.isArrayOf_alike hZ.alike Ar859.2.1) Ar859.2.2 hin859 (Hh859.at hin859 rfl) (g := (mkF m 5 (Sh3 a1c 0) [(.int 0), (.ref a2c)])) rfl rfl (B d8_5) t k) ?_
 refine GoW.sg (mkF m 9 (Sh4 a1c 0 x1c) [(.int 0), (.int 2)]) (fun t k => XS.dstoreN X858.here hx rfl (B d8_6) rfl (l' := (Sh4 a1c 0 x1c)) rfl (XS.iconst X858.here hx rfl (B d8_7) (XS.iloadN X858.here hx rfl (B d8_8) rfl k))) ?_
 refine GoW.st (fun t k => XS.imul X858.here hx rfl (B d8_9) rfl k) ?_
 rw [show ((2 : Int32) * (0 : Int32)) = (0 : Int32) from by decide]
 show GoW p e below s (Q8_29 Z a1c a2c ka2c x1c x2c x3c x4c x5c x6c x7c x8c h0 n0) 0 0 (T858.setTop (mkF m 10 (Sh4 a1c 0 x1c) [(.int 0)]))
 refine GoW.sg (mkF m 11 (Sh4 a1c 0 x1c) [(.int 1), (.int 0)]) (fun t k => XS.iconst X858.here hx rfl (B d8_10) k) ?_
 refine GoW.st (fun t k => XS.iadd X858.here hx rfl (B d8_11) rfl k) ?_
 rw [show ((0 : Int32) + (1 : Int32)) = (1 : Int32) from by decide]
 show GoW p e below s (Q8_29 Z a1c a2c ka2c x1c x2c x3c x4c x5c x6c x7c x8c h0 n0) 0 0 (T858.setTop (mkF m 12 (Sh4 a1c 0 x1c) [(.int 1)]))
 refine GoW.sg (mkF m 13 (Sh4 a1c 0 x1c) [(.ref a1c), (.int 1)]) (fun t k => XS.aloadN X858.here hx rfl (B d8_12) rfl rfl k) ?_
 obtain ⟨T860, X860, e860, st860⟩ := getF X858 hx hZ hown (host := "") (Or.inl (ww hw 18 rfl)) Via.refl e858 P1 (g := (mkF m 13 (Sh4 a1c 0 x1c) [(.ref a1c), (.int 1)])) rfl rfl (B d8_13)
 refine GoW.sg (mkF m 16 (Sh4 a1c 0 x1c) [(.int 4), (.int 1)]) (fun t k => st860 t k) ?_
 refine GoW.sg (mkF m 21 (Sh4 a1c 0 x1c) [(.int 0), (.int 2)]) (fun t k => XS.icmpNo X860.here hx rfl (B d8_16) rfl (by decide) (XS.iconst X860.here hx rfl (B d8_19) (XS.iloadN X860.here hx rfl (B d8_20) rfl k))) ?_
 refine GoW.st (fun t k => XS.imul X860.here hx rfl (B d8_21) rfl k) ?_
 rw [show ((2 : Int32) * (0 : Int32)) = (0 : Int32) from by decide]
 show GoW p e below s (Q8_29 Z a1c a2c ka2c x1c x2c x3c x4c x5c x6c x7c x8c h0 n0) 0 0 (T860.setTop (mkF m 22 (Sh4 a1c 0 x1c) [(.int 0)]))
 refine GoW.sg (mkF m 23 (Sh4 a1c 0 x1c) [(.int 1), (.int 0)]) (fun t k => XS.iconst X860.here hx rfl (B d8_22) k) ?_
 refine GoW.st (fun t k => XS.iadd X860.here hx rfl (B d8_23) rfl k) ?_
 rw [show ((0 : Int32) + (1 : Int32)) = (1 : Int32) from by decide]
 show GoW p e below s (Q8_29 Z a1c a2c ka2c x1c x2c x3c x4c x5c x6c x7c x8c h0 n0) 0 0 (T860.setTop (mkF m 24 (Sh4 a1c 0 x1c) [(.int 1)]))
 refine GoW.sg (mkF m 29 (Sh5 a1c 0 x1c 1) [(.int 1), (.int 1)]) (fun t k => XS.istore X860.here hx rfl (B d8_24) rfl (l' := (Sh5 a1c 0 x1c 1)) rfl (XS.iload X860.here hx rfl (B d8_26) rfl (XS.iconst X860.here hx rfl (B d8_28) k))) ?_
 refine GoW.st (fun t k => XS.iadd X860.here hx rfl (B d8_29) rfl k) ?_
 rw [show ((1 : Int32) + (1 : Int32)) = (2 : Int32) from by decide]
 show GoW p e below s (Q8_29 Z a1c a2c ka2c x1c x2c x3c x4c x5c x6c x7c x8c h0 n0) 0 0 (T860.setTop (mkF m 30 (Sh5 a1c 0 x1c 1) [(.int 2)]))
 refine GoW.sg (mkF m 31 (Sh5 a1c 0 x1c 1) [(.ref a1c), (.int 2)]) (fun t k => XS.aloadN X860.here hx rfl (B d8_30) rfl rfl k) ?_
 obtain ⟨T861, X861, e861, st861⟩ := getF X860 hx hZ hown (host := "") (Or.inl (ww hw 18 rfl)) Via.refl e860 P1 (g := (mkF m 31 (Sh5 a1c 0 x1c 1) [(.ref a1c), (.int 2)])) rfl rfl (B d8_31)
 refine GoW.sg (mkF m 34 (Sh5 a1c 0 x1c 1) [(.int 4), (.int 2)]) (fun t k => st861 t k) ?_
 refine GoW.sg (mkF m 38 (Sh5 a1c 0 x1c 1) [(.ref a1c)]) (fun t k => XS.icmpNo X861.here hx rfl (B d8_34) rfl (by decide) (XS.aloadN X861.here hx rfl (B d8_37) rfl rfl k)) ?_
 obtain ⟨T862, X862, e862, st862⟩ := getF X861 hx hZ hown (host := "") (Or.inl (ww hw 11 rfl)) Via.refl e861 P0 (g := (mkF m 38 (Sh5 a1c 0 x1c 1) [(.ref a1c)])) rfl rfl (B d8_38)
 refine GoW.sg (mkF m 41 (Sh5 a1c 0 x1c 1) [(.ref a2c)]) (fun t k => st862 t k) ?_
 refine GoW.sg (mkF m 44 (Sh5 a1c 0 x1c 1) [(.int 1), (.int 1), (.ref a2c)]) (fun t k => XS.iload X862.here hx rfl (B d8_41) rfl (XS.iconst X862.here hx rfl (B d8_43) k)) ?_
 refine GoW.st (fun t k => XS.iadd X862.here hx rfl (B d8_44) rfl k) ?_
 rw [show ((1 : Int32) + (1 : Int32)) = (2 : Int32) from by decide]
 show GoW p e below s (Q8_29 Z a1c a2c ka2c x1c x2c x3c x4c x5c x6c x7c x8c h0 n0) 0 0 (T862.setTop (mkF m 45 (Sh5 a1c 0 x1c 1) [(.int 2), (.ref a2c)]))
 obtain ⟨cl863, Ar863, q863, Sz863, Nn863, Hh863, Gg863⟩ := id P2
 have hin863 : ¬ ((2 : Int32) < 0 ∨ cl863.slots.size ≤ ((2 : Int32)).toNatClampNeg) := inb_of Sz863 ⟨by decide, by decide⟩
 refine GoW.sg (mkF m 46 (Sh5 a1c 0 x1c 1) [(.double x3c)]) (fun t k => X862.daload hx (j := (2 : Int32)) (v := (.double x3c)) (hq_ e862 Ar863.1) (State.isArrayOf_alike hZ.alike Ar863.2.1) Ar863.2.2 hin863 (Hh863.at hin863 rfl) (g := (mkF m 45 (Sh5 a1c 0 x1c 1) [(.int 2), (.ref a2c)])) rfl rfl (B d8_45) t k) ?_
 refine GoW.sg (mkF m 47 (Sh5 a1c 0 x1c 1) [(.ref a1c), (.double x3c)]) (fun t k => XS.aloadN X862.here hx rfl (B d8_46) rfl rfl k) ?_
 obtain ⟨T864, X864, e864, st864⟩ := getF X862 hx hZ hown (host := "") (Or.inl (ww hw 11 rfl)) Via.refl e862 P0 (g := (mkF m 47 (Sh5 a1c 0 x1c 1) [(.ref a1c), (.double x3c)])) rfl rfl (B d8_47)
 refine GoW.sg (mkF m 50 (Sh5 a1c 0 x1c 1) [(.ref a2c), (.double x3c)]) (fun t k => st864 t k) ?_
 refine GoW.sg (mkF m 52 (Sh5 a1c 0 x1c 1) [(.int 1), (.ref a2c), (.double x3c)]) (fun t k => XS.iload X864.here hx rfl (B d8_50) rfl k) ?_
 obtain ⟨cl865, Ar865, q865, Sz865, Nn865, Hh865, Gg865⟩ := id P2
 have hin865 : ¬ ((1 : Int32) < 0 ∨ cl865.slots.size ≤ ((1 : Int32)).toNatClampNeg) := inb_of Sz865 ⟨by decide, by decide⟩
 refine GoW.sg (mkF m 53 (Sh5 a1c 0 x1c 1) [(.double x2c), (.double x3c)]) (fun t k => X864.daload hx (j := (1 : Int32)) (v := (.double x2c)) (hq_ e864 Ar865.1) (State.isArrayOf_alike hZ.alike Ar865.2.1) Ar865.2.2 hin865 (Hh865.at hin865 rfl) (g := (mkF m 52 (Sh5 a1c 0 x1c 1) [(.int 1), (.ref a2c), (.double x3c)])) rfl rfl (B d8_52) t k) ?_
 refine GoW.sg (mkF m 61 (Sh5 a1c 0 x1c 1) [(.ref a1c)]) (fun t k => XS.dcmpS X864.here hx rfl (B d8_53) rfl (v := (lcmpW (Int32.toInt64 x5c) (Int32.toInt64 x6c))) (by rw [hx3c, hx2c]; exact dcmpV_w (own_b53 _) (own_b53 _) _) (XS.ifYes X864.here hx rfl (pc0 := 54) (pc' := 60) rfl (B d8_54) rfl ((if0 _ _).trans (flt (mt (lw_lt _ _).mp u0)).2.1) (by decide) (by decide) (XS.aloadN X864.here hx rfl (B d8_60) rfl rfl k))) ?_
 obtain ⟨T866, X866, e866, st866⟩ := getF X864 hx hZ hown (host := "") (Or.inl (ww hw 11 rfl)) Via.refl e864 P0 (g := (mkF m 61 (Sh5 a1c 0 x1c 1) [(.ref a1c)])) rfl rfl (B d8_61)
 refine GoW.sg (mkF m 64 (Sh5 a1c 0 x1c 1) [(.ref a2c)]) (fun t k => st866 t k) ?_
 refine GoW.sg (mkF m 66 (Sh5 a1c 0 x1c 1) [(.int 1), (.ref a2c)]) (fun t k => XS.iload X866.here hx rfl (B d8_64) rfl k) ?_
 obtain ⟨cl867, Ar867, q867, Sz867, Nn867, Hh867, Gg867⟩ := id P2
 have hin867 : ¬ ((1 : Int32) < 0 ∨ cl867.slots.size ≤ ((1 : Int32)).toNatClampNeg) := inb_of Sz867 ⟨by decide, by decide⟩
 refine GoW.sg (mkF m 67 (Sh5 a1c 0 x1c 1) [(.double x2c)]) (fun t k => X866.daload hx (j := (1 : Int32)) (v := (.double x2c)) (hq_ e866 Ar867.1) (State.isArrayOf_alike hZ.alike Ar867.2.1) Ar867.2.2 hin867 (Hh867.at hin867 rfl) (g := (mkF m 66 (Sh5 a1c 0 x1c 1) [(.int 1), (.ref a2c)])) rfl rfl (B d8_66) t k) ?_
 refine GoW.sg (mkF m 95 (Sh5 a1c 0 x1c 1) [(.ref a1c)]) (fun t k => XS.dloadN X866.here hx rfl (B d8_67) rfl (XS.dcmpS X866.here hx rfl (B d8_68) rfl (v := (lcmpW (Int32.toInt64 x6c) (Int32.toInt64 x7c))) (by rw [hx2c, hx1c]; exact dcmpV_w (own_b53 _) (own_b53 _) _) (XS.ifNo X866.here hx rfl (B d8_69) rfl ((if0 _ _).trans (flt (mt (lw_lt _ _).mp u1)).1) (XS.goto X866.here hx rfl (pc0 := 72) (pc' := 94) rfl (B d8_72) (by decide) (by decide) (XS.aloadN X866.here hx rfl (B d8_94) rfl rfl k))))) ?_
 obtain ⟨T868, X868, e868, st868⟩ := getF X866 hx hZ hown (host := "") (Or.inl (ww hw 11 rfl)) Via.refl e866 P0 (g := (mkF m 95 (Sh5 a1c 0 x1c 1) [(.ref a1c)])) rfl rfl (B d8_95)
 refine GoW.sg (mkF m 98 (Sh5 a1c 0 x1c 1) [(.ref a2c)]) (fun t k => st868 t k) ?_
 refine GoW.sg (mkF m 100 (Sh5 a1c 0 x1c 1) [(.double x1c), (.int 0), (.ref a2c)]) (fun t k => XS.iloadN X868.here hx rfl (B d8_98) rfl (XS.dloadN X868.here hx rfl (B d8_99) rfl k)) ?_
 obtain ⟨cl869, Ar869, q869, Sz869, Nn869, Hh869, Gg869⟩ := P2
 have hin869 : ¬ ((0 : Int32) < 0 ∨ cl869.slots.size ≤ ((0 : Int32)).toNatClampNeg) := inb_of Sz869 ⟨by decide, by decide⟩
 obtain ⟨T869, h869, X869, e869, W869, st869⟩ := stD X868 hx hZ e868 Ar869 (j := (0 : Int32)) hin869 (g := (mkF m 100 (Sh5 a1c 0 x1c 1) [(.double x1c), (.int 0), (.ref a2c)])) rfl rfl (B d8_100)
 have f869_1 := (Keep.refl h0 [a2c]).wr W869 (Or.inl (List.mem_of_getElem? (i := 0) rfl))
 have V869 : Arv Z h869 a2c ka2c .double (4 : Int32) [(.double x1c), (.double x2c), (.double x3c), (.double x4c)] (.double (0 : UInt64)) := Arv.set Ar869 q869 Sz869 Nn869 Hh869 Gg869 rfl W869 0 rfl (Nat.le_of_ble_eq_true rfl)
 have N869 := Fr.snoc X869 N0 g_a2c
 refine GoW.sg (mkF m 101 (Sh5 a1c 0 x1c 1) []) (fun t k => st869 t k) ?_
 refine GoW.retV X869 hx Bd.returns (B d8_101) Bd.notSynchronized ?_ (by decide) (by decide)
 rw [e869]
 exact ⟨rfl, N869, f869_1, V869⟩
def QO44 (Z : State) (a1 : Addr) (dx : UInt64) (x v0 : Int32) (v1 v2 v3 : Int32) (d0 d1 : UInt64) (d2 d3 : UInt64) (a2 : Addr) (ka2 : ClassId) (h0 : Heap) (n0 : Nat) (v : Option Value) (h : Heap) (L : List Loc) : Prop := ∃ w0 : Int32, ∃ w1 : Int32, ∃ w2 : Int32, ∃ w3 : Int32, ∃ f0 : UInt64, ∃ f1 : UInt64, ∃ f2 : UInt64, ∃ f3 : UInt64, v = none ∧ Fr n0 L ∧ (Keep h0 h [a1, a2]) ∧ (Exa Z h a1 HSn) ∧ (Fld Z h a1 HSn "size" "I" (.int 4)) ∧ (Fld Z h a1 HSn "heap" "[D" (.ref a2)) ∧ (Arv Z h a2 ka2 .double 4 [(.double f0), (.double f1), (.double f2), (.double f3)] (.double 0)) ∧ (f0 = FP.l2d (Int32.toInt64 w0) ∧ f1 = FP.l2d (Int32.toInt64 w1) ∧ f2 = FP.l2d (Int32.toInt64 w2) ∧ f3 = FP.l2d (Int32.toInt64 w3) ∧ (w0.toInt ≤ w1.toInt ∧ w0.toInt ≤ w2.toInt ∧ w1.toInt ≤ w3.toInt) ∧ (∀ z : Int, cn z w0 + cn z w1 + cn z w2 + cn z w3 = min 4 (cn z v0 + cn z v1 + cn z v2 + cn z v3 + cn z x)))
theorem rmO44 (l : Launch) (Z : State) (a0 : Array Value) (hw : HW a0 Z) (a1 : Addr) (dx : UInt64) (x v0 : Int32) (v1 v2 v3 : Int32) (d0 d1 : UInt64) (d2 d3 : UInt64) (a2 : Addr) (ka2 : ClassId) (h0 : Heap) (n0 : Nat) (P0 : Exa Z h0 a1 HSn) (P1 : Fld Z h0 a1 HSn "size" "I" (.int 4)) (P2 : Fld Z h0 a1 HSn "heap" "[D" (.ref a2)) (P3 : Arv Z h0 a2 ka2 .double 4 [(.double d0), (.double d1), (.double d2), (.double d3)] (.double 0)) (g_a1 : n0 ≤ a1) (g_a2 : n0 ≤ a2) (ne_a1_a2 : a1 ≠ a2) (hd0 : d0 = FP.l2d (Int32.toInt64 v0)) (hd1 : d1 = FP.l2d (Int32.toInt64 v1)) (hd2 : d2 = FP.l2d (Int32.toInt64 v2)) (hd3 : d3 = FP.l2d (Int32.toInt64 v3)) (hdx : dx = FP.l2d (Int32.toInt64 x)) (hH : v0.toInt ≤ v1.toInt ∧ v0.toInt ≤ v2.toInt ∧ v1.toInt ≤ v3.toInt) :
  MM l Z Y4 prog_43_method_2_code 3 none 1 0 0 16 #[(.ref a1), (.double dx)] h0 (QO44 Z a1 dx x v0 v1 v2 v3 d0 d1 d2 d3 a2 ka2 h0 n0) := by
 refine own_start (fun m => (mkF m 0 (Sh0 a1 dx) [])) (plainFor_of_name pn_com_example_nearterm_nearterm_retrieval_HighestScores) (by simp [entryFrame, mkF, argsToLocals, Value.category]) n0 ?_
 intro p e s m below meth c s₁ Bd hx B hml hZ hown hnm X0 e0 N0
 refine GoW.sg (mkF m 1 (Sh0 a1 dx) [(.ref a1)]) (fun t k => XS.aloadN X0.here hx rfl (B d4_0) rfl rfl k) ?_
 obtain ⟨T636, X636, e636, st636⟩ := getF X0 hx hZ hown (host := "") (Or.inl (ww hw 18 rfl)) Via.refl e0 P1 (g := (mkF m 1 (Sh0 a1 dx) [(.ref a1)])) rfl rfl (B d4_1)
 refine GoW.sg (mkF m 4 (Sh0 a1 dx) [(.int 4)]) (fun t k => st636 t k) ?_
 refine GoW.sg (mkF m 5 (Sh0 a1 dx) [(.ref a1), (.int 4)]) (fun t k => XS.aloadN X636.here hx rfl (B d4_4) rfl rfl k) ?_
 obtain ⟨T637, X637, e637, st637⟩ := getF X636 hx hZ hown (host := "") (Or.inl (ww hw 11 rfl)) Via.refl e636 P2 (g := (mkF m 5 (Sh0 a1 dx) [(.ref a1), (.int 4)])) rfl rfl (B d4_5)
 refine GoW.sg (mkF m 8 (Sh0 a1 dx) [(.ref a2), (.int 4)]) (fun t k => st637 t k) ?_
 obtain ⟨cl638, Ar638, q638, Sz638, Nn638, Hh638, Gg638⟩ := id P3
 have st638 := X637.arraylength hx (hq_ e637 Ar638.1) (State.isArrayOf_alike hZ.alike Ar638.2.1) (g := (mkF m 8 (Sh0 a1 dx) [(.ref a2), (.int 4)])) rfl rfl (B d4_8)
 rw [len_of Sz638 Nn638] at st638
 refine GoW.sg (mkF m 9 (Sh0 a1 dx) [(.int 4), (.int 4)]) (fun t k => st638 t k) ?_
 refine GoW.sg (mkF m 42 (Sh0 a1 dx) [(.ref a1), (.double dx)]) (fun t k => XS.icmpYes X637.here hx rfl (pc0 := 9) (pc' := 40) rfl (B d4_9) rfl (by decide) (by decide) (by decide) (XS.dloadN X637.here hx rfl (B d4_40) rfl (XS.aloadN X637.here hx rfl (B d4_41) rfl rfl k))) ?_
 obtain ⟨T639, X639, e639, st639⟩ := getF X637 hx hZ hown (host := "") (Or.inl (ww hw 11 rfl)) Via.refl e637 P2 (g := (mkF m 42 (Sh0 a1 dx) [(.ref a1), (.double dx)])) rfl rfl (B d4_42)
 refine GoW.sg (mkF m 45 (Sh0 a1 dx) [(.ref a2), (.double dx)]) (fun t k => st639 t k) ?_
 refine GoW.sg (mkF m 46 (Sh0 a1 dx) [(.int 0), (.ref a2), (.double dx)]) (fun t k => XS.iconst X639.here hx rfl (B d4_45) k) ?_
 obtain ⟨cl640, Ar640, q640, Sz640, Nn640, Hh640, Gg640⟩ := id P3
 have hin640 : ¬ ((0 : Int32) < 0 ∨ cl640.slots.size ≤ ((0 : Int32)).toNatClampNeg) := inb_of Sz640 ⟨by decide, by decide⟩
 refine GoW.sg (mkF m 47 (Sh0 a1 dx) [(.double d0), (.double dx)]) (fun t k => X639.daload hx (j := (0 : Int32)) (v := (.double d0)) (hq_ e639 Ar640.1) (State.isArrayOf_alike hZ.alike Ar640.2.1) Ar640.2.2 hin640 (Hh640.at hin640 rfl) (g := (mkF m 46 (Sh0 a1 dx) [(.int 0), (.ref a2), (.double dx)])) rfl rfl (B d4_46) t k) ?_
 refine GoW.sg (mkF m 48 (Sh0 a1 dx) [(.int (lcmpW (Int32.toInt64 x) (Int32.toInt64 v0)))]) (fun t k => XS.dcmpS X639.here hx rfl (B d4_47) rfl (v := (lcmpW (Int32.toInt64 x) (Int32.toInt64 v0))) (by rw [hdx, hd0]; exact dcmpV_w (own_b53 _) (own_b53 _) _) k) ?_
 by_cases c641 : (Int32.toInt64 v0) < (Int32.toInt64 x)
 ·refine GoW.sg (mkF m 52 (Sh0 a1 dx) [(.ref a1)]) (fun t k => XS.ifNo X639.here hx rfl (B d4_48) rfl ((if0 _ _).trans (tlt ((lw_gt _ _).mpr c641)).2.2.2) (XS.aloadN X639.here hx rfl (B d4_51) rfl rfl k)) ?_
  obtain ⟨T642, X642, e642, st642⟩ := getF X639 hx hZ hown (host := "") (Or.inl (ww hw 11 rfl)) Via.refl e639 P2 (g := (mkF m 52 (Sh0 a1 dx) [(.ref a1)])) rfl rfl (B d4_52)
  refine GoW.sg (mkF m 55 (Sh0 a1 dx) [(.ref a2)]) (fun t k => st642 t k) ?_
  refine GoW.sg (mkF m 57 (Sh0 a1 dx) [(.double dx), (.int 0), (.ref a2)]) (fun t k => XS.iconst X642.here hx rfl (B d4_55) (XS.dloadN X642.here hx rfl (B d4_56) rfl k)) ?_
  obtain ⟨cl643, Ar643, q643, Sz643, Nn643, Hh643, Gg643⟩ := P3
  have hin643 : ¬ ((0 : Int32) < 0 ∨ cl643.slots.size ≤ ((0 : Int32)).toNatClampNeg) := inb_of Sz643 ⟨by decide, by decide⟩
  obtain ⟨T643, h643, X643, e643, W643, st643⟩ := stD X642 hx hZ e642 Ar643 (j := (0 : Int32)) hin643 (g := (mkF m 57 (Sh0 a1 dx) [(.double dx), (.int 0), (.ref a2)])) rfl rfl (B d4_57)
  have f643_1 := P0.wr W643
  have f643_2 := P1.other W643 (Or.inl ne_a1_a2)
  have f643_3 := P2.other W643 (Or.inl ne_a1_a2)
  have f643_4 := (Keep.refl h0 [a1, a2]).wr W643 (Or.inl (List.mem_of_getElem? (i := 1) rfl))
  have V643 : Arv Z h643 a2 ka2 .double (4 : Int32) [(.double dx), (.double d1), (.double d2), (.double d3)] (.double (0 : UInt64)) := Arv.set Ar643 q643 Sz643 Nn643 Hh643 Gg643 rfl W643 0 rfl (Nat.le_of_ble_eq_true rfl)
  have N643 := Fr.snoc X643 N0 g_a2
  refine GoW.sg (mkF m 58 (Sh0 a1 dx) []) (fun t k => st643 t k) ?_
  refine GoW.sg (mkF m 60 (Sh0 a1 dx) [(.int 0), (.ref a1)]) (fun t k => XS.aloadN X643.here hx rfl (B d4_58) rfl rfl (XS.iconst X643.here hx rfl (B d4_59) k)) ?_
  by_cases c652 : (Int32.toInt64 v2) < (Int32.toInt64 v1)
  ·show GoW p e below s (QO44 Z a1 dx x v0 v1 v2 v3 d0 d1 d2 d3 a2 ka2 h0 n0) 0 0 (T643.setTop (mkF m 60 (Sh0 a1 dx) [(.int 0), (.ref a1)]))
   by_cases c663 : (Int32.toInt64 v2) < (Int32.toInt64 x)
   ·show GoW p e below s (QO44 Z a1 dx x v0 v1 v2 v3 d0 d1 d2 d3 a2 ka2 h0 n0) 0 0 (T643.setTop (mkF m 60 (Sh0 a1 dx) [(.int 0), (.ref a1)]))
    obtain ⟨_, T698, L698, X698, hQ698, st698⟩ := own_priv X643 hx hZ (y := Y8) hown (ww hw 38 rfl) (ww hw 40 rfl) (ww hw 2 rfl) (ww hw 39 rfl) (ww hw 41 rfl) (ww hw 3 rfl) (by decide) 0 (a := a1) (rm8_25 l Z a0 hw a1 a2 ka2 dx d1 d2 d3 v2 v1 x v3 h643 n0 f643_3 f643_2 V643 g_a2 ne_a1_a2 c652 c663 hdx hd1 hd2 hd3 ) (by decide) (by decide) e643 f643_1 (by decide) (by decide) (g := (mkF m 60 (Sh0 a1 dx) [(.int 0), (.ref a1)])) rfl (by rw [hml]; rfl) (argsL := [(.int (0 : Int32))]) (rest := []) (lenOf pd_28I29V rfl) rfl (Nat.le_of_eq rfl) (B d4_60)
    obtain ⟨rfl, N698q, K698, p698_0⟩ := hQ698
    have N698 := Fr.app N643 N698q
    have f698_5 := f643_1.keep K698
    have f698_6 := f643_2.keep K698 (ninS ne_a1_a2 nin0)
    have f698_7 := f643_3.keep K698 (ninS ne_a1_a2 nin0)
    have f698_8 := f643_4.trans K698 (allS (Or.inl (List.mem_of_getElem? (i := 1) rfl)) all0)
    refine GoW.sg (mkF m 63 (Sh0 a1 dx) []) (fun t k => st698 t k) ?_
    refine GoW.retV X698 hx Bd.returns (B d4_63) Bd.notSynchronized ?_ (by decide) (by decide)
    simp only [Int64.lt_iff_toInt_lt, Int32.toInt_toInt64] at c641 c652 c663
    exact ⟨v2, v1, x, v3, d2, d1, dx, d3, rfl, N698, f698_8, f698_5, f698_6, f698_7, p698_0, hd2, hd1, hdx, hd3, by omega, fun z => by have _k0 := own_cn z v0; have _k1 := own_cn z v1; have _k2 := own_cn z v2; have _k3 := own_cn z v3; have _k4 := own_cn z x; omega⟩
   ·show GoW p e below s (QO44 Z a1 dx x v0 v1 v2 v3 d0 d1 d2 d3 a2 ka2 h0 n0) 0 0 (T643.setTop (mkF m 60 (Sh0 a1 dx) [(.int 0), (.ref a1)]))
    obtain ⟨_, T723, L723, X723, hQ723, st723⟩ := own_priv X643 hx hZ (y := Y8) hown (ww hw 38 rfl) (ww hw 40 rfl) (ww hw 2 rfl) (ww hw 39 rfl) (ww hw 41 rfl) (ww hw 3 rfl) (by decide) 0 (a := a1) (rm8_26 l Z a0 hw a1 a2 ka2 dx d1 d2 d3 v2 v1 x v3 h643 n0 f643_3 f643_2 V643 g_a2 c652 c663 hdx hd1 hd2 hd3 ) (by decide) (by decide) e643 f643_1 (by decide) (by decide) (g := (mkF m 60 (Sh0 a1 dx) [(.int 0), (.ref a1)])) rfl (by rw [hml]; rfl) (argsL := [(.int (0 : Int32))]) (rest := []) (lenOf pd_28I29V rfl) rfl (Nat.le_of_eq rfl) (B d4_60)
    obtain ⟨rfl, N723q, K723, p723_0⟩ := hQ723
    have N723 := Fr.app N643 N723q
    have f723_9 := f643_1.keep K723
    have f723_10 := f643_2.keep K723 (ninS ne_a1_a2 nin0)
    have f723_11 := f643_3.keep K723 (ninS ne_a1_a2 nin0)
    have f723_12 := f643_4.trans K723 (allS (Or.inl (List.mem_of_getElem? (i := 1) rfl)) all0)
    refine GoW.sg (mkF m 63 (Sh0 a1 dx) []) (fun t k => st723 t k) ?_
    refine GoW.retV X723 hx Bd.returns (B d4_63) Bd.notSynchronized ?_ (by decide) (by decide)
    simp only [Int64.lt_iff_toInt_lt, Int32.toInt_toInt64] at c641 c652 c663
    exact ⟨x, v1, v2, v3, dx, d1, d2, d3, rfl, N723, f723_12, f723_9, f723_10, f723_11, p723_0, hdx, hd1, hd2, hd3, by omega, fun z => by have _k0 := own_cn z v0; have _k1 := own_cn z v1; have _k2 := own_cn z v2; have _k3 := own_cn z v3; have _k4 := own_cn z x; omega⟩
  ·show GoW p e below s (QO44 Z a1 dx x v0 v1 v2 v3 d0 d1 d2 d3 a2 ka2 h0 n0) 0 0 (T643.setTop (mkF m 60 (Sh0 a1 dx) [(.int 0), (.ref a1)]))
   by_cases c734 : (Int32.toInt64 v1) < (Int32.toInt64 x)
   ·show GoW p e below s (QO44 Z a1 dx x v0 v1 v2 v3 d0 d1 d2 d3 a2 ka2 h0 n0) 0 0 (T643.setTop (mkF m 60 (Sh0 a1 dx) [(.int 0), (.ref a1)]))
    by_cases c753 : (Int32.toInt64 v3) < (Int32.toInt64 x)
    ·show GoW p e below s (QO44 Z a1 dx x v0 v1 v2 v3 d0 d1 d2 d3 a2 ka2 h0 n0) 0 0 (T643.setTop (mkF m 60 (Sh0 a1 dx) [(.int 0), (.ref a1)]))
     obtain ⟨_, T804, L804, X804, hQ804, st804⟩ := own_priv X643 hx hZ (y := Y8) hown (ww hw 38 rfl) (ww hw 40 rfl) (ww hw 2 rfl) (ww hw 39 rfl) (ww hw 41 rfl) (ww hw 3 rfl) (by decide) 0 (a := a1) (rm8_27 l Z a0 hw a1 a2 ka2 dx d1 d2 d3 v2 v1 x v3 h643 n0 f643_3 f643_2 V643 g_a2 ne_a1_a2 c652 c734 c753 hdx hd1 hd2 hd3 ) (by decide) (by decide) e643 f643_1 (by decide) (by decide) (g := (mkF m 60 (Sh0 a1 dx) [(.int 0), (.ref a1)])) rfl (by rw [hml]; rfl) (argsL := [(.int (0 : Int32))]) (rest := []) (lenOf pd_28I29V rfl) rfl (Nat.le_of_eq rfl) (B d4_60)
     obtain ⟨rfl, N804q, K804, p804_0⟩ := hQ804
     have N804 := Fr.app N643 N804q
     have f804_13 := f643_1.keep K804
     have f804_14 := f643_2.keep K804 (ninS ne_a1_a2 nin0)
     have f804_15 := f643_3.keep K804 (ninS ne_a1_a2 nin0)
     have f804_16 := f643_4.trans K804 (allS (Or.inl (List.mem_of_getElem? (i := 1) rfl)) all0)
     refine GoW.sg (mkF m 63 (Sh0 a1 dx) []) (fun t k => st804 t k) ?_
     refine GoW.retV X804 hx Bd.returns (B d4_63) Bd.notSynchronized ?_ (by decide) (by decide)
     simp only [Int64.lt_iff_toInt_lt, Int32.toInt_toInt64] at c641 c652 c734 c753
     exact ⟨v1, v3, v2, x, d1, d3, d2, dx, rfl, N804, f804_16, f804_13, f804_14, f804_15, p804_0, hd1, hd3, hd2, hdx, by omega, fun z => by have _k0 := own_cn z v0; have _k1 := own_cn z v1; have _k2 := own_cn z v2; have _k3 := own_cn z v3; have _k4 := own_cn z x; omega⟩
    ·show GoW p e below s (QO44 Z a1 dx x v0 v1 v2 v3 d0 d1 d2 d3 a2 ka2 h0 n0) 0 0 (T643.setTop (mkF m 60 (Sh0 a1 dx) [(.int 0), (.ref a1)]))
     obtain ⟨_, T845, L845, X845, hQ845, st845⟩ := own_priv X643 hx hZ (y := Y8) hown (ww hw 38 rfl) (ww hw 40 rfl) (ww hw 2 rfl) (ww hw 39 rfl) (ww hw 41 rfl) (ww hw 3 rfl) (by decide) 0 (a := a1) (rm8_28 l Z a0 hw a1 a2 ka2 dx d1 d2 d3 v2 v1 x v3 h643 n0 f643_3 f643_2 V643 g_a2 ne_a1_a2 c652 c734 c753 hdx hd1 hd2 hd3 ) (by decide) (by decide) e643 f643_1 (by decide) (by decide) (g := (mkF m 60 (Sh0 a1 dx) [(.int 0), (.ref a1)])) rfl (by rw [hml]; rfl) (argsL := [(.int (0 : Int32))]) (rest := []) (lenOf pd_28I29V rfl) rfl (Nat.le_of_eq rfl) (B d4_60)
     obtain ⟨rfl, N845q, K845, p845_0⟩ := hQ845
     have N845 := Fr.app N643 N845q
     have f845_17 := f643_1.keep K845
     have f845_18 := f643_2.keep K845 (ninS ne_a1_a2 nin0)
     have f845_19 := f643_3.keep K845 (ninS ne_a1_a2 nin0)
     have f845_20 := f643_4.trans K845 (allS (Or.inl (List.mem_of_getElem? (i := 1) rfl)) all0)
     refine GoW.sg (mkF m 63 (Sh0 a1 dx) []) (fun t k => st845 t k) ?_
     refine GoW.retV X845 hx Bd.returns (B d4_63) Bd.notSynchronized ?_ (by decide) (by decide)
     simp only [Int64.lt_iff_toInt_lt, Int32.toInt_toInt64] at c641 c652 c734 c753
     exact ⟨v1, x, v2, v3, d1, dx, d2, d3, rfl, N845, f845_20, f845_17, f845_18, f845_19, p845_0, hd1, hdx, hd2, hd3, by omega, fun z => by have _k0 := own_cn z v0; have _k1 := own_cn z v1; have _k2 := own_cn z v2; have _k3 := own_cn z v3; have _k4 := own_cn z x; omega⟩
   ·show GoW p e below s (QO44 Z a1 dx x v0 v1 v2 v3 d0 d1 d2 d3 a2 ka2 h0 n0) 0 0 (T643.setTop (mkF m 60 (Sh0 a1 dx) [(.int 0), (.ref a1)]))
    obtain ⟨_, T870, L870, X870, hQ870, st870⟩ := own_priv X643 hx hZ (y := Y8) hown (ww hw 38 rfl) (ww hw 40 rfl) (ww hw 2 rfl) (ww hw 39 rfl) (ww hw 41 rfl) (ww hw 3 rfl) (by decide) 0 (a := a1) (rm8_29 l Z a0 hw a1 a2 ka2 dx d1 d2 d3 v2 v1 x v3 h643 n0 f643_3 f643_2 V643 g_a2 c652 c734 hdx hd1 hd2 hd3 ) (by decide) (by decide) e643 f643_1 (by decide) (by decide) (g := (mkF m 60 (Sh0 a1 dx) [(.int 0), (.ref a1)])) rfl (by rw [hml]; rfl) (argsL := [(.int (0 : Int32))]) (rest := []) (lenOf pd_28I29V rfl) rfl (Nat.le_of_eq rfl) (B d4_60)
    obtain ⟨rfl, N870q, K870, p870_0⟩ := hQ870
    have N870 := Fr.app N643 N870q
    have f870_21 := f643_1.keep K870
    have f870_22 := f643_2.keep K870 (ninS ne_a1_a2 nin0)
    have f870_23 := f643_3.keep K870 (ninS ne_a1_a2 nin0)
    have f870_24 := f643_4.trans K870 (allS (Or.inl (List.mem_of_getElem? (i := 1) rfl)) all0)
    refine GoW.sg (mkF m 63 (Sh0 a1 dx) []) (fun t k => st870 t k) ?_
    refine GoW.retV X870 hx Bd.returns (B d4_63) Bd.notSynchronized ?_ (by decide) (by decide)
    simp only [Int64.lt_iff_toInt_lt, Int32.toInt_toInt64] at c641 c652 c734
    exact ⟨x, v1, v2, v3, dx, d1, d2, d3, rfl, N870, f870_24, f870_21, f870_22, f870_23, p870_0, hdx, hd1, hd2, hd3, by omega, fun z => by have _k0 := own_cn z v0; have _k1 := own_cn z v1; have _k2 := own_cn z v2; have _k3 := own_cn z v3; have _k4 := own_cn z x; omega⟩
 ·refine GoW.sg (mkF m 63 (Sh0 a1 dx) []) (fun t k => XS.ifYes X639.here hx rfl (pc0 := 48) (pc' := 63) rfl (B d4_48) rfl ((if0 _ _).trans (flt (mt (lw_gt _ _).mp c641)).2.2.2) (by decide) (by decide) k) ?_
  refine GoW.retV X639 hx Bd.returns (B d4_63) Bd.notSynchronized ?_ (by decide) (by decide)
  rw [e639]
  simp only [Int64.lt_iff_toInt_lt, Int32.toInt_toInt64] at c641
  exact ⟨v0, v1, v2, v3, d0, d1, d2, d3, rfl, N0, (Keep.refl h0 [a1, a2]), P0, P1, P2, P3, hd0, hd1, hd2, hd3, by omega, fun z => by have _k0 := own_cn z v0; have _k1 := own_cn z v1; have _k2 := own_cn z v2; have _k3 := own_cn z v3; have _k4 := own_cn z x; omega⟩
def F7_5 (q1 q2 : Int64) (q3 q4 : Int64) (q5 q6 : Int64) (b872 b876 : Int32) (b880 b884 b888 : Int32) : Int32 := ((((b872 + b876) + b880) + b884) + b888)
def F7_4 (q1 q2 : Int64) (q3 q4 : Int64) (q5 q6 : Int64) (b872 b876 : Int32) (b880 b884 : Int32) : Int32 := (F7_5 q1 q2 q3 q4 q5 q6 b872 b876 b880 b884 (if q6 < q1 then (0 : Int32) else (1 : Int32)))
def F7_3 (q1 q2 : Int64) (q3 q4 : Int64) (q5 q6 : Int64) (b872 b876 b880 : Int32) : Int32 := (F7_4 q1 q2 q3 q4 q5 q6 b872 b876 b880 (if q5 < q1 then (0 : Int32) else (1 : Int32)))
def F7_2 (q1 q2 : Int64) (q3 q4 : Int64) (q5 q6 : Int64) (b872 b876 : Int32) : Int32 := (F7_3 q1 q2 q3 q4 q5 q6 b872 b876 (if q4 < q1 then (0 : Int32) else (1 : Int32)))
def F7_1 (q1 q2 : Int64) (q3 q4 : Int64) (q5 q6 : Int64) (b872 : Int32) : Int32 := (F7_2 q1 q2 q3 q4 q5 q6 b872 (if q3 < q1 then (0 : Int32) else (1 : Int32)))
def F7 (q1 q2 : Int64) (q3 q4 : Int64) (q5 q6 : Int64) : Int32 := (F7_1 q1 q2 q3 q4 q5 q6 (if q2 < q1 then (0 : Int32) else (1 : Int32)))
theorem rm7 (l : Launch) (Z : State) (a0 : Array Value) (hw : HW a0 Z) (q1 q2 : Int64) (q3 q4 : Int64) (q5 q6 : Int64) (h0 : Heap) (n0 : Nat) :
  MM l Z Y7 method_3_code 12 (some .int) 0 0 0 0 #[(.long q1), (.long q2), (.long q3), (.long q4), (.long q5), (.long q6)] h0 (PureQ (.int (F7 q1 q2 q3 q4 q5 q6)) h0 n0) := by
 refine own_start (fun m => (mkF m 0 (Sh6 q1 q2 q3 q4 q5 q6) [])) (plainFor_of_name pn_com_example_nearterm_nearterm_retrieval_HighestScoresLowestPinLaw) (by simp [entryFrame, mkF, argsToLocals, Value.category]) n0 ?_
 intro p e s m below meth c s₁ Bd hx B hml hZ hown hnm X0 e0 N0
 refine GoW.sg (mkF m 3 (Sh6 q1 q2 q3 q4 q5 q6) [(.int (lcmpW q2 q1))]) (fun t k => XS.lloadN X0.here hx rfl (B d7_0) rfl (XS.lloadN X0.here hx rfl (B d7_1) rfl (XS.lcmp X0.here hx rfl (B d7_2) rfl k))) ?_
 have J11_873 : ∀ b872 : Int32, b872 = (if q2 < q1 then (0 : Int32) else (1 : Int32)) → GoW p e below s (PureQ (.int (F7 q1 q2 q3 q4 q5 q6)) h0 n0) 0 0 (s₁.setTop (mkF m 11 (Sh6 q1 q2 q3 q4 q5 q6) [(.int b872)])) := by
  intro b872 hb872
  have hFb872 : (F7 q1 q2 q3 q4 q5 q6) = (F7_1 q1 q2 q3 q4 q5 q6 b872) := by unfold F7; rw [hb872]
  refine GoW.sg (mkF m 15 (Sh6 q1 q2 q3 q4 q5 q6) [(.int (lcmpW q3 q1)), (.int b872)]) (fun t k => XS.lload X0.here hx rfl (B d7_11) rfl (XS.lloadN X0.here hx rfl (B d7_13) rfl (XS.lcmp X0.here hx rfl (B d7_14) rfl k))) ?_
  have J23_877 : ∀ b876 : Int32, b876 = (if q3 < q1 then (0 : Int32) else (1 : Int32)) → GoW p e below s (PureQ (.int (F7 q1 q2 q3 q4 q5 q6)) h0 n0) 0 0 (s₁.setTop (mkF m 23 (Sh6 q1 q2 q3 q4 q5 q6) [(.int b876), (.int b872)])) := by
   intro b876 hb876
   have hFb876 : (F7_1 q1 q2 q3 q4 q5 q6 b872) = (F7_2 q1 q2 q3 q4 q5 q6 b872 b876) := by unfold F7_1; rw [hb876]
   refine GoW.sg (mkF m 28 (Sh6 q1 q2 q3 q4 q5 q6) [(.int (lcmpW q4 q1)), (.int (b872 + b876))]) (fun t k => XS.iadd X0.here hx rfl (B d7_23) rfl (XS.lload X0.here hx rfl (B d7_24) rfl (XS.lloadN X0.here hx rfl (B d7_26) rfl (XS.lcmp X0.here hx rfl (B d7_27) rfl k)))) ?_
   have J36_881 : ∀ b880 : Int32, b880 = (if q4 < q1 then (0 : Int32) else (1 : Int32)) → GoW p e below s (PureQ (.int (F7 q1 q2 q3 q4 q5 q6)) h0 n0) 0 0 (s₁.setTop (mkF m 36 (Sh6 q1 q2 q3 q4 q5 q6) [(.int b880), (.int (b872 + b876))])) := by
    intro b880 hb880
    have hFb880 : (F7_2 q1 q2 q3 q4 q5 q6 b872 b876) = (F7_3 q1 q2 q3 q4 q5 q6 b872 b876 b880) := by unfold F7_2; rw [hb880]
    refine GoW.sg (mkF m 41 (Sh6 q1 q2 q3 q4 q5 q6) [(.int (lcmpW q5 q1)), (.int ((b872 + b876) + b880))]) (fun t k => XS.iadd X0.here hx rfl (B d7_36) rfl (XS.lload X0.here hx rfl (B d7_37) rfl (XS.lloadN X0.here hx rfl (B d7_39) rfl (XS.lcmp X0.here hx rfl (B d7_40) rfl k)))) ?_
    have J49_885 : ∀ b884 : Int32, b884 = (if q5 < q1 then (0 : Int32) else (1 : Int32)) → GoW p e below s (PureQ (.int (F7 q1 q2 q3 q4 q5 q6)) h0 n0) 0 0 (s₁.setTop (mkF m 49 (Sh6 q1 q2 q3 q4 q5 q6) [(.int b884), (.int ((b872 + b876) + b880))])) := by
     intro b884 hb884
     have hFb884 : (F7_3 q1 q2 q3 q4 q5 q6 b872 b876 b880) = (F7_4 q1 q2 q3 q4 q5 q6 b872 b876 b880 b884) := by unfold F7_3; rw [hb884]
     refine GoW.sg (mkF m 54 (Sh6 q1 q2 q3 q4 q5 q6) [(.int (lcmpW q6 q1)), (.int (((b872 + b876) + b880) + b884))]) (fun t k => XS.iadd X0.here hx rfl (B d7_49) rfl (XS.lload X0.here hx rfl (B d7_50) rfl (XS.lloadN X0.here hx rfl (B d7_52) rfl (XS.lcmp X0.here hx rfl (B d7_53) rfl k)))) ?_
     have J62_889 : ∀ b888 : Int32, b888 = (if q6 < q1 then (0 : Int32) else (1 : Int32)) → GoW p e below s (PureQ (.int (F7 q1 q2 q3 q4 q5 q6)) h0 n0) 0 0 (s₁.setTop (mkF m 62 (Sh6 q1 q2 q3 q4 q5 q6) [(.int b888), (.int (((b872 + b876) + b880) + b884))])) := by
      intro b888 hb888
      have hFb888 : (F7_4 q1 q2 q3 q4 q5 q6 b872 b876 b880 b884) = (F7_5 q1 q2 q3 q4 q5 q6 b872 b876 b880 b884 b888) := by unfold F7_4; rw [hb888]
      refine GoW.sg (mkF m 63 (Sh6 q1 q2 q3 q4 q5 q6) [(.int ((((b872 + b876) + b880) + b884) + b888))]) (fun t k => XS.iadd X0.here hx rfl (B d7_62) rfl k) ?_
      refine GoW.retI X0 hx Bd.returns (B d7_63) Bd.notSynchronized ?_ (by decide) (by decide)
      have hq : (F7 q1 q2 q3 q4 q5 q6) = ((((b872 + b876) + b880) + b884) + b888) := by rw [hFb872, hFb876, hFb880, hFb884, hFb888]; unfold F7_5; try rfl
      exact ⟨by rw [hq] <;> rfl, N0, e0⟩
     by_cases c890 : q6 < q1
     ·refine GoW.sg (mkF m 62 (Sh6 q1 q2 q3 q4 q5 q6) [(.int 0), (.int (((b872 + b876) + b880) + b884))]) (fun t k => XS.ifYes X0.here hx rfl (pc0 := 54) (pc' := 61) rfl (B d7_54) rfl ((if0 _ _).trans (tlt ((lw_lt _ _).mpr c890)).1) (by decide) (by decide) (XS.iconst X0.here hx rfl (B d7_61) k)) ?_
      exact J62_889 _ (by rw [if_pos c890])
     ·refine GoW.sg (mkF m 62 (Sh6 q1 q2 q3 q4 q5 q6) [(.int 1), (.int (((b872 + b876) + b880) + b884))]) (fun t k => XS.ifNo X0.here hx rfl (B d7_54) rfl ((if0 _ _).trans (flt (mt (lw_lt _ _).mp c890)).1) (XS.iconst X0.here hx rfl (B d7_57) (XS.goto X0.here hx rfl (pc0 := 58) (pc' := 62) rfl (B d7_58) (by decide) (by decide) k))) ?_
      exact J62_889 _ (by rw [if_neg c890])
    by_cases c886 : q5 < q1
    ·refine GoW.sg (mkF m 49 (Sh6 q1 q2 q3 q4 q5 q6) [(.int 0), (.int ((b872 + b876) + b880))]) (fun t k => XS.ifYes X0.here hx rfl (pc0 := 41) (pc' := 48) rfl (B d7_41) rfl ((if0 _ _).trans (tlt ((lw_lt _ _).mpr c886)).1) (by decide) (by decide) (XS.iconst X0.here hx rfl (B d7_48) k)) ?_
     exact J49_885 _ (by rw [if_pos c886])
    ·refine GoW.sg (mkF m 49 (Sh6 q1 q2 q3 q4 q5 q6) [(.int 1), (.int ((b872 + b876) + b880))]) (fun t k => XS.ifNo X0.here hx rfl (B d7_41) rfl ((if0 _ _).trans (flt (mt (lw_lt _ _).mp c886)).1) (XS.iconst X0.here hx rfl (B d7_44) (XS.goto X0.here hx rfl (pc0 := 45) (pc' := 49) rfl (B d7_45) (by decide) (by decide) k))) ?_
     exact J49_885 _ (by rw [if_neg c886])
   by_cases c882 : q4 < q1
   ·refine GoW.sg (mkF m 36 (Sh6 q1 q2 q3 q4 q5 q6) [(.int 0), (.int (b872 + b876))]) (fun t k => XS.ifYes X0.here hx rfl (pc0 := 28) (pc' := 35) rfl (B d7_28) rfl ((if0 _ _).trans (tlt ((lw_lt _ _).mpr c882)).1) (by decide) (by decide) (XS.iconst X0.here hx rfl (B d7_35) k)) ?_
    exact J36_881 _ (by rw [if_pos c882])
   ·refine GoW.sg (mkF m 36 (Sh6 q1 q2 q3 q4 q5 q6) [(.int 1), (.int (b872 + b876))]) (fun t k => XS.ifNo X0.here hx rfl (B d7_28) rfl ((if0 _ _).trans (flt (mt (lw_lt _ _).mp c882)).1) (XS.iconst X0.here hx rfl (B d7_31) (XS.goto X0.here hx rfl (pc0 := 32) (pc' := 36) rfl (B d7_32) (by decide) (by decide) k))) ?_
    exact J36_881 _ (by rw [if_neg c882])
  by_cases c878 : q3 < q1
  ·refine GoW.sg (mkF m 23 (Sh6 q1 q2 q3 q4 q5 q6) [(.int 0), (.int b872)]) (fun t k => XS.ifYes X0.here hx rfl (pc0 := 15) (pc' := 22) rfl (B d7_15) rfl ((if0 _ _).trans (tlt ((lw_lt _ _).mpr c878)).1) (by decide) (by decide) (XS.iconst X0.here hx rfl (B d7_22) k)) ?_
   exact J23_877 _ (by rw [if_pos c878])
  ·refine GoW.sg (mkF m 23 (Sh6 q1 q2 q3 q4 q5 q6) [(.int 1), (.int b872)]) (fun t k => XS.ifNo X0.here hx rfl (B d7_15) rfl ((if0 _ _).trans (flt (mt (lw_lt _ _).mp c878)).1) (XS.iconst X0.here hx rfl (B d7_18) (XS.goto X0.here hx rfl (pc0 := 19) (pc' := 23) rfl (B d7_19) (by decide) (by decide) k))) ?_
   exact J23_877 _ (by rw [if_neg c878])
 by_cases c874 : q2 < q1
 ·refine GoW.sg (mkF m 11 (Sh6 q1 q2 q3 q4 q5 q6) [(.int 0)]) (fun t k => XS.ifYes X0.here hx rfl (pc0 := 3) (pc' := 10) rfl (B d7_3) rfl ((if0 _ _).trans (tlt ((lw_lt _ _).mpr c874)).1) (by decide) (by decide) (XS.iconst X0.here hx rfl (B d7_10) k)) ?_
  exact J11_873 _ (by rw [if_pos c874])
 ·refine GoW.sg (mkF m 11 (Sh6 q1 q2 q3 q4 q5 q6) [(.int 1)]) (fun t k => XS.ifNo X0.here hx rfl (B d7_3) rfl ((if0 _ _).trans (flt (mt (lw_lt _ _).mp c874)).1) (XS.iconst X0.here hx rfl (B d7_6) (XS.goto X0.here hx rfl (pc0 := 7) (pc' := 11) rfl (B d7_7) (by decide) (by decide) k))) ?_
  exact J11_873 _ (by rw [if_neg c874])
def F6 (q1 q2 : Int64) (q3 : Int32) (q4 q5 : Int64) (q6 q7 q8 : Int64) : Int64 := (if (F7 q2 q4 q5 q6 q7 q8) < q3 then q1 else (if q1 < q2 then q2 else q1))
theorem rm6 (l : Launch) (Z : State) (a0 : Array Value) (hw : HW a0 Z) (q1 q2 : Int64) (q3 : Int32) (q4 q5 : Int64) (q6 q7 q8 : Int64) (h0 : Heap) (n0 : Nat) :
  MM l Z Y6 method_4_code 15 (some .long) 1 0 0 23 #[(.long q1), (.long q2), (.int q3), (.long q4), (.long q5), (.long q6), (.long q7), (.long q8)] h0 (PureQ (.long (F6 q1 q2 q3 q4 q5 q6 q7 q8)) h0 n0) := by
 refine own_start (fun m => (mkF m 0 (Sh7 q1 q2 q3 q4 q5 q6 q7 q8) [])) (plainFor_of_name pn_com_example_nearterm_nearterm_retrieval_HighestScoresLowestPinLaw) (by simp [entryFrame, mkF, argsToLocals, Value.category]) n0 ?_
 intro p e s m below meth c s₁ Bd hx B hml hZ hown hnm X0 e0 N0
 refine GoW.sg (mkF m 11 (Sh7 q1 q2 q3 q4 q5 q6 q7 q8) [(.long q8), (.long q7), (.long q6), (.long q5), (.long q4), (.long q2)]) (fun t k => XS.lloadN X0.here hx rfl (B d6_0) rfl (XS.lload X0.here hx rfl (B d6_1) rfl (XS.lload X0.here hx rfl (B d6_3) rfl (XS.lload X0.here hx rfl (B d6_5) rfl (XS.lload X0.here hx rfl (B d6_7) rfl (XS.lload X0.here hx rfl (B d6_9) rfl k)))))) ?_
 obtain ⟨_, T891, L891, X891, hQ891, st891⟩ := own_callS X0 hx hZ hown (y := Y7) (ww hw 35 rfl) (ww hw 36 rfl) (ww hw 33 rfl) (ww hw 37 rfl) (by decide) 0 (rm7 l Z a0 hw q2 q4 q5 q6 q7 q8 h0 n0) (by decide) (by decide) e0 (by decide) (by decide) (g := (mkF m 11 (Sh7 q1 q2 q3 q4 q5 q6 q7 q8) [(.long q8), (.long q7), (.long q6), (.long q5), (.long q4), (.long q2)])) rfl (by rw [hml]; rfl) (argsL := [(.long q2), (.long q4), (.long q5), (.long q6), (.long q7), (.long q8)]) (rest := []) (lenOf pd_28JJJJJJ29I rfl) rfl (Nat.le_of_eq rfl) (B d6_11)
 obtain ⟨rfl, N891q, e891⟩ := hQ891
 have N891 := Fr.app N0 N891q
 refine GoW.sg (mkF m 14 (Sh7 q1 q2 q3 q4 q5 q6 q7 q8) [(.int (F7 q2 q4 q5 q6 q7 q8))]) (fun t k => st891 t k) ?_
 refine GoW.sg (mkF m 16 (Sh7 q1 q2 q3 q4 q5 q6 q7 q8) [(.int q3), (.int (F7 q2 q4 q5 q6 q7 q8))]) (fun t k => XS.iload X891.here hx rfl (B d6_14) rfl k) ?_
 by_cases c892 : (F7 q2 q4 q5 q6 q7 q8) < q3
 ·refine GoW.sg (mkF m 28 (Sh7 q1 q2 q3 q4 q5 q6 q7 q8) [(.long q1)]) (fun t k => XS.icmpYes X891.here hx rfl (pc0 := 16) (pc' := 27) rfl (B d6_16) rfl (tlt c892).1 (by decide) (by decide) (XS.lloadN X891.here hx rfl (B d6_27) rfl k)) ?_
  refine GoW.retL X891 hx Bd.returns (B d6_28) Bd.notSynchronized ?_ (by decide) (by decide)
  have hq : (F6 q1 q2 q3 q4 q5 q6 q7 q8) = q1 := by unfold F6; rw [if_pos c892]; try rfl
  exact ⟨by rw [hq] <;> rfl, N891, e891⟩
 ·refine GoW.sg (mkF m 22 (Sh7 q1 q2 q3 q4 q5 q6 q7 q8) [(.int (lcmpW q2 q1))]) (fun t k => XS.icmpNo X891.here hx rfl (B d6_16) rfl (flt c892).1 (XS.lloadN X891.here hx rfl (B d6_19) rfl (XS.lloadN X891.here hx rfl (B d6_20) rfl (XS.lcmp X891.here hx rfl (B d6_21) rfl k)))) ?_
  by_cases c893 : q1 < q2
  ·refine GoW.sg (mkF m 26 (Sh7 q1 q2 q3 q4 q5 q6 q7 q8) [(.long q2)]) (fun t k => XS.ifNo X891.here hx rfl (B d6_22) rfl ((if0 _ _).trans (tlt ((lw_gt _ _).mpr c893)).2.2.2) (XS.lloadN X891.here hx rfl (B d6_25) rfl k)) ?_
   refine GoW.retL X891 hx Bd.returns (B d6_26) Bd.notSynchronized ?_ (by decide) (by decide)
   have hq : (F6 q1 q2 q3 q4 q5 q6 q7 q8) = q2 := by unfold F6; rw [if_neg c892, if_pos c893]; try rfl
   exact ⟨by rw [hq] <;> rfl, N891, e891⟩
  ·refine GoW.sg (mkF m 28 (Sh7 q1 q2 q3 q4 q5 q6 q7 q8) [(.long q1)]) (fun t k => XS.ifYes X891.here hx rfl (pc0 := 22) (pc' := 27) rfl (B d6_22) rfl ((if0 _ _).trans (flt (mt (lw_gt _ _).mp c893)).2.2.2) (by decide) (by decide) (XS.lloadN X891.here hx rfl (B d6_27) rfl k)) ?_
   refine GoW.retL X891 hx Bd.returns (B d6_28) Bd.notSynchronized ?_ (by decide) (by decide)
   have hq : (F6 q1 q2 q3 q4 q5 q6 q7 q8) = q1 := by unfold F6; rw [if_neg c892, if_neg c893]; try rfl
   exact ⟨by rw [hq] <;> rfl, N891, e891⟩
theorem own_b (v p : Int64) : ((if p < v then (0 : Int32) else (1 : Int32)) = 0 ∧ c64 v p = 0) ∨ ((if p < v then (0 : Int32) else (1 : Int32)) = 1 ∧ c64 v p = 1) := by
  unfold c64; by_cases h : p < v
  · rw [if_pos h]; rw [Int64.lt_iff_toInt_lt] at h; exact Or.inl ⟨rfl, if_neg (by omega)⟩
  · rw [if_neg h]; rw [Int64.lt_iff_toInt_lt] at h; exact Or.inr ⟨rfl, if_pos (by omega)⟩
theorem own_at (v p q r s t : Int64) : (F7 v p q r s t).toInt = c64 v p + c64 v q + c64 v r + c64 v s + c64 v t := by
  unfold F7 F7_1 F7_2 F7_3 F7_4 F7_5
  rcases own_b v p with ⟨a0, b0⟩ | ⟨a0, b0⟩ <;> rcases own_b v q with ⟨a1, b1⟩ | ⟨a1, b1⟩ <;> rcases own_b v r with ⟨a2, b2⟩ | ⟨a2, b2⟩ <;> rcases own_b v s with ⟨a3, b3⟩ | ⟨a3, b3⟩ <;> rcases own_b v t with ⟨a4, b4⟩ | ⟨a4, b4⟩ <;> rw [a0, a1, a2, a3, a4, b0, b1, b2, b3, b4] <;> decide
theorem own_step (r v p1 p2 p3 p4 p5 : Int64) (k : Int32) (W : Int) (h : k.toInt ≤ (F7 v p1 p2 p3 p4 p5).toInt ↔ v.toInt ≤ W) : (v.toInt ≤ W ∧ r.toInt < v.toInt ∧ (F6 r v k p1 p2 p3 p4 p5).toInt = v.toInt) ∨ (v.toInt ≤ W ∧ v.toInt ≤ r.toInt ∧ (F6 r v k p1 p2 p3 p4 p5).toInt = r.toInt) ∨ (W < v.toInt ∧ (F6 r v k p1 p2 p3 p4 p5).toInt = r.toInt) := by
  unfold F6
  by_cases a : F7 v p1 p2 p3 p4 p5 < k
  · rw [if_pos a]; rw [Int32.lt_iff_toInt_lt] at a; exact Or.inr (Or.inr ⟨by omega, rfl⟩)
  · rw [if_neg a]; rw [Int32.lt_iff_toInt_lt] at a
    by_cases b : r < v
    · rw [if_pos b]; rw [Int64.lt_iff_toInt_lt] at b; exact Or.inl ⟨by omega, b, rfl⟩
    · rw [if_neg b]; rw [Int64.lt_iff_toInt_lt] at b; exact Or.inr (Or.inl ⟨by omega, by omega, rfl⟩)
theorem own_pick {k : Int32} {v1 v2 v3 v4 v5 W r1 r2 r3 r4 r5 : Int64} (h1 : r1 = F6 (-9223372036854775808 : Int64) v1 k v1 v2 v3 v4 v5) (h2 : r2 = F6 r1 v2 k v1 v2 v3 v4 v5) (h3 : r3 = F6 r2 v3 k v1 v2 v3 v4 v5) (h4 : r4 = F6 r3 v4 k v1 v2 v3 v4 v5) (h5 : r5 = F6 r4 v5 k v1 v2 v3 v4 v5) (P1 : (k.toInt ≤ (F7 v1 v1 v2 v3 v4 v5).toInt ↔ v1.toInt ≤ W.toInt)) (P2 : (k.toInt ≤ (F7 v2 v1 v2 v3 v4 v5).toInt ↔ v2.toInt ≤ W.toInt)) (P3 : (k.toInt ≤ (F7 v3 v1 v2 v3 v4 v5).toInt ↔ v3.toInt ≤ W.toInt)) (P4 : (k.toInt ≤ (F7 v4 v1 v2 v3 v4 v5).toInt ↔ v4.toInt ≤ W.toInt)) (P5 : (k.toInt ≤ (F7 v5 v1 v2 v3 v4 v5).toInt ↔ v5.toInt ≤ W.toInt)) (Q : v1 = W ∨ v2 = W ∨ v3 = W ∨ v4 = W ∨ v5 = W) : r5 = W := by
  have s1 := own_step (-9223372036854775808 : Int64) v1 v1 v2 v3 v4 v5 k W.toInt P1
  rw [← h1] at s1
  have s2 := own_step r1 v2 v1 v2 v3 v4 v5 k W.toInt P2
  rw [← h2] at s2
  have s3 := own_step r2 v3 v1 v2 v3 v4 v5 k W.toInt P3
  rw [← h3] at s3
  have s4 := own_step r3 v4 v1 v2 v3 v4 v5 k W.toInt P4
  rw [← h4] at s4
  have s5 := own_step r4 v5 v1 v2 v3 v4 v5 k W.toInt P5
  rw [← h5] at s5
  have e : (-9223372036854775808 : Int64).toInt = -9223372036854775808 := by decide
  have lw := W.le_toInt
  rw [e] at s1
  apply Int64.toInt_inj.mp
  have Q' : v1.toInt = W.toInt ∨ v2.toInt = W.toInt ∨ v3.toInt = W.toInt ∨ v4.toInt = W.toInt ∨ v5.toInt = W.toInt := by
    rcases Q with q | q | q | q | q <;> subst q <;> omega
  omega
theorem own_full1 (z : Int) (w0 : Int32) (H : True) : (cn z w0 = 1 ↔ z ≤ w0.toInt) ∧ cn z w0 ≤ 1 := by
  have _k0 := own_cn z w0
  omega
theorem own_fin11 {x1 w0 : Int32} {r1 r2 r3 r4 r5 : Int64} (h1 : r1 = F6 (-9223372036854775808 : Int64) (Int32.toInt64 x1) (1 : Int32) (Int32.toInt64 x1) (-9223372036854775808 : Int64) (-9223372036854775808 : Int64) (-9223372036854775808 : Int64) (-9223372036854775808 : Int64)) (h2 : r2 = F6 r1 (-9223372036854775808 : Int64) (1 : Int32) (Int32.toInt64 x1) (-9223372036854775808 : Int64) (-9223372036854775808 : Int64) (-9223372036854775808 : Int64) (-9223372036854775808 : Int64)) (h3 : r3 = F6 r2 (-9223372036854775808 : Int64) (1 : Int32) (Int32.toInt64 x1) (-9223372036854775808 : Int64) (-9223372036854775808 : Int64) (-9223372036854775808 : Int64) (-9223372036854775808 : Int64)) (h4 : r4 = F6 r3 (-9223372036854775808 : Int64) (1 : Int32) (Int32.toInt64 x1) (-9223372036854775808 : Int64) (-9223372036854775808 : Int64) (-9223372036854775808 : Int64) (-9223372036854775808 : Int64)) (h5 : r5 = F6 r4 (-9223372036854775808 : Int64) (1 : Int32) (Int32.toInt64 x1) (-9223372036854775808 : Int64) (-9223372036854775808 : Int64) (-9223372036854775808 : Int64) (-9223372036854775808 : Int64)) (H : True) (A : ∀ z : Int, cn z w0 = cn z x1) : r5 = (Int32.toInt64 w0) := by
  have ek : (1 : Int32).toInt = 1 := by decide
  have lw := (Int32.toInt64 w0).le_toInt
  have eM : (-9223372036854775808 : Int64).toInt = -9223372036854775808 := by decide
  refine own_pick h1 h2 h3 h4 h5 ?_ ?_ ?_ ?_ ?_ ?_
  · rw [own_at, ek]; simp only [own_c64i, own_c64m, Int32.toInt_toInt64]; have a := A x1.toInt; have f := own_full1 x1.toInt w0 H; omega
  · rw [own_at, ek]; simp only [own_c64l]; omega
  · rw [own_at, ek]; simp only [own_c64l]; omega
  · rw [own_at, ek]; simp only [own_c64l]; omega
  · rw [own_at, ek]; simp only [own_c64l]; omega
  · have a := A w0.toInt; have b := A (w0.toInt + 1); have f := own_full1 w0.toInt w0 H; have f2 := own_full1 (w0.toInt + 1) w0 H
    by_cases q_x1 : x1 = w0
    · subst q_x1; simp
    exfalso
    rw [own_cne q_x1] at a
    omega
theorem own_fin12 {x1 x2 w0 : Int32} {r1 r2 r3 r4 r5 : Int64} (h1 : r1 = F6 (-9223372036854775808 : Int64) (Int32.toInt64 x1) (1 : Int32) (Int32.toInt64 x1) (Int32.toInt64 x2) (-9223372036854775808 : Int64) (-9223372036854775808 : Int64) (-9223372036854775808 : Int64)) (h2 : r2 = F6 r1 (Int32.toInt64 x2) (1 : Int32) (Int32.toInt64 x1) (Int32.toInt64 x2) (-9223372036854775808 : Int64) (-9223372036854775808 : Int64) (-9223372036854775808 : Int64)) (h3 : r3 = F6 r2 (-9223372036854775808 : Int64) (1 : Int32) (Int32.toInt64 x1) (Int32.toInt64 x2) (-9223372036854775808 : Int64) (-9223372036854775808 : Int64) (-9223372036854775808 : Int64)) (h4 : r4 = F6 r3 (-9223372036854775808 : Int64) (1 : Int32) (Int32.toInt64 x1) (Int32.toInt64 x2) (-9223372036854775808 : Int64) (-9223372036854775808 : Int64) (-9223372036854775808 : Int64)) (h5 : r5 = F6 r4 (-9223372036854775808 : Int64) (1 : Int32) (Int32.toInt64 x1) (Int32.toInt64 x2) (-9223372036854775808 : Int64) (-9223372036854775808 : Int64) (-9223372036854775808 : Int64)) (H : True) (A : ∀ z : Int, cn z w0 = min 1 (cn z x1 + cn z x2)) : r5 = (Int32.toInt64 w0) := by
  have ek : (1 : Int32).toInt = 1 := by decide
  have lw := (Int32.toInt64 w0).le_toInt
  have eM : (-9223372036854775808 : Int64).toInt = -9223372036854775808 := by decide
  refine own_pick h1 h2 h3 h4 h5 ?_ ?_ ?_ ?_ ?_ ?_
  · rw [own_at, ek]; simp only [own_c64i, own_c64m, Int32.toInt_toInt64]; have a := A x1.toInt; have f := own_full1 x1.toInt w0 H; omega
  · rw [own_at, ek]; simp only [own_c64i, own_c64m, Int32.toInt_toInt64]; have a := A x2.toInt; have f := own_full1 x2.toInt w0 H; omega
  · rw [own_at, ek]; simp only [own_c64l]; omega
  · rw [own_at, ek]; simp only [own_c64l]; omega
  · rw [own_at, ek]; simp only [own_c64l]; omega
  · have a := A w0.toInt; have b := A (w0.toInt + 1); have f := own_full1 w0.toInt w0 H; have f2 := own_full1 (w0.toInt + 1) w0 H
    by_cases q_x1 : x1 = w0
    · subst q_x1; simp
    by_cases q_x2 : x2 = w0
    · subst q_x2; simp
    exfalso
    rw [own_cne q_x1, own_cne q_x2] at a
    omega
theorem own_fin13 {x1 x2 x3 w0 : Int32} {r1 r2 r3 r4 r5 : Int64} (h1 : r1 = F6 (-9223372036854775808 : Int64) (Int32.toInt64 x1) (1 : Int32) (Int32.toInt64 x1) (Int32.toInt64 x2) (Int32.toInt64 x3) (-9223372036854775808 : Int64) (-9223372036854775808 : Int64)) (h2 : r2 = F6 r1 (Int32.toInt64 x2) (1 : Int32) (Int32.toInt64 x1) (Int32.toInt64 x2) (Int32.toInt64 x3) (-9223372036854775808 : Int64) (-9223372036854775808 : Int64)) (h3 : r3 = F6 r2 (Int32.toInt64 x3) (1 : Int32) (Int32.toInt64 x1) (Int32.toInt64 x2) (Int32.toInt64 x3) (-9223372036854775808 : Int64) (-9223372036854775808 : Int64)) (h4 : r4 = F6 r3 (-9223372036854775808 : Int64) (1 : Int32) (Int32.toInt64 x1) (Int32.toInt64 x2) (Int32.toInt64 x3) (-9223372036854775808 : Int64) (-9223372036854775808 : Int64)) (h5 : r5 = F6 r4 (-9223372036854775808 : Int64) (1 : Int32) (Int32.toInt64 x1) (Int32.toInt64 x2) (Int32.toInt64 x3) (-9223372036854775808 : Int64) (-9223372036854775808 : Int64)) (H : True) (A : ∀ z : Int, cn z w0 = min 1 (cn z x1 + cn z x2 + cn z x3)) : r5 = (Int32.toInt64 w0) := by
  have ek : (1 : Int32).toInt = 1 := by decide
  have lw := (Int32.toInt64 w0).le_toInt
  have eM : (-9223372036854775808 : Int64).toInt = -9223372036854775808 := by decide
  refine own_pick h1 h2 h3 h4 h5 ?_ ?_ ?_ ?_ ?_ ?_
  · rw [own_at, ek]; simp only [own_c64i, own_c64m, Int32.toInt_toInt64]; have a := A x1.toInt; have f := own_full1 x1.toInt w0 H; omega
  · rw [own_at, ek]; simp only [own_c64i, own_c64m, Int32.toInt_toInt64]; have a := A x2.toInt; have f := own_full1 x2.toInt w0 H; omega
  · rw [own_at, ek]; simp only [own_c64i, own_c64m, Int32.toInt_toInt64]; have a := A x3.toInt; have f := own_full1 x3.toInt w0 H; omega
  · rw [own_at, ek]; simp only [own_c64l]; omega
  · rw [own_at, ek]; simp only [own_c64l]; omega
  · have a := A w0.toInt; have b := A (w0.toInt + 1); have f := own_full1 w0.toInt w0 H; have f2 := own_full1 (w0.toInt + 1) w0 H
    by_cases q_x1 : x1 = w0
    · subst q_x1; simp
    by_cases q_x2 : x2 = w0
    · subst q_x2; simp
    by_cases q_x3 : x3 = w0
    · subst q_x3; simp
    exfalso
    rw [own_cne q_x1, own_cne q_x2, own_cne q_x3] at a
    omega
theorem own_fin14 {x1 x2 x3 x4 w0 : Int32} {r1 r2 r3 r4 r5 : Int64} (h1 : r1 = F6 (-9223372036854775808 : Int64) (Int32.toInt64 x1) (1 : Int32) (Int32.toInt64 x1) (Int32.toInt64 x2) (Int32.toInt64 x3) (Int32.toInt64 x4) (-9223372036854775808 : Int64)) (h2 : r2 = F6 r1 (Int32.toInt64 x2) (1 : Int32) (Int32.toInt64 x1) (Int32.toInt64 x2) (Int32.toInt64 x3) (Int32.toInt64 x4) (-9223372036854775808 : Int64)) (h3 : r3 = F6 r2 (Int32.toInt64 x3) (1 : Int32) (Int32.toInt64 x1) (Int32.toInt64 x2) (Int32.toInt64 x3) (Int32.toInt64 x4) (-9223372036854775808 : Int64)) (h4 : r4 = F6 r3 (Int32.toInt64 x4) (1 : Int32) (Int32.toInt64 x1) (Int32.toInt64 x2) (Int32.toInt64 x3) (Int32.toInt64 x4) (-9223372036854775808 : Int64)) (h5 : r5 = F6 r4 (-9223372036854775808 : Int64) (1 : Int32) (Int32.toInt64 x1) (Int32.toInt64 x2) (Int32.toInt64 x3) (Int32.toInt64 x4) (-9223372036854775808 : Int64)) (H : True) (A : ∀ z : Int, cn z w0 = min 1 (cn z x1 + cn z x2 + cn z x3 + cn z x4)) : r5 = (Int32.toInt64 w0) := by
  have ek : (1 : Int32).toInt = 1 := by decide
  have lw := (Int32.toInt64 w0).le_toInt
  have eM : (-9223372036854775808 : Int64).toInt = -9223372036854775808 := by decide
  refine own_pick h1 h2 h3 h4 h5 ?_ ?_ ?_ ?_ ?_ ?_
  · rw [own_at, ek]; simp only [own_c64i, own_c64m, Int32.toInt_toInt64]; have a := A x1.toInt; have f := own_full1 x1.toInt w0 H; omega
  · rw [own_at, ek]; simp only [own_c64i, own_c64m, Int32.toInt_toInt64]; have a := A x2.toInt; have f := own_full1 x2.toInt w0 H; omega
  · rw [own_at, ek]; simp only [own_c64i, own_c64m, Int32.toInt_toInt64]; have a := A x3.toInt; have f := own_full1 x3.toInt w0 H; omega
  · rw [own_at, ek]; simp only [own_c64i, own_c64m, Int32.toInt_toInt64]; have a := A x4.toInt; have f := own_full1 x4.toInt w0 H; omega
  · rw [own_at, ek]; simp only [own_c64l]; omega
  · have a := A w0.toInt; have b := A (w0.toInt + 1); have f := own_full1 w0.toInt w0 H; have f2 := own_full1 (w0.toInt + 1) w0 H
    by_cases q_x1 : x1 = w0
    · subst q_x1; simp
    by_cases q_x2 : x2 = w0
    · subst q_x2; simp
    by_cases q_x3 : x3 = w0
    · subst q_x3; simp
    by_cases q_x4 : x4 = w0
    · subst q_x4; simp
    exfalso
    rw [own_cne q_x1, own_cne q_x2, own_cne q_x3, own_cne q_x4] at a
    omega
theorem own_fin15 {x1 x2 x3 x4 x5 w0 : Int32} {r1 r2 r3 r4 r5 : Int64} (h1 : r1 = F6 (-9223372036854775808 : Int64) (Int32.toInt64 x1) (1 : Int32) (Int32.toInt64 x1) (Int32.toInt64 x2) (Int32.toInt64 x3) (Int32.toInt64 x4) (Int32.toInt64 x5)) (h2 : r2 = F6 r1 (Int32.toInt64 x2) (1 : Int32) (Int32.toInt64 x1) (Int32.toInt64 x2) (Int32.toInt64 x3) (Int32.toInt64 x4) (Int32.toInt64 x5)) (h3 : r3 = F6 r2 (Int32.toInt64 x3) (1 : Int32) (Int32.toInt64 x1) (Int32.toInt64 x2) (Int32.toInt64 x3) (Int32.toInt64 x4) (Int32.toInt64 x5)) (h4 : r4 = F6 r3 (Int32.toInt64 x4) (1 : Int32) (Int32.toInt64 x1) (Int32.toInt64 x2) (Int32.toInt64 x3) (Int32.toInt64 x4) (Int32.toInt64 x5)) (h5 : r5 = F6 r4 (Int32.toInt64 x5) (1 : Int32) (Int32.toInt64 x1) (Int32.toInt64 x2) (Int32.toInt64 x3) (Int32.toInt64 x4) (Int32.toInt64 x5)) (H : True) (A : ∀ z : Int, cn z w0 = min 1 (cn z x1 + cn z x2 + cn z x3 + cn z x4 + cn z x5)) : r5 = (Int32.toInt64 w0) := by
  have ek : (1 : Int32).toInt = 1 := by decide
  have lw := (Int32.toInt64 w0).le_toInt
  have eM : (-9223372036854775808 : Int64).toInt = -9223372036854775808 := by decide
  refine own_pick h1 h2 h3 h4 h5 ?_ ?_ ?_ ?_ ?_ ?_
  · rw [own_at, ek]; simp only [own_c64i, own_c64m, Int32.toInt_toInt64]; have a := A x1.toInt; have f := own_full1 x1.toInt w0 H; omega
  · rw [own_at, ek]; simp only [own_c64i, own_c64m, Int32.toInt_toInt64]; have a := A x2.toInt; have f := own_full1 x2.toInt w0 H; omega
  · rw [own_at, ek]; simp only [own_c64i, own_c64m, Int32.toInt_toInt64]; have a := A x3.toInt; have f := own_full1 x3.toInt w0 H; omega
  · rw [own_at, ek]; simp only [own_c64i, own_c64m, Int32.toInt_toInt64]; have a := A x4.toInt; have f := own_full1 x4.toInt w0 H; omega
  · rw [own_at, ek]; simp only [own_c64i, own_c64m, Int32.toInt_toInt64]; have a := A x5.toInt; have f := own_full1 x5.toInt w0 H; omega
  · have a := A w0.toInt; have b := A (w0.toInt + 1); have f := own_full1 w0.toInt w0 H; have f2 := own_full1 (w0.toInt + 1) w0 H
    by_cases q_x1 : x1 = w0
    · subst q_x1; simp
    by_cases q_x2 : x2 = w0
    · subst q_x2; simp
    by_cases q_x3 : x3 = w0
    · subst q_x3; simp
    by_cases q_x4 : x4 = w0
    · subst q_x4; simp
    by_cases q_x5 : x5 = w0
    · subst q_x5; simp
    exfalso
    rw [own_cne q_x1, own_cne q_x2, own_cne q_x3, own_cne q_x4, own_cne q_x5] at a
    omega
theorem own_full2 (z : Int) (w0 w1 : Int32) (H : w0.toInt ≤ w1.toInt) : (cn z w0 + cn z w1 = 2 ↔ z ≤ w0.toInt) ∧ cn z w0 + cn z w1 ≤ 2 := by
  have _k0 := own_cn z w0
  have _k1 := own_cn z w1
  omega
theorem own_fin22 {x1 x2 w0 w1 : Int32} {r1 r2 r3 r4 r5 : Int64} (h1 : r1 = F6 (-9223372036854775808 : Int64) (Int32.toInt64 x1) (2 : Int32) (Int32.toInt64 x1) (Int32.toInt64 x2) (-9223372036854775808 : Int64) (-9223372036854775808 : Int64) (-9223372036854775808 : Int64)) (h2 : r2 = F6 r1 (Int32.toInt64 x2) (2 : Int32) (Int32.toInt64 x1) (Int32.toInt64 x2) (-9223372036854775808 : Int64) (-9223372036854775808 : Int64) (-9223372036854775808 : Int64)) (h3 : r3 = F6 r2 (-9223372036854775808 : Int64) (2 : Int32) (Int32.toInt64 x1) (Int32.toInt64 x2) (-9223372036854775808 : Int64) (-9223372036854775808 : Int64) (-9223372036854775808 : Int64)) (h4 : r4 = F6 r3 (-9223372036854775808 : Int64) (2 : Int32) (Int32.toInt64 x1) (Int32.toInt64 x2) (-9223372036854775808 : Int64) (-9223372036854775808 : Int64) (-9223372036854775808 : Int64)) (h5 : r5 = F6 r4 (-9223372036854775808 : Int64) (2 : Int32) (Int32.toInt64 x1) (Int32.toInt64 x2) (-9223372036854775808 : Int64) (-9223372036854775808 : Int64) (-9223372036854775808 : Int64)) (H : w0.toInt ≤ w1.toInt) (A : ∀ z : Int, cn z w0 + cn z w1 = cn z x1 + cn z x2) : r5 = (Int32.toInt64 w0) := by
  have ek : (2 : Int32).toInt = 2 := by decide
  have lw := (Int32.toInt64 w0).le_toInt
  have eM : (-9223372036854775808 : Int64).toInt = -9223372036854775808 := by decide
  refine own_pick h1 h2 h3 h4 h5 ?_ ?_ ?_ ?_ ?_ ?_
  · rw [own_at, ek]; simp only [own_c64i, own_c64m, Int32.toInt_toInt64]; have a := A x1.toInt; have f := own_full2 x1.toInt w0 w1 H; omega
  · rw [own_at, ek]; simp only [own_c64i, own_c64m, Int32.toInt_toInt64]; have a := A x2.toInt; have f := own_full2 x2.toInt w0 w1 H; omega
  · rw [own_at, ek]; simp only [own_c64l]; omega
  · rw [own_at, ek]; simp only [own_c64l]; omega
  · rw [own_at, ek]; simp only [own_c64l]; omega
  · have a := A w0.toInt; have b := A (w0.toInt + 1); have f := own_full2 w0.toInt w0 w1 H; have f2 := own_full2 (w0.toInt + 1) w0 w1 H
    by_cases q_x1 : x1 = w0
    · subst q_x1; simp
    by_cases q_x2 : x2 = w0
    · subst q_x2; simp
    exfalso
    rw [own_cne q_x1, own_cne q_x2] at a
    omega
theorem own_fin23 {x1 x2 x3 w0 w1 : Int32} {r1 r2 r3 r4 r5 : Int64} (h1 : r1 = F6 (-9223372036854775808 : Int64) (Int32.toInt64 x1) (2 : Int32) (Int32.toInt64 x1) (Int32.toInt64 x2) (Int32.toInt64 x3) (-9223372036854775808 : Int64) (-9223372036854775808 : Int64)) (h2 : r2 = F6 r1 (Int32.toInt64 x2) (2 : Int32) (Int32.toInt64 x1) (Int32.toInt64 x2) (Int32.toInt64 x3) (-9223372036854775808 : Int64) (-9223372036854775808 : Int64)) (h3 : r3 = F6 r2 (Int32.toInt64 x3) (2 : Int32) (Int32.toInt64 x1) (Int32.toInt64 x2) (Int32.toInt64 x3) (-9223372036854775808 : Int64) (-9223372036854775808 : Int64)) (h4 : r4 = F6 r3 (-9223372036854775808 : Int64) (2 : Int32) (Int32.toInt64 x1) (Int32.toInt64 x2) (Int32.toInt64 x3) (-9223372036854775808 : Int64) (-9223372036854775808 : Int64)) (h5 : r5 = F6 r4 (-9223372036854775808 : Int64) (2 : Int32) (Int32.toInt64 x1) (Int32.toInt64 x2) (Int32.toInt64 x3) (-9223372036854775808 : Int64) (-9223372036854775808 : Int64)) (H : w0.toInt ≤ w1.toInt) (A : ∀ z : Int, cn z w0 + cn z w1 = min 2 (cn z x1 + cn z x2 + cn z x3)) : r5 = (Int32.toInt64 w0) := by
  have ek : (2 : Int32).toInt = 2 := by decide
  have lw := (Int32.toInt64 w0).le_toInt
  have eM : (-9223372036854775808 : Int64).toInt = -9223372036854775808 := by decide
  refine own_pick h1 h2 h3 h4 h5 ?_ ?_ ?_ ?_ ?_ ?_
  · rw [own_at, ek]; simp only [own_c64i, own_c64m, Int32.toInt_toInt64]; have a := A x1.toInt; have f := own_full2 x1.toInt w0 w1 H; omega
  · rw [own_at, ek]; simp only [own_c64i, own_c64m, Int32.toInt_toInt64]; have a := A x2.toInt; have f := own_full2 x2.toInt w0 w1 H; omega
  · rw [own_at, ek]; simp only [own_c64i, own_c64m, Int32.toInt_toInt64]; have a := A x3.toInt; have f := own_full2 x3.toInt w0 w1 H; omega
  · rw [own_at, ek]; simp only [own_c64l]; omega
  · rw [own_at, ek]; simp only [own_c64l]; omega
  · have a := A w0.toInt; have b := A (w0.toInt + 1); have f := own_full2 w0.toInt w0 w1 H; have f2 := own_full2 (w0.toInt + 1) w0 w1 H
    by_cases q_x1 : x1 = w0
    · subst q_x1; simp
    by_cases q_x2 : x2 = w0
    · subst q_x2; simp
    by_cases q_x3 : x3 = w0
    · subst q_x3; simp
    exfalso
    rw [own_cne q_x1, own_cne q_x2, own_cne q_x3] at a
    omega
theorem own_fin24 {x1 x2 x3 x4 w0 w1 : Int32} {r1 r2 r3 r4 r5 : Int64} (h1 : r1 = F6 (-9223372036854775808 : Int64) (Int32.toInt64 x1) (2 : Int32) (Int32.toInt64 x1) (Int32.toInt64 x2) (Int32.toInt64 x3) (Int32.toInt64 x4) (-9223372036854775808 : Int64)) (h2 : r2 = F6 r1 (Int32.toInt64 x2) (2 : Int32) (Int32.toInt64 x1) (Int32.toInt64 x2) (Int32.toInt64 x3) (Int32.toInt64 x4) (-9223372036854775808 : Int64)) (h3 : r3 = F6 r2 (Int32.toInt64 x3) (2 : Int32) (Int32.toInt64 x1) (Int32.toInt64 x2) (Int32.toInt64 x3) (Int32.toInt64 x4) (-9223372036854775808 : Int64)) (h4 : r4 = F6 r3 (Int32.toInt64 x4) (2 : Int32) (Int32.toInt64 x1) (Int32.toInt64 x2) (Int32.toInt64 x3) (Int32.toInt64 x4) (-9223372036854775808 : Int64)) (h5 : r5 = F6 r4 (-9223372036854775808 : Int64) (2 : Int32) (Int32.toInt64 x1) (Int32.toInt64 x2) (Int32.toInt64 x3) (Int32.toInt64 x4) (-9223372036854775808 : Int64)) (H : w0.toInt ≤ w1.toInt) (A : ∀ z : Int, cn z w0 + cn z w1 = min 2 (cn z x1 + cn z x2 + cn z x3 + cn z x4)) : r5 = (Int32.toInt64 w0) := by
  have ek : (2 : Int32).toInt = 2 := by decide
  have lw := (Int32.toInt64 w0).le_toInt
  have eM : (-9223372036854775808 : Int64).toInt = -9223372036854775808 := by decide
  refine own_pick h1 h2 h3 h4 h5 ?_ ?_ ?_ ?_ ?_ ?_
  · rw [own_at, ek]; simp only [own_c64i, own_c64m, Int32.toInt_toInt64]; have a := A x1.toInt; have f := own_full2 x1.toInt w0 w1 H; omega
  · rw [own_at, ek]; simp only [own_c64i, own_c64m, Int32.toInt_toInt64]; have a := A x2.toInt; have f := own_full2 x2.toInt w0 w1 H; omega
  · rw [own_at, ek]; simp only [own_c64i, own_c64m, Int32.toInt_toInt64]; have a := A x3.toInt; have f := own_full2 x3.toInt w0 w1 H; omega
  · rw [own_at, ek]; simp only [own_c64i, own_c64m, Int32.toInt_toInt64]; have a := A x4.toInt; have f := own_full2 x4.toInt w0 w1 H; omega
  · rw [own_at, ek]; simp only [own_c64l]; omega
  · have a := A w0.toInt; have b := A (w0.toInt + 1); have f := own_full2 w0.toInt w0 w1 H; have f2 := own_full2 (w0.toInt + 1) w0 w1 H
    by_cases q_x1 : x1 = w0
    · subst q_x1; simp
    by_cases q_x2 : x2 = w0
    · subst q_x2; simp
    by_cases q_x3 : x3 = w0
    · subst q_x3; simp
    by_cases q_x4 : x4 = w0
    · subst q_x4; simp
    exfalso
    rw [own_cne q_x1, own_cne q_x2, own_cne q_x3, own_cne q_x4] at a
    omega
theorem own_fin25 {x1 x2 x3 x4 x5 w0 w1 : Int32} {r1 r2 r3 r4 r5 : Int64} (h1 : r1 = F6 (-9223372036854775808 : Int64) (Int32.toInt64 x1) (2 : Int32) (Int32.toInt64 x1) (Int32.toInt64 x2) (Int32.toInt64 x3) (Int32.toInt64 x4) (Int32.toInt64 x5)) (h2 : r2 = F6 r1 (Int32.toInt64 x2) (2 : Int32) (Int32.toInt64 x1) (Int32.toInt64 x2) (Int32.toInt64 x3) (Int32.toInt64 x4) (Int32.toInt64 x5)) (h3 : r3 = F6 r2 (Int32.toInt64 x3) (2 : Int32) (Int32.toInt64 x1) (Int32.toInt64 x2) (Int32.toInt64 x3) (Int32.toInt64 x4) (Int32.toInt64 x5)) (h4 : r4 = F6 r3 (Int32.toInt64 x4) (2 : Int32) (Int32.toInt64 x1) (Int32.toInt64 x2) (Int32.toInt64 x3) (Int32.toInt64 x4) (Int32.toInt64 x5)) (h5 : r5 = F6 r4 (Int32.toInt64 x5) (2 : Int32) (Int32.toInt64 x1) (Int32.toInt64 x2) (Int32.toInt64 x3) (Int32.toInt64 x4) (Int32.toInt64 x5)) (H : w0.toInt ≤ w1.toInt) (A : ∀ z : Int, cn z w0 + cn z w1 = min 2 (cn z x1 + cn z x2 + cn z x3 + cn z x4 + cn z x5)) : r5 = (Int32.toInt64 w0) := by
  have ek : (2 : Int32).toInt = 2 := by decide
  have lw := (Int32.toInt64 w0).le_toInt
  have eM : (-9223372036854775808 : Int64).toInt = -9223372036854775808 := by decide
  refine own_pick h1 h2 h3 h4 h5 ?_ ?_ ?_ ?_ ?_ ?_
  · rw [own_at, ek]; simp only [own_c64i, own_c64m, Int32.toInt_toInt64]; have a := A x1.toInt; have f := own_full2 x1.toInt w0 w1 H; omega
  · rw [own_at, ek]; simp only [own_c64i, own_c64m, Int32.toInt_toInt64]; have a := A x2.toInt; have f := own_full2 x2.toInt w0 w1 H; omega
  · rw [own_at, ek]; simp only [own_c64i, own_c64m, Int32.toInt_toInt64]; have a := A x3.toInt; have f := own_full2 x3.toInt w0 w1 H; omega
  · rw [own_at, ek]; simp only [own_c64i, own_c64m, Int32.toInt_toInt64]; have a := A x4.toInt; have f := own_full2 x4.toInt w0 w1 H; omega
  · rw [own_at, ek]; simp only [own_c64i, own_c64m, Int32.toInt_toInt64]; have a := A x5.toInt; have f := own_full2 x5.toInt w0 w1 H; omega
  · have a := A w0.toInt; have b := A (w0.toInt + 1); have f := own_full2 w0.toInt w0 w1 H; have f2 := own_full2 (w0.toInt + 1) w0 w1 H
    by_cases q_x1 : x1 = w0
    · subst q_x1; simp
    by_cases q_x2 : x2 = w0
    · subst q_x2; simp
    by_cases q_x3 : x3 = w0
    · subst q_x3; simp
    by_cases q_x4 : x4 = w0
    · subst q_x4; simp
    by_cases q_x5 : x5 = w0
    · subst q_x5; simp
    exfalso
    rw [own_cne q_x1, own_cne q_x2, own_cne q_x3, own_cne q_x4, own_cne q_x5] at a
    omega
theorem own_full3 (z : Int) (w0 w1 w2 : Int32) (H : w0.toInt ≤ w1.toInt ∧ w0.toInt ≤ w2.toInt) : (cn z w0 + cn z w1 + cn z w2 = 3 ↔ z ≤ w0.toInt) ∧ cn z w0 + cn z w1 + cn z w2 ≤ 3 := by
  have _k0 := own_cn z w0
  have _k1 := own_cn z w1
  have _k2 := own_cn z w2
  omega
theorem own_fin33 {x1 x2 x3 w0 w1 w2 : Int32} {r1 r2 r3 r4 r5 : Int64} (h1 : r1 = F6 (-9223372036854775808 : Int64) (Int32.toInt64 x1) (3 : Int32) (Int32.toInt64 x1) (Int32.toInt64 x2) (Int32.toInt64 x3) (-9223372036854775808 : Int64) (-9223372036854775808 : Int64)) (h2 : r2 = F6 r1 (Int32.toInt64 x2) (3 : Int32) (Int32.toInt64 x1) (Int32.toInt64 x2) (Int32.toInt64 x3) (-9223372036854775808 : Int64) (-9223372036854775808 : Int64)) (h3 : r3 = F6 r2 (Int32.toInt64 x3) (3 : Int32) (Int32.toInt64 x1) (Int32.toInt64 x2) (Int32.toInt64 x3) (-9223372036854775808 : Int64) (-9223372036854775808 : Int64)) (h4 : r4 = F6 r3 (-9223372036854775808 : Int64) (3 : Int32) (Int32.toInt64 x1) (Int32.toInt64 x2) (Int32.toInt64 x3) (-9223372036854775808 : Int64) (-9223372036854775808 : Int64)) (h5 : r5 = F6 r4 (-9223372036854775808 : Int64) (3 : Int32) (Int32.toInt64 x1) (Int32.toInt64 x2) (Int32.toInt64 x3) (-9223372036854775808 : Int64) (-9223372036854775808 : Int64)) (H : w0.toInt ≤ w1.toInt ∧ w0.toInt ≤ w2.toInt) (A : ∀ z : Int, cn z w0 + cn z w1 + cn z w2 = cn z x1 + cn z x2 + cn z x3) : r5 = (Int32.toInt64 w0) := by
  have ek : (3 : Int32).toInt = 3 := by decide
  have lw := (Int32.toInt64 w0).le_toInt
  have eM : (-9223372036854775808 : Int64).toInt = -9223372036854775808 := by decide
  refine own_pick h1 h2 h3 h4 h5 ?_ ?_ ?_ ?_ ?_ ?_
  · rw [own_at, ek]; simp only [own_c64i, own_c64m, Int32.toInt_toInt64]; have a := A x1.toInt; have f := own_full3 x1.toInt w0 w1 w2 H; omega
  · rw [own_at, ek]; simp only [own_c64i, own_c64m, Int32.toInt_toInt64]; have a := A x2.toInt; have f := own_full3 x2.toInt w0 w1 w2 H; omega
  · rw [own_at, ek]; simp only [own_c64i, own_c64m, Int32.toInt_toInt64]; have a := A x3.toInt; have f := own_full3 x3.toInt w0 w1 w2 H; omega
  · rw [own_at, ek]; simp only [own_c64l]; omega
  · rw [own_at, ek]; simp only [own_c64l]; omega
  · have a := A w0.toInt; have b := A (w0.toInt + 1); have f := own_full3 w0.toInt w0 w1 w2 H; have f2 := own_full3 (w0.toInt + 1) w0 w1 w2 H
    by_cases q_x1 : x1 = w0
    · subst q_x1; simp
    by_cases q_x2 : x2 = w0
    · subst q_x2; simp
    by_cases q_x3 : x3 = w0
    · subst q_x3; simp
    exfalso
    rw [own_cne q_x1, own_cne q_x2, own_cne q_x3] at a
    omega
theorem own_fin34 {x1 x2 x3 x4 w0 w1 w2 : Int32} {r1 r2 r3 r4 r5 : Int64} (h1 : r1 = F6 (-9223372036854775808 : Int64) (Int32.toInt64 x1) (3 : Int32) (Int32.toInt64 x1) (Int32.toInt64 x2) (Int32.toInt64 x3) (Int32.toInt64 x4) (-9223372036854775808 : Int64)) (h2 : r2 = F6 r1 (Int32.toInt64 x2) (3 : Int32) (Int32.toInt64 x1) (Int32.toInt64 x2) (Int32.toInt64 x3) (Int32.toInt64 x4) (-9223372036854775808 : Int64)) (h3 : r3 = F6 r2 (Int32.toInt64 x3) (3 : Int32) (Int32.toInt64 x1) (Int32.toInt64 x2) (Int32.toInt64 x3) (Int32.toInt64 x4) (-9223372036854775808 : Int64)) (h4 : r4 = F6 r3 (Int32.toInt64 x4) (3 : Int32) (Int32.toInt64 x1) (Int32.toInt64 x2) (Int32.toInt64 x3) (Int32.toInt64 x4) (-9223372036854775808 : Int64)) (h5 : r5 = F6 r4 (-9223372036854775808 : Int64) (3 : Int32) (Int32.toInt64 x1) (Int32.toInt64 x2) (Int32.toInt64 x3) (Int32.toInt64 x4) (-9223372036854775808 : Int64)) (H : w0.toInt ≤ w1.toInt ∧ w0.toInt ≤ w2.toInt) (A : ∀ z : Int, cn z w0 + cn z w1 + cn z w2 = min 3 (cn z x1 + cn z x2 + cn z x3 + cn z x4)) : r5 = (Int32.toInt64 w0) := by
  have ek : (3 : Int32).toInt = 3 := by decide
  have lw := (Int32.toInt64 w0).le_toInt
  have eM : (-9223372036854775808 : Int64).toInt = -9223372036854775808 := by decide
  refine own_pick h1 h2 h3 h4 h5 ?_ ?_ ?_ ?_ ?_ ?_
  · rw [own_at, ek]; simp only [own_c64i, own_c64m, Int32.toInt_toInt64]; have a := A x1.toInt; have f := own_full3 x1.toInt w0 w1 w2 H; omega
  · rw [own_at, ek]; simp only [own_c64i, own_c64m, Int32.toInt_toInt64]; have a := A x2.toInt; have f := own_full3 x2.toInt w0 w1 w2 H; omega
  · rw [own_at, ek]; simp only [own_c64i, own_c64m, Int32.toInt_toInt64]; have a := A x3.toInt; have f := own_full3 x3.toInt w0 w1 w2 H; omega
  · rw [own_at, ek]; simp only [own_c64i, own_c64m, Int32.toInt_toInt64]; have a := A x4.toInt; have f := own_full3 x4.toInt w0 w1 w2 H; omega
  · rw [own_at, ek]; simp only [own_c64l]; omega
  · have a := A w0.toInt; have b := A (w0.toInt + 1); have f := own_full3 w0.toInt w0 w1 w2 H; have f2 := own_full3 (w0.toInt + 1) w0 w1 w2 H
    by_cases q_x1 : x1 = w0
    · subst q_x1; simp
    by_cases q_x2 : x2 = w0
    · subst q_x2; simp
    by_cases q_x3 : x3 = w0
    · subst q_x3; simp
    by_cases q_x4 : x4 = w0
    · subst q_x4; simp
    exfalso
    rw [own_cne q_x1, own_cne q_x2, own_cne q_x3, own_cne q_x4] at a
    omega
theorem own_fin35 {x1 x2 x3 x4 x5 w0 w1 w2 : Int32} {r1 r2 r3 r4 r5 : Int64} (h1 : r1 = F6 (-9223372036854775808 : Int64) (Int32.toInt64 x1) (3 : Int32) (Int32.toInt64 x1) (Int32.toInt64 x2) (Int32.toInt64 x3) (Int32.toInt64 x4) (Int32.toInt64 x5)) (h2 : r2 = F6 r1 (Int32.toInt64 x2) (3 : Int32) (Int32.toInt64 x1) (Int32.toInt64 x2) (Int32.toInt64 x3) (Int32.toInt64 x4) (Int32.toInt64 x5)) (h3 : r3 = F6 r2 (Int32.toInt64 x3) (3 : Int32) (Int32.toInt64 x1) (Int32.toInt64 x2) (Int32.toInt64 x3) (Int32.toInt64 x4) (Int32.toInt64 x5)) (h4 : r4 = F6 r3 (Int32.toInt64 x4) (3 : Int32) (Int32.toInt64 x1) (Int32.toInt64 x2) (Int32.toInt64 x3) (Int32.toInt64 x4) (Int32.toInt64 x5)) (h5 : r5 = F6 r4 (Int32.toInt64 x5) (3 : Int32) (Int32.toInt64 x1) (Int32.toInt64 x2) (Int32.toInt64 x3) (Int32.toInt64 x4) (Int32.toInt64 x5)) (H : w0.toInt ≤ w1.toInt ∧ w0.toInt ≤ w2.toInt) (A : ∀ z : Int, cn z w0 + cn z w1 + cn z w2 = min 3 (cn z x1 + cn z x2 + cn z x3 + cn z x4 + cn z x5)) : r5 = (Int32.toInt64 w0) := by
  have ek : (3 : Int32).toInt = 3 := by decide
  have lw := (Int32.toInt64 w0).le_toInt
  have eM : (-9223372036854775808 : Int64).toInt = -9223372036854775808 := by decide
  refine own_pick h1 h2 h3 h4 h5 ?_ ?_ ?_ ?_ ?_ ?_
  · rw [own_at, ek]; simp only [own_c64i, own_c64m, Int32.toInt_toInt64]; have a := A x1.toInt; have f := own_full3 x1.toInt w0 w1 w2 H; omega
  · rw [own_at, ek]; simp only [own_c64i, own_c64m, Int32.toInt_toInt64]; have a := A x2.toInt; have f := own_full3 x2.toInt w0 w1 w2 H; omega
  · rw [own_at, ek]; simp only [own_c64i, own_c64m, Int32.toInt_toInt64]; have a := A x3.toInt; have f := own_full3 x3.toInt w0 w1 w2 H; omega
  · rw [own_at, ek]; simp only [own_c64i, own_c64m, Int32.toInt_toInt64]; have a := A x4.toInt; have f := own_full3 x4.toInt w0 w1 w2 H; omega
  · rw [own_at, ek]; simp only [own_c64i, own_c64m, Int32.toInt_toInt64]; have a := A x5.toInt; have f := own_full3 x5.toInt w0 w1 w2 H; omega
  · have a := A w0.toInt; have b := A (w0.toInt + 1); have f := own_full3 w0.toInt w0 w1 w2 H; have f2 := own_full3 (w0.toInt + 1) w0 w1 w2 H
    by_cases q_x1 : x1 = w0
    · subst q_x1; simp
    by_cases q_x2 : x2 = w0
    · subst q_x2; simp
    by_cases q_x3 : x3 = w0
    · subst q_x3; simp
    by_cases q_x4 : x4 = w0
    · subst q_x4; simp
    by_cases q_x5 : x5 = w0
    · subst q_x5; simp
    exfalso
    rw [own_cne q_x1, own_cne q_x2, own_cne q_x3, own_cne q_x4, own_cne q_x5] at a
    omega
theorem own_full4 (z : Int) (w0 w1 w2 w3 : Int32) (H : w0.toInt ≤ w1.toInt ∧ w0.toInt ≤ w2.toInt ∧ w1.toInt ≤ w3.toInt) : (cn z w0 + cn z w1 + cn z w2 + cn z w3 = 4 ↔ z ≤ w0.toInt) ∧ cn z w0 + cn z w1 + cn z w2 + cn z w3 ≤ 4 := by
  have _k0 := own_cn z w0
  have _k1 := own_cn z w1
  have _k2 := own_cn z w2
  have _k3 := own_cn z w3
  omega
theorem own_fin44 {x1 x2 x3 x4 w0 w1 w2 w3 : Int32} {r1 r2 r3 r4 r5 : Int64} (h1 : r1 = F6 (-9223372036854775808 : Int64) (Int32.toInt64 x1) (4 : Int32) (Int32.toInt64 x1) (Int32.toInt64 x2) (Int32.toInt64 x3) (Int32.toInt64 x4) (-9223372036854775808 : Int64)) (h2 : r2 = F6 r1 (Int32.toInt64 x2) (4 : Int32) (Int32.toInt64 x1) (Int32.toInt64 x2) (Int32.toInt64 x3) (Int32.toInt64 x4) (-9223372036854775808 : Int64)) (h3 : r3 = F6 r2 (Int32.toInt64 x3) (4 : Int32) (Int32.toInt64 x1) (Int32.toInt64 x2) (Int32.toInt64 x3) (Int32.toInt64 x4) (-9223372036854775808 : Int64)) (h4 : r4 = F6 r3 (Int32.toInt64 x4) (4 : Int32) (Int32.toInt64 x1) (Int32.toInt64 x2) (Int32.toInt64 x3) (Int32.toInt64 x4) (-9223372036854775808 : Int64)) (h5 : r5 = F6 r4 (-9223372036854775808 : Int64) (4 : Int32) (Int32.toInt64 x1) (Int32.toInt64 x2) (Int32.toInt64 x3) (Int32.toInt64 x4) (-9223372036854775808 : Int64)) (H : w0.toInt ≤ w1.toInt ∧ w0.toInt ≤ w2.toInt ∧ w1.toInt ≤ w3.toInt) (A : ∀ z : Int, cn z w0 + cn z w1 + cn z w2 + cn z w3 = cn z x1 + cn z x2 + cn z x3 + cn z x4) : r5 = (Int32.toInt64 w0) := by
  have ek : (4 : Int32).toInt = 4 := by decide
  have lw := (Int32.toInt64 w0).le_toInt
  have eM : (-9223372036854775808 : Int64).toInt = -9223372036854775808 := by decide
  refine own_pick h1 h2 h3 h4 h5 ?_ ?_ ?_ ?_ ?_ ?_
  · rw [own_at, ek]; simp only [own_c64i, own_c64m, Int32.toInt_toInt64]; have a := A x1.toInt; have f := own_full4 x1.toInt w0 w1 w2 w3 H; omega
  · rw [own_at, ek]; simp only [own_c64i, own_c64m, Int32.toInt_toInt64]; have a := A x2.toInt; have f := own_full4 x2.toInt w0 w1 w2 w3 H; omega
  · rw [own_at, ek]; simp only [own_c64i, own_c64m, Int32.toInt_toInt64]; have a := A x3.toInt; have f := own_full4 x3.toInt w0 w1 w2 w3 H; omega
  · rw [own_at, ek]; simp only [own_c64i, own_c64m, Int32.toInt_toInt64]; have a := A x4.toInt; have f := own_full4 x4.toInt w0 w1 w2 w3 H; omega
  · rw [own_at, ek]; simp only [own_c64l]; omega
  · have a := A w0.toInt; have b := A (w0.toInt + 1); have f := own_full4 w0.toInt w0 w1 w2 w3 H; have f2 := own_full4 (w0.toInt + 1) w0 w1 w2 w3 H
    by_cases q_x1 : x1 = w0
    · subst q_x1; simp
    by_cases q_x2 : x2 = w0
    · subst q_x2; simp
    by_cases q_x3 : x3 = w0
    · subst q_x3; simp
    by_cases q_x4 : x4 = w0
    · subst q_x4; simp
    exfalso
    rw [own_cne q_x1, own_cne q_x2, own_cne q_x3, own_cne q_x4] at a
    omega
theorem own_fin45 {x1 x2 x3 x4 x5 w0 w1 w2 w3 : Int32} {r1 r2 r3 r4 r5 : Int64} (h1 : r1 = F6 (-9223372036854775808 : Int64) (Int32.toInt64 x1) (4 : Int32) (Int32.toInt64 x1) (Int32.toInt64 x2) (Int32.toInt64 x3) (Int32.toInt64 x4) (Int32.toInt64 x5)) (h2 : r2 = F6 r1 (Int32.toInt64 x2) (4 : Int32) (Int32.toInt64 x1) (Int32.toInt64 x2) (Int32.toInt64 x3) (Int32.toInt64 x4) (Int32.toInt64 x5)) (h3 : r3 = F6 r2 (Int32.toInt64 x3) (4 : Int32) (Int32.toInt64 x1) (Int32.toInt64 x2) (Int32.toInt64 x3) (Int32.toInt64 x4) (Int32.toInt64 x5)) (h4 : r4 = F6 r3 (Int32.toInt64 x4) (4 : Int32) (Int32.toInt64 x1) (Int32.toInt64 x2) (Int32.toInt64 x3) (Int32.toInt64 x4) (Int32.toInt64 x5)) (h5 : r5 = F6 r4 (Int32.toInt64 x5) (4 : Int32) (Int32.toInt64 x1) (Int32.toInt64 x2) (Int32.toInt64 x3) (Int32.toInt64 x4) (Int32.toInt64 x5)) (H : w0.toInt ≤ w1.toInt ∧ w0.toInt ≤ w2.toInt ∧ w1.toInt ≤ w3.toInt) (A : ∀ z : Int, cn z w0 + cn z w1 + cn z w2 + cn z w3 = min 4 (cn z x1 + cn z x2 + cn z x3 + cn z x4 + cn z x5)) : r5 = (Int32.toInt64 w0) := by
  have ek : (4 : Int32).toInt = 4 := by decide
  have lw := (Int32.toInt64 w0).le_toInt
  have eM : (-9223372036854775808 : Int64).toInt = -9223372036854775808 := by decide
  refine own_pick h1 h2 h3 h4 h5 ?_ ?_ ?_ ?_ ?_ ?_
  · rw [own_at, ek]; simp only [own_c64i, own_c64m, Int32.toInt_toInt64]; have a := A x1.toInt; have f := own_full4 x1.toInt w0 w1 w2 w3 H; omega
  · rw [own_at, ek]; simp only [own_c64i, own_c64m, Int32.toInt_toInt64]; have a := A x2.toInt; have f := own_full4 x2.toInt w0 w1 w2 w3 H; omega
  · rw [own_at, ek]; simp only [own_c64i, own_c64m, Int32.toInt_toInt64]; have a := A x3.toInt; have f := own_full4 x3.toInt w0 w1 w2 w3 H; omega
  · rw [own_at, ek]; simp only [own_c64i, own_c64m, Int32.toInt_toInt64]; have a := A x4.toInt; have f := own_full4 x4.toInt w0 w1 w2 w3 H; omega
  · rw [own_at, ek]; simp only [own_c64i, own_c64m, Int32.toInt_toInt64]; have a := A x5.toInt; have f := own_full4 x5.toInt w0 w1 w2 w3 H; omega
  · have a := A w0.toInt; have b := A (w0.toInt + 1); have f := own_full4 w0.toInt w0 w1 w2 w3 H; have f2 := own_full4 (w0.toInt + 1) w0 w1 w2 w3 H
    by_cases q_x1 : x1 = w0
    · subst q_x1; simp
    by_cases q_x2 : x2 = w0
    · subst q_x2; simp
    by_cases q_x3 : x3 = w0
    · subst q_x3; simp
    by_cases q_x4 : x4 = w0
    · subst q_x4; simp
    by_cases q_x5 : x5 = w0
    · subst q_x5; simp
    exfalso
    rw [own_cne q_x1, own_cne q_x2, own_cne q_x3, own_cne q_x4, own_cne q_x5] at a
    omega
def Q1_30 (Z : State) (a1c : Addr) (h0 : Heap) (n0 : Nat) (v : Option Value) (h : Heap) (L : List Loc) : Prop := ∃ e0 : Addr, ∃ ke0 : ClassId, v = none ∧ Fr n0 L ∧ (Keep h0 h [a1c]) ∧ (Exa Z h a1c HSn) ∧ (Fld Z h a1c HSn "heap" "[D" (.ref e0)) ∧ (Fld Z h a1c HSn "size" "I" (.int 0)) ∧ (Arv Z h e0 ke0 .double 1 [(.double 0)] (.double 0)) ∧ (h0.size ≤ e0)
theorem rm1_30 (l : Launch) (Z : State) (a0 : Array Value) (hw : HW a0 Z) (a1c : Addr) (h0 : Heap) (n0 : Nat) (Z0 : n0 ≤ h0.size) (P0 : Exa Z h0 a1c HSn) (P1 : Fld Z h0 a1c HSn "heap" "[D" .null) (P2 : Fld Z h0 a1c HSn "size" "I" (.int 0)) (g_a1c : n0 ≤ a1c) :
  MM l Z Y1 prog_43_method_1_code 2 none 1 1 1 12 #[(.ref a1c), (.int 1)] h0 (Q1_30 Z a1c h0 n0) := by
 refine own_start (fun m => (mkF m 0 #[.val (.ref a1c), .val (.int 1)] [])) (plainFor_of_name pn_com_example_nearterm_nearterm_retrieval_HighestScores) (by simp [entryFrame, mkF, argsToLocals, Value.category]) n0 ?_
 intro p e s m below meth c s₁ Bd hx B hml hZ hown hnm X0 e0 N0
 refine GoW.sg (mkF m 1 #[.val (.ref a1c), .val (.int 1)] [(.ref a1c)]) (fun t k => XS.aloadN X0.here hx rfl (B d1_0) rfl rfl k) ?_
 obtain ⟨T904, X904, e904, st904⟩ := initO X0 hx hZ hown (ww hw 7 rfl) (ww hw 8 rfl) (ww hw 9 rfl) e0 (g := (mkF m 1 #[.val (.ref a1c), .val (.int 1)] [(.ref a1c)])) rfl (by rw [hml]; rfl) rfl (B d1_1) (by decide) (W := 0) (Nat.le_of_eq rfl) (by decide)
 refine GoW.sg (mkF m 4 #[.val (.ref a1c), .val (.int 1)] []) (fun t k => st904 t k) ?_
 refine GoW.sg (mkF m 6 #[.val (.ref a1c), .val (.int 1)] [(.int 1), (.ref a1c)]) (fun t k => XS.aloadN X904.here hx rfl (B d1_4) rfl rfl (XS.iloadN X904.here hx rfl (B d1_5) rfl k)) ?_
 obtain ⟨T905, h905, k905, X905, e905, E905, A905, st905⟩ := newP X904 hx hZ (ww hw 10 rfl) e904 (g := (mkF m 6 #[.val (.ref a1c), .val (.int 1)] [(.int 1), (.ref a1c)])) rfl (B d1_6) rfl (by decide) (cap := 1) (by decide) (by decide) (by decide) (by decide)
 obtain ⟨b905, g905⟩ : ∃ z, z = h0.size := ⟨_, rfl⟩
 rw [← g905] at A905 st905
 have sz_b905 : h0.size ≤ b905 := Nat.le_trans (Keep.refl h0 [a1c]).1 (Nat.le_of_eq g905.symm)
 have ne_a1c_b905 : a1c ≠ b905 := Nat.ne_of_lt (Nat.lt_of_lt_of_eq P0.lt g905.symm)
 have f905_1 := P0.ext E905
 have f905_2 := P1.ext E905
 have f905_3 := P2.ext E905
 have f905_4 := (Keep.refl h0 [a1c]).ext E905
 have V905 : Arv Z h905 b905 k905 .double (1 : Int32) [(.double (0 : UInt64))] (.double (0 : UInt64)) := (Arv.new A905 (by decide)).pad (pad_rep [] (.double (0 : UInt64)) 1)
 refine GoW.sg (mkF m 8 #[.val (.ref a1c), .val (.int 1)] [(.ref b905), (.ref a1c)]) (fun t k => st905 t k) ?_
 obtain ⟨T906, h906, X906, e906, W906, st906⟩ := putF X905 hx hZ hown (host := "") (Or.inl (ww hw 11 rfl)) Via.refl e905 f905_2 f905_1 (Or.inr ⟨(ww hw 12 rfl), rfl, hnm⟩) (ww hw 2 rfl) (ty := (.array .double)) (by decide) rfl rfl (g := (mkF m 8 #[.val (.ref a1c), .val (.int 1)] [(.ref b905), (.ref a1c)])) rfl rfl (B d1_8)
 have N906 := Fr.snoc X906 N0 g_a1c
 have f906_6 := f905_1.wr W906
 have f906_7 := f905_3.other W906 (Or.inr (slot_ne (t := .int) (t' := (.array .double)) (Or.inl (ww hw 19 rfl)) (Or.inr (ww hw 12 rfl)) (by decide) (by decide) (by decide)))
 have f906_8 := f905_4.wr W906 (Or.inl (List.mem_of_getElem? (i := 0) rfl))
 have f906_10 := V905.other W906 (Ne.symm ne_a1c_b905)
 have F906heap : Fld Z h906 a1c HSn "heap" "[D" (.ref b905) := f905_2.same W906
 refine GoW.sg (mkF m 11 #[.val (.ref a1c), .val (.int 1)] []) (fun t k => st906 t k) ?_
 refine GoW.retV X906 hx Bd.returns (B d1_11) Bd.notSynchronized ?_ (by decide) (by decide)
 rw [e906]
 exact ⟨b905, k905, rfl, N906, f906_8, f906_6, F906heap, f906_7, f906_10, sz_b905⟩
def Q3_31 (Z : State) (a1c a2c : Addr) (ka2c : ClassId) (h0 : Heap) (n0 : Nat) (v : Option Value) (h : Heap) (L : List Loc) : Prop := v = some (.double 18442240474082181120) ∧ Fr n0 L ∧ (h = h0)
theorem rm3_31 (l : Launch) (Z : State) (a0 : Array Value) (hw : HW a0 Z) (a1c a2c : Addr) (ka2c : ClassId) (h0 : Heap) (n0 : Nat) (P0 : Fld Z h0 a1c HSn "heap" "[D" (.ref a2c)) (P1 : Fld Z h0 a1c HSn "size" "I" (.int 0)) (P2 : Arv Z h0 a2c ka2c .double 1 [(.double 0)] (.double 0)) :
  MM l Z Y3 prog_43_method_3_code 1 (some .double) 0 0 0 0 #[(.ref a1c)] h0 (Q3_31 Z a1c a2c ka2c h0 n0) := by
 refine own_start (fun m => (mkF m 0 #[.val (.ref a1c)] [])) (plainFor_of_name pn_com_example_nearterm_nearterm_retrieval_HighestScores) (by simp [entryFrame, mkF, argsToLocals, Value.category]) n0 ?_
 intro p e s m below meth c s₁ Bd hx B hml hZ hown hnm X0 e0 N0
 refine GoW.sg (mkF m 1 #[.val (.ref a1c)] [(.ref a1c)]) (fun t k => XS.aloadN X0.here hx rfl (B d3_0) rfl rfl k) ?_
 obtain ⟨T911, X911, e911, st911⟩ := getF X0 hx hZ hown (host := "") (Or.inl (ww hw 18 rfl)) Via.refl e0 P1 (g := (mkF m 1 #[.val (.ref a1c)] [(.ref a1c)])) rfl rfl (B d3_1)
 refine GoW.sg (mkF m 4 #[.val (.ref a1c)] [(.int 0)]) (fun t k => st911 t k) ?_
 refine GoW.sg (mkF m 5 #[.val (.ref a1c)] [(.ref a1c), (.int 0)]) (fun t k => XS.aloadN X911.here hx rfl (B d3_4) rfl rfl k) ?_
 obtain ⟨T912, X912, e912, st912⟩ := getF X911 hx hZ hown (host := "") (Or.inl (ww hw 11 rfl)) Via.refl e911 P0 (g := (mkF m 5 #[.val (.ref a1c)] [(.ref a1c), (.int 0)])) rfl rfl (B d3_5)
 refine GoW.sg (mkF m 8 #[.val (.ref a1c)] [(.ref a2c), (.int 0)]) (fun t k => st912 t k) ?_
 obtain ⟨cl913, Ar913, q913, Sz913, Nn913, Hh913, Gg913⟩ := id P2
 have st913 := X912.arraylength hx (hq_ e912 Ar913.1) (State.isArrayOf_alike hZ.alike Ar913.2.1) (g := (mkF m 8 #[.val (.ref a1c)] [(.ref a2c), (.int 0)])) rfl rfl (B d3_8)
 rw [len_of Sz913 Nn913] at st913
 refine GoW.sg (mkF m 9 #[.val (.ref a1c)] [(.int 1), (.int 0)]) (fun t k => st913 t k) ?_
 refine GoW.sg (mkF m 12 #[.val (.ref a1c)] []) (fun t k => XS.icmpNo X912.here hx rfl (B d3_9) rfl (by decide) k) ?_
 refine GoW.sg (mkF m 15 #[.val (.ref a1c)] [(.double 18442240474082181120)]) (fun t k => X912.ldc2DoubleC hx hown (mvT hZ (ww hw 20 rfl)) (g := (mkF m 12 #[.val (.ref a1c)] [])) rfl (B d3_12) t k) ?_
 refine GoW.sg (mkF m 24 #[.val (.ref a1c)] [(.double 18442240474082181120)]) (fun t k => XS.goto X912.here hx rfl (pc0 := 15) (pc' := 24) rfl (B d3_15) (by decide) (by decide) k) ?_
 refine GoW.retD X912 hx Bd.returns (B d3_24) Bd.notSynchronized ?_ (by decide) (by decide)
 rw [e912]
 exact ⟨rfl, N0, rfl⟩
def Q3_32 (Z : State) (a1c a2c : Addr) (ka2c : ClassId) (x1c : UInt64) (x2c : Int32) (h0 : Heap) (n0 : Nat) (v : Option Value) (h : Heap) (L : List Loc) : Prop := v = some (.double x1c) ∧ Fr n0 L ∧ (h = h0)
theorem rm3_32 (l : Launch) (Z : State) (a0 : Array Value) (hw : HW a0 Z) (a1c a2c : Addr) (ka2c : ClassId) (x1c : UInt64) (x2c : Int32) (h0 : Heap) (n0 : Nat) (P0 : Fld Z h0 a1c HSn "heap" "[D" (.ref a2c)) (P1 : Fld Z h0 a1c HSn "size" "I" (.int 1)) (P2 : Arv Z h0 a2c ka2c .double 1 [(.double x1c)] (.double 0)) (hx1c : x1c = FP.l2d (Int32.toInt64 x2c)) :
  MM l Z Y3 prog_43_method_3_code 1 (some .double) 0 0 0 0 #[(.ref a1c)] h0 (Q3_32 Z a1c a2c ka2c x1c x2c h0 n0) := by
 refine own_start (fun m => (mkF m 0 #[.val (.ref a1c)] [])) (plainFor_of_name pn_com_example_nearterm_nearterm_retrieval_HighestScores) (by simp [entryFrame, mkF, argsToLocals, Value.category]) n0 ?_
 intro p e s m below meth c s₁ Bd hx B hml hZ hown hnm X0 e0 N0
 refine GoW.sg (mkF m 1 #[.val (.ref a1c)] [(.ref a1c)]) (fun t k => XS.aloadN X0.here hx rfl (B d3_0) rfl rfl k) ?_
 obtain ⟨T924, X924, e924, st924⟩ := getF X0 hx hZ hown (host := "") (Or.inl (ww hw 18 rfl)) Via.refl e0 P1 (g := (mkF m 1 #[.val (.ref a1c)] [(.ref a1c)])) rfl rfl (B d3_1)
 refine GoW.sg (mkF m 4 #[.val (.ref a1c)] [(.int 1)]) (fun t k => st924 t k) ?_
 refine GoW.sg (mkF m 5 #[.val (.ref a1c)] [(.ref a1c), (.int 1)]) (fun t k => XS.aloadN X924.here hx rfl (B d3_4) rfl rfl k) ?_
 obtain ⟨T925, X925, e925, st925⟩ := getF X924 hx hZ hown (host := "") (Or.inl (ww hw 11 rfl)) Via.refl e924 P0 (g := (mkF m 5 #[.val (.ref a1c)] [(.ref a1c), (.int 1)])) rfl rfl (B d3_5)
 refine GoW.sg (mkF m 8 #[.val (.ref a1c)] [(.ref a2c), (.int 1)]) (fun t k => st925 t k) ?_
 obtain ⟨cl926, Ar926, q926, Sz926, Nn926, Hh926, Gg926⟩ := id P2
 have st926 := X925.arraylength hx (hq_ e925 Ar926.1) (State.isArrayOf_alike hZ.alike Ar926.2.1) (g := (mkF m 8 #[.val (.ref a1c)] [(.ref a2c), (.int 1)])) rfl rfl (B d3_8)
 rw [len_of Sz926 Nn926] at st926
 refine GoW.sg (mkF m 9 #[.val (.ref a1c)] [(.int 1), (.int 1)]) (fun t k => st926 t k) ?_
 refine GoW.sg (mkF m 19 #[.val (.ref a1c)] [(.ref a1c)]) (fun t k => XS.icmpYes X925.here hx rfl (pc0 := 9) (pc' := 18) rfl (B d3_9) rfl (by decide) (by decide) (by decide) (XS.aloadN X925.here hx rfl (B d3_18) rfl rfl k)) ?_
 obtain ⟨T927, X927, e927, st927⟩ := getF X925 hx hZ hown (host := "") (Or.inl (ww hw 11 rfl)) Via.refl e925 P0 (g := (mkF m 19 #[.val (.ref a1c)] [(.ref a1c)])) rfl rfl (B d3_19)
 refine GoW.sg (mkF m 22 #[.val (.ref a1c)] [(.ref a2c)]) (fun t k => st927 t k) ?_
 refine GoW.sg (mkF m 23 #[.val (.ref a1c)] [(.int 0), (.ref a2c)]) (fun t k => XS.iconst X927.here hx rfl (B d3_22) k) ?_
 obtain ⟨cl928, Ar928, q928, Sz928, Nn928, Hh928, Gg928⟩ := id P2
 have hin928 : ¬ ((0 : Int32) < 0 ∨ cl928.slots.size ≤ ((0 : Int32)).toNatClampNeg) := inb_of Sz928 ⟨by decide, by decide⟩
 refine GoW.sg (mkF m 24 #[.val (.ref a1c)] [(.double x1c)]) (fun t k => X927.daload hx (j := (0 : Int32)) (v := (.double x1c)) (hq_ e927 Ar928.1) (State.isArrayOf_alike hZ.alike Ar928.2.1) Ar928.2.2 hin928 (Hh928.at hin928 rfl) (g := (mkF m 23 #[.val (.ref a1c)] [(.int 0), (.ref a2c)])) rfl rfl (B d3_23) t k) ?_
 refine GoW.retD X927 hx Bd.returns (B d3_24) Bd.notSynchronized ?_ (by decide) (by decide)
 rw [e927]
 exact ⟨rfl, N0, rfl⟩
def Q1_33 (Z : State) (a1c : Addr) (h0 : Heap) (n0 : Nat) (v : Option Value) (h : Heap) (L : List Loc) : Prop := ∃ e0 : Addr, ∃ ke0 : ClassId, v = none ∧ Fr n0 L ∧ (Keep h0 h [a1c]) ∧ (Exa Z h a1c HSn) ∧ (Fld Z h a1c HSn "heap" "[D" (.ref e0)) ∧ (Fld Z h a1c HSn "size" "I" (.int 0)) ∧ (Arv Z h e0 ke0 .double 2 [(.double 0), (.double 0)] (.double 0)) ∧ (h0.size ≤ e0)
theorem rm1_33 (l : Launch) (Z : State) (a0 : Array Value) (hw : HW a0 Z) (a1c : Addr) (h0 : Heap) (n0 : Nat) (Z0 : n0 ≤ h0.size) (P0 : Exa Z h0 a1c HSn) (P1 : Fld Z h0 a1c HSn "heap" "[D" .null) (P2 : Fld Z h0 a1c HSn "size" "I" (.int 0)) (g_a1c : n0 ≤ a1c) :
  MM l Z Y1 prog_43_method_1_code 2 none 1 1 2 12 #[(.ref a1c), (.int 2)] h0 (Q1_33 Z a1c h0 n0) := by
 refine own_start (fun m => (mkF m 0 #[.val (.ref a1c), .val (.int 2)] [])) (plainFor_of_name pn_com_example_nearterm_nearterm_retrieval_HighestScores) (by simp [entryFrame, mkF, argsToLocals, Value.category]) n0 ?_
 intro p e s m below meth c s₁ Bd hx B hml hZ hown hnm X0 e0 N0
 refine GoW.sg (mkF m 1 #[.val (.ref a1c), .val (.int 2)] [(.ref a1c)]) (fun t k => XS.aloadN X0.here hx rfl (B d1_0) rfl rfl k) ?_
 obtain ⟨T980, X980, e980, st980⟩ := initO X0 hx hZ hown (ww hw 7 rfl) (ww hw 8 rfl) (ww hw 9 rfl) e0 (g := (mkF m 1 #[.val (.ref a1c), .val (.int 2)] [(.ref a1c)])) rfl (by rw [hml]; rfl) rfl (B d1_1) (by decide) (W := 0) (Nat.le_of_eq rfl) (by decide)
 refine GoW.sg (mkF m 4 #[.val (.ref a1c), .val (.int 2)] []) (fun t k => st980 t k) ?_
 refine GoW.sg (mkF m 6 #[.val (.ref a1c), .val (.int 2)] [(.int 2), (.ref a1c)]) (fun t k => XS.aloadN X980.here hx rfl (B d1_4) rfl rfl (XS.iloadN X980.here hx rfl (B d1_5) rfl k)) ?_
 obtain ⟨T981, h981, k981, X981, e981, E981, A981, st981⟩ := newP X980 hx hZ (ww hw 10 rfl) e980 (g := (mkF m 6 #[.val (.ref a1c), .val (.int 2)] [(.int 2), (.ref a1c)])) rfl (B d1_6) rfl (by decide) (cap := 2) (by decide) (by decide) (by decide) (by decide)
 obtain ⟨b981, g981⟩ : ∃ z, z = h0.size := ⟨_, rfl⟩
 rw [← g981] at A981 st981
 have sz_b981 : h0.size ≤ b981 := Nat.le_trans (Keep.refl h0 [a1c]).1 (Nat.le_of_eq g981.symm)
 have ne_a1c_b981 : a1c ≠ b981 := Nat.ne_of_lt (Nat.lt_of_lt_of_eq P0.lt g981.symm)
 have f981_1 := P0.ext E981
 have f981_2 := P1.ext E981
 have f981_3 := P2.ext E981
 have f981_4 := (Keep.refl h0 [a1c]).ext E981
 have V981 : Arv Z h981 b981 k981 .double (2 : Int32) [(.double (0 : UInt64)), (.double (0 : UInt64))] (.double (0 : UInt64)) := (Arv.new A981 (by decide)).pad (pad_rep [] (.double (0 : UInt64)) 2)
 refine GoW.sg (mkF m 8 #[.val (.ref a1c), .val (.int 2)] [(.ref b981), (.ref a1c)]) (fun t k => st981 t k) ?_
 obtain ⟨T982, h982, X982, e982, W982, st982⟩ := putF X981 hx hZ hown (host := "") (Or.inl (ww hw 11 rfl)) Via.refl e981 f981_2 f981_1 (Or.inr ⟨(ww hw 12 rfl), rfl, hnm⟩) (ww hw 2 rfl) (ty := (.array .double)) (by decide) rfl rfl (g := (mkF m 8 #[.val (.ref a1c), .val (.int 2)] [(.ref b981), (.ref a1c)])) rfl rfl (B d1_8)
 have N982 := Fr.snoc X982 N0 g_a1c
 have f982_6 := f981_1.wr W982
 have f982_7 := f981_3.other W982 (Or.inr (slot_ne (t := .int) (t' := (.array .double)) (Or.inl (ww hw 19 rfl)) (Or.inr (ww hw 12 rfl)) (by decide) (by decide) (by decide)))
 have f982_8 := f981_4.wr W982 (Or.inl (List.mem_of_getElem? (i := 0) rfl))
 have f982_10 := V981.other W982 (Ne.symm ne_a1c_b981)
 have F982heap : Fld Z h982 a1c HSn "heap" "[D" (.ref b981) := f981_2.same W982
 refine GoW.sg (mkF m 11 #[.val (.ref a1c), .val (.int 2)] []) (fun t k => st982 t k) ?_
 refine GoW.retV X982 hx Bd.returns (B d1_11) Bd.notSynchronized ?_ (by decide) (by decide)
 rw [e982]
 exact ⟨b981, k981, rfl, N982, f982_8, f982_6, F982heap, f982_7, f982_10, sz_b981⟩
def Q3_34 (Z : State) (a1c a2c : Addr) (ka2c : ClassId) (h0 : Heap) (n0 : Nat) (v : Option Value) (h : Heap) (L : List Loc) : Prop := v = some (.double 18442240474082181120) ∧ Fr n0 L ∧ (h = h0)
theorem rm3_34 (l : Launch) (Z : State) (a0 : Array Value) (hw : HW a0 Z) (a1c a2c : Addr) (ka2c : ClassId) (h0 : Heap) (n0 : Nat) (P0 : Fld Z h0 a1c HSn "heap" "[D" (.ref a2c)) (P1 : Fld Z h0 a1c HSn "size" "I" (.int 0)) (P2 : Arv Z h0 a2c ka2c .double 2 [(.double 0), (.double 0)] (.double 0)) :
  MM l Z Y3 prog_43_method_3_code 1 (some .double) 0 0 0 0 #[(.ref a1c)] h0 (Q3_34 Z a1c a2c ka2c h0 n0) := by
 refine own_start (fun m => (mkF m 0 #[.val (.ref a1c)] [])) (plainFor_of_name pn_com_example_nearterm_nearterm_retrieval_HighestScores) (by simp [entryFrame, mkF, argsToLocals, Value.category]) n0 ?_
 intro p e s m below meth c s₁ Bd hx B hml hZ hown hnm X0 e0 N0
 refine GoW.sg (mkF m 1 #[.val (.ref a1c)] [(.ref a1c)]) (fun t k => XS.aloadN X0.here hx rfl (B d3_0) rfl rfl k) ?_
 obtain ⟨T987, X987, e987, st987⟩ := getF X0 hx hZ hown (host := "") (Or.inl (ww hw 18 rfl)) Via.refl e0 P1 (g := (mkF m 1 #[.val (.ref a1c)] [(.ref a1c)])) rfl rfl (B d3_1)
 refine GoW.sg (mkF m 4 #[.val (.ref a1c)] [(.int 0)]) (fun t k => st987 t k) ?_
 refine GoW.sg (mkF m 5 #[.val (.ref a1c)] [(.ref a1c), (.int 0)]) (fun t k => XS.aloadN X987.here hx rfl (B d3_4) rfl rfl k) ?_
 obtain ⟨T988, X988, e988, st988⟩ := getF X987 hx hZ hown (host := "") (Or.inl (ww hw 11 rfl)) Via.refl e987 P0 (g := (mkF m 5 #[.val (.ref a1c)] [(.ref a1c), (.int 0)])) rfl rfl (B d3_5)
 refine GoW.sg (mkF m 8 #[.val (.ref a1c)] [(.ref a2c), (.int 0)]) (fun t k => st988 t k) ?_
 obtain ⟨cl989, Ar989, q989, Sz989, Nn989, Hh989, Gg989⟩ := id P2
 have st989 := X988.arraylength hx (hq_ e988 Ar989.1) (State.isArrayOf_alike hZ.alike Ar989.2.1) (g := (mkF m 8 #[.val (.ref a1c)] [(.ref a2c), (.int 0)])) rfl rfl (B d3_8)
 rw [len_of Sz989 Nn989] at st989
 refine GoW.sg (mkF m 9 #[.val (.ref a1c)] [(.int 2), (.int 0)]) (fun t k => st989 t k) ?_
 refine GoW.sg (mkF m 12 #[.val (.ref a1c)] []) (fun t k => XS.icmpNo X988.here hx rfl (B d3_9) rfl (by decide) k) ?_
 refine GoW.sg (mkF m 15 #[.val (.ref a1c)] [(.double 18442240474082181120)]) (fun t k => X988.ldc2DoubleC hx hown (mvT hZ (ww hw 20 rfl)) (g := (mkF m 12 #[.val (.ref a1c)] [])) rfl (B d3_12) t k) ?_
 refine GoW.sg (mkF m 24 #[.val (.ref a1c)] [(.double 18442240474082181120)]) (fun t k => XS.goto X988.here hx rfl (pc0 := 15) (pc' := 24) rfl (B d3_15) (by decide) (by decide) k) ?_
 refine GoW.retD X988 hx Bd.returns (B d3_24) Bd.notSynchronized ?_ (by decide) (by decide)
 rw [e988]
 exact ⟨rfl, N0, rfl⟩
def Q3_35 (Z : State) (a1c a2c : Addr) (ka2c : ClassId) (x1c : UInt64) (x2c : Int32) (h0 : Heap) (n0 : Nat) (v : Option Value) (h : Heap) (L : List Loc) : Prop := v = some (.double 18442240474082181120) ∧ Fr n0 L ∧ (h = h0)
theorem rm3_35 (l : Launch) (Z : State) (a0 : Array Value) (hw : HW a0 Z) (a1c a2c : Addr) (ka2c : ClassId) (x1c : UInt64) (x2c : Int32) (h0 : Heap) (n0 : Nat) (P0 : Fld Z h0 a1c HSn "heap" "[D" (.ref a2c)) (P1 : Fld Z h0 a1c HSn "size" "I" (.int 1)) (P2 : Arv Z h0 a2c ka2c .double 2 [(.double x1c), (.double 0)] (.double 0)) (hx1c : x1c = FP.l2d (Int32.toInt64 x2c)) :
  MM l Z Y3 prog_43_method_3_code 1 (some .double) 0 0 0 0 #[(.ref a1c)] h0 (Q3_35 Z a1c a2c ka2c x1c x2c h0 n0) := by
 refine own_start (fun m => (mkF m 0 #[.val (.ref a1c)] [])) (plainFor_of_name pn_com_example_nearterm_nearterm_retrieval_HighestScores) (by simp [entryFrame, mkF, argsToLocals, Value.category]) n0 ?_
 intro p e s m below meth c s₁ Bd hx B hml hZ hown hnm X0 e0 N0
 refine GoW.sg (mkF m 1 #[.val (.ref a1c)] [(.ref a1c)]) (fun t k => XS.aloadN X0.here hx rfl (B d3_0) rfl rfl k) ?_
 obtain ⟨T998, X998, e998, st998⟩ := getF X0 hx hZ hown (host := "") (Or.inl (ww hw 18 rfl)) Via.refl e0 P1 (g := (mkF m 1 #[.val (.ref a1c)] [(.ref a1c)])) rfl rfl (B d3_1)
 refine GoW.sg (mkF m 4 #[.val (.ref a1c)] [(.int 1)]) (fun t k => st998 t k) ?_
 refine GoW.sg (mkF m 5 #[.val (.ref a1c)] [(.ref a1c), (.int 1)]) (fun t k => XS.aloadN X998.here hx rfl (B d3_4) rfl rfl k) ?_
 obtain ⟨T999, X999, e999, st999⟩ := getF X998 hx hZ hown (host := "") (Or.inl (ww hw 11 rfl)) Via.refl e998 P0 (g := (mkF m 5 #[.val (.ref a1c)] [(.ref a1c), (.int 1)])) rfl rfl (B d3_5)
 refine GoW.sg (mkF m 8 #[.val (.ref a1c)] [(.ref a2c), (.int 1)]) (fun t k => st999 t k) ?_
 obtain ⟨cl1000, Ar1000, q1000, Sz1000, Nn1000, Hh1000, Gg1000⟩ := id P2
 have st1000 := X999.arraylength hx (hq_ e999 Ar1000.1) (State.isArrayOf_alike hZ.alike Ar1000.2.1) (g := (mkF m 8 #[.val (.ref a1c)] [(.ref a2c), (.int 1)])) rfl rfl (B d3_8)
 rw [len_of Sz1000 Nn1000] at st1000
 refine GoW.sg (mkF m 9 #[.val (.ref a1c)] [(.int 2), (.int 1)]) (fun t k => st1000 t k) ?_
 refine GoW.sg (mkF m 12 #[.val (.ref a1c)] []) (fun t k => XS.icmpNo X999.here hx rfl (B d3_9) rfl (by decide) k) ?_
 refine GoW.sg (mkF m 15 #[.val (.ref a1c)] [(.double 18442240474082181120)]) (fun t k => X999.ldc2DoubleC hx hown (mvT hZ (ww hw 20 rfl)) (g := (mkF m 12 #[.val (.ref a1c)] [])) rfl (B d3_12) t k) ?_
 refine GoW.sg (mkF m 24 #[.val (.ref a1c)] [(.double 18442240474082181120)]) (fun t k => XS.goto X999.here hx rfl (pc0 := 15) (pc' := 24) rfl (B d3_15) (by decide) (by decide) k) ?_
 refine GoW.retD X999 hx Bd.returns (B d3_24) Bd.notSynchronized ?_ (by decide) (by decide)
 rw [e999]
 exact ⟨rfl, N0, rfl⟩
def Q3_36 (Z : State) (a1c a2c : Addr) (ka2c : ClassId) (x1c x2c : UInt64) (x3c x4c : Int32) (h0 : Heap) (n0 : Nat) (v : Option Value) (h : Heap) (L : List Loc) : Prop := v = some (.double x1c) ∧ Fr n0 L ∧ (h = h0)
theorem rm3_36 (l : Launch) (Z : State) (a0 : Array Value) (hw : HW a0 Z) (a1c a2c : Addr) (ka2c : ClassId) (x1c x2c : UInt64) (x3c x4c : Int32) (h0 : Heap) (n0 : Nat) (P0 : Fld Z h0 a1c HSn "heap" "[D" (.ref a2c)) (P1 : Fld Z h0 a1c HSn "size" "I" (.int 2)) (P2 : Arv Z h0 a2c ka2c .double 2 [(.double x1c), (.double x2c)] (.double 0)) (hx1c : x1c = FP.l2d (Int32.toInt64 x3c)) (hx2c : x2c = FP.l2d (Int32.toInt64 x4c)) :
  MM l Z Y3 prog_43_method_3_code 1 (some .double) 0 0 0 0 #[(.ref a1c)] h0 (Q3_36 Z a1c a2c ka2c x1c x2c x3c x4c h0 n0) := by
 refine own_start (fun m => (mkF m 0 #[.val (.ref a1c)] [])) (plainFor_of_name pn_com_example_nearterm_nearterm_retrieval_HighestScores) (by simp [entryFrame, mkF, argsToLocals, Value.category]) n0 ?_
 intro p e s m below meth c s₁ Bd hx B hml hZ hown hnm X0 e0 N0
 refine GoW.sg (mkF m 1 #[.val (.ref a1c)] [(.ref a1c)]) (fun t k => XS.aloadN X0.here hx rfl (B d3_0) rfl rfl k) ?_
 obtain ⟨T1013, X1013, e1013, st1013⟩ := getF X0 hx hZ hown (host := "") (Or.inl (ww hw 18 rfl)) Via.refl e0 P1 (g := (mkF m 1 #[.val (.ref a1c)] [(.ref a1c)])) rfl rfl (B d3_1)
 refine GoW.sg (mkF m 4 #[.val (.ref a1c)] [(.int 2)]) (fun t k => st1013 t k) ?_
 refine GoW.sg (mkF m 5 #[.val (.ref a1c)] [(.ref a1c), (.int 2)]) (fun t k => XS.aloadN X1013.here hx rfl (B d3_4) rfl rfl k) ?_
 obtain ⟨T1014, X1014, e1014, st1014⟩ := getF X1013 hx hZ hown (host := "") (Or.inl (ww hw 11 rfl)) Via.refl e1013 P0 (g := (mkF m 5 #[.val (.ref a1c)] [(.ref a1c), (.int 2)])) rfl rfl (B d3_5)
 refine GoW.sg (mkF m 8 #[.val (.ref a1c)] [(.ref a2c), (.int 2)]) (fun t k => st1014 t k) ?_
 obtain ⟨cl1015, Ar1015, q1015, Sz1015, Nn1015, Hh1015, Gg1015⟩ := id P2
 have st1015 := X1014.arraylength hx (hq_ e1014 Ar1015.1) (State.isArrayOf_alike hZ.alike Ar1015.2.1) (g := (mkF m 8 #[.val (.ref a1c)] [(.ref a2c), (.int 2)])) rfl rfl (B d3_8)
 rw [len_of Sz1015 Nn1015] at st1015
 refine GoW.sg (mkF m 9 #[.val (.ref a1c)] [(.int 2), (.int 2)]) (fun t k => st1015 t k) ?_
 refine GoW.sg (mkF m 19 #[.val (.ref a1c)] [(.ref a1c)]) (fun t k => XS.icmpYes X1014.here hx rfl (pc0 := 9) (pc' := 18) rfl (B d3_9) rfl (by decide) (by decide) (by decide) (XS.aloadN X1014.here hx rfl (B d3_18) rfl rfl k)) ?_
 obtain ⟨T1016, X1016, e1016, st1016⟩ := getF X1014 hx hZ hown (host := "") (Or.inl (ww hw 11 rfl)) Via.refl e1014 P0 (g := (mkF m 19 #[.val (.ref a1c)] [(.ref a1c)])) rfl rfl (B d3_19)
 refine GoW.sg (mkF m 22 #[.val (.ref a1c)] [(.ref a2c)]) (fun t k => st1016 t k) ?_
 refine GoW.sg (mkF m 23 #[.val (.ref a1c)] [(.int 0), (.ref a2c)]) (fun t k => XS.iconst X1016.here hx rfl (B d3_22) k) ?_
 obtain ⟨cl1017, Ar1017, q1017, Sz1017, Nn1017, Hh1017, Gg1017⟩ := id P2
 have hin1017 : ¬ ((0 : Int32) < 0 ∨ cl1017.slots.size ≤ ((0 : Int32)).toNatClampNeg) := inb_of Sz1017 ⟨by decide, by decide⟩
 refine GoW.sg (mkF m 24 #[.val (.ref a1c)] [(.double x1c)]) (fun t k => X1016.daload hx (j := (0 : Int32)) (v := (.double x1c)) (hq_ e1016 Ar1017.1) (State.isArrayOf_alike hZ.alike Ar1017.2.1) Ar1017.2.2 hin1017 (Hh1017.at hin1017 rfl) (g := (mkF m 23 #[.val (.ref a1c)] [(.int 0), (.ref a2c)])) rfl rfl (B d3_23) t k) ?_
 refine GoW.retD X1016 hx Bd.returns (B d3_24) Bd.notSynchronized ?_ (by decide) (by decide)
 rw [e1016]
 exact ⟨rfl, N0, rfl⟩
def Q1_37 (Z : State) (a1c : Addr) (h0 : Heap) (n0 : Nat) (v : Option Value) (h : Heap) (L : List Loc) : Prop := ∃ e0 : Addr, ∃ ke0 : ClassId, v = none ∧ Fr n0 L ∧ (Keep h0 h [a1c]) ∧ (Exa Z h a1c HSn) ∧ (Fld Z h a1c HSn "heap" "[D" (.ref e0)) ∧ (Fld Z h a1c HSn "size" "I" (.int 0)) ∧ (Arv Z h e0 ke0 .double 3 [(.double 0), (.double 0), (.double 0)] (.double 0)) ∧ (h0.size ≤ e0)
theorem rm1_37 (l : Launch) (Z : State) (a0 : Array Value) (hw : HW a0 Z) (a1c : Addr) (h0 : Heap) (n0 : Nat) (Z0 : n0 ≤ h0.size) (P0 : Exa Z h0 a1c HSn) (P1 : Fld Z h0 a1c HSn "heap" "[D" .null) (P2 : Fld Z h0 a1c HSn "size" "I" (.int 0)) (g_a1c : n0 ≤ a1c) :
  MM l Z Y1 prog_43_method_1_code 2 none 1 1 3 12 #[(.ref a1c), (.int 3)] h0 (Q1_37 Z a1c h0 n0) := by
 refine own_start (fun m => (mkF m 0 #[.val (.ref a1c), .val (.int 3)] [])) (plainFor_of_name pn_com_example_nearterm_nearterm_retrieval_HighestScores) (by simp [entryFrame, mkF, argsToLocals, Value.category]) n0 ?_
 intro p e s m below meth c s₁ Bd hx B hml hZ hown hnm X0 e0 N0
 refine GoW.sg (mkF m 1 #[.val (.ref a1c), .val (.int 3)] [(.ref a1c)]) (fun t k => XS.aloadN X0.here hx rfl (B d1_0) rfl rfl k) ?_
 obtain ⟨T1062, X1062, e1062, st1062⟩ := initO X0 hx hZ hown (ww hw 7 rfl) (ww hw 8 rfl) (ww hw 9 rfl) e0 (g := (mkF m 1 #[.val (.ref a1c), .val (.int 3)] [(.ref a1c)])) rfl (by rw [hml]; rfl) rfl (B d1_1) (by decide) (W := 0) (Nat.le_of_eq rfl) (by decide)
 refine GoW.sg (mkF m 4 #[.val (.ref a1c), .val (.int 3)] []) (fun t k => st1062 t k) ?_
 refine GoW.sg (mkF m 6 #[.val (.ref a1c), .val (.int 3)] [(.int 3), (.ref a1c)]) (fun t k => XS.aloadN X1062.here hx rfl (B d1_4) rfl rfl (XS.iloadN X1062.here hx rfl (B d1_5) rfl k)) ?_
 obtain ⟨T1063, h1063, k1063, X1063, e1063, E1063, A1063, st1063⟩ := newP X1062 hx hZ (ww hw 10 rfl) e1062 (g := (mkF m 6 #[.val (.ref a1c), .val (.int 3)] [(.int 3), (.ref a1c)])) rfl (B d1_6) rfl (by decide) (cap := 3) (by decide) (by decide) (by decide) (by decide)
 obtain ⟨b1063, g1063⟩ : ∃ z, z = h0.size := ⟨_, rfl⟩
 rw [← g1063] at A1063 st1063
 have sz_b1063 : h0.size ≤ b1063 := Nat.le_trans (Keep.refl h0 [a1c]).1 (Nat.le_of_eq g1063.symm)
 have ne_a1c_b1063 : a1c ≠ b1063 := Nat.ne_of_lt (Nat.lt_of_lt_of_eq P0.lt g1063.symm)
 have f1063_1 := P0.ext E1063
 have f1063_2 := P1.ext E1063
 have f1063_3 := P2.ext E1063
 have f1063_4 := (Keep.refl h0 [a1c]).ext E1063
 have V1063 : Arv Z h1063 b1063 k1063 .double (3 : Int32) [(.double (0 : UInt64)), (.double (0 : UInt64)), (.double (0 : UInt64))] (.double (0 : UInt64)) := (Arv.new A1063 (by decide)).pad (pad_rep [] (.double (0 : UInt64)) 3)
 refine GoW.sg (mkF m 8 #[.val (.ref a1c), .val (.int 3)] [(.ref b1063), (.ref a1c)]) (fun t k => st1063 t k) ?_
 obtain ⟨T1064, h1064, X1064, e1064, W1064, st1064⟩ := putF X1063 hx hZ hown (host := "") (Or.inl (ww hw 11 rfl)) Via.refl e1063 f1063_2 f1063_1 (Or.inr ⟨(ww hw 12 rfl), rfl, hnm⟩) (ww hw 2 rfl) (ty := (.array .double)) (by decide) rfl rfl (g := (mkF m 8 #[.val (.ref a1c), .val (.int 3)] [(.ref b1063), (.ref a1c)])) rfl rfl (B d1_8)
 have N1064 := Fr.snoc X1064 N0 g_a1c
 have f1064_6 := f1063_1.wr W1064
 have f1064_7 := f1063_3.other W1064 (Or.inr (slot_ne (t := .int) (t' := (.array .double)) (Or.inl (ww hw 19 rfl)) (Or.inr (ww hw 12 rfl)) (by decide) (by decide) (by decide)))
 have f1064_8 := f1063_4.wr W1064 (Or.inl (List.mem_of_getElem? (i := 0) rfl))
 have f1064_10 := V1063.other W1064 (Ne.symm ne_a1c_b1063)
 have F1064heap : Fld Z h1064 a1c HSn "heap" "[D" (.ref b1063) := f1063_2.same W1064
 refine GoW.sg (mkF m 11 #[.val (.ref a1c), .val (.int 3)] []) (fun t k => st1064 t k) ?_
 refine GoW.retV X1064 hx Bd.returns (B d1_11) Bd.notSynchronized ?_ (by decide) (by decide)
 rw [e1064]
 exact ⟨b1063, k1063, rfl, N1064, f1064_8, f1064_6, F1064heap, f1064_7, f1064_10, sz_b1063⟩
def Q3_38 (Z : State) (a1c a2c : Addr) (ka2c : ClassId) (h0 : Heap) (n0 : Nat) (v : Option Value) (h : Heap) (L : List Loc) : Prop := v = some (.double 18442240474082181120) ∧ Fr n0 L ∧ (h = h0)
theorem rm3_38 (l : Launch) (Z : State) (a0 : Array Value) (hw : HW a0 Z) (a1c a2c : Addr) (ka2c : ClassId) (h0 : Heap) (n0 : Nat) (P0 : Fld Z h0 a1c HSn "heap" "[D" (.ref a2c)) (P1 : Fld Z h0 a1c HSn "size" "I" (.int 0)) (P2 : Arv Z h0 a2c ka2c .double 3 [(.double 0), (.double 0), (.double 0)] (.double 0)) :
  MM l Z Y3 prog_43_method_3_code 1 (some .double) 0 0 0 0 #[(.ref a1c)] h0 (Q3_38 Z a1c a2c ka2c h0 n0) := by
 refine own_start (fun m => (mkF m 0 #[.val (.ref a1c)] [])) (plainFor_of_name pn_com_example_nearterm_nearterm_retrieval_HighestScores) (by simp [entryFrame, mkF, argsToLocals, Value.category]) n0 ?_
 intro p e s m below meth c s₁ Bd hx B hml hZ hown hnm X0 e0 N0
 refine GoW.sg (mkF m 1 #[.val (.ref a1c)] [(.ref a1c)]) (fun t k => XS.aloadN X0.here hx rfl (B d3_0) rfl rfl k) ?_
 obtain ⟨T1069, X1069, e1069, st1069⟩ := getF X0 hx hZ hown (host := "") (Or.inl (ww hw 18 rfl)) Via.refl e0 P1 (g := (mkF m 1 #[.val (.ref a1c)] [(.ref a1c)])) rfl rfl (B d3_1)
 refine GoW.sg (mkF m 4 #[.val (.ref a1c)] [(.int 0)]) (fun t k => st1069 t k) ?_
 refine GoW.sg (mkF m 5 #[.val (.ref a1c)] [(.ref a1c), (.int 0)]) (fun t k => XS.aloadN X1069.here hx rfl (B d3_4) rfl rfl k) ?_
 obtain ⟨T1070, X1070, e1070, st1070⟩ := getF X1069 hx hZ hown (host := "") (Or.inl (ww hw 11 rfl)) Via.refl e1069 P0 (g := (mkF m 5 #[.val (.ref a1c)] [(.ref a1c), (.int 0)])) rfl rfl (B d3_5)
 refine GoW.sg (mkF m 8 #[.val (.ref a1c)] [(.ref a2c), (.int 0)]) (fun t k => st1070 t k) ?_
 obtain ⟨cl1071, Ar1071, q1071, Sz1071, Nn1071, Hh1071, Gg1071⟩ := id P2
 have st1071 := X1070.arraylength hx (hq_ e1070 Ar1071.1) (State.isArrayOf_alike hZ.alike Ar1071.2.1) (g := (mkF m 8 #[.val (.ref a1c)] [(.ref a2c), (.int 0)])) rfl rfl (B d3_8)
 rw [len_of Sz1071 Nn1071] at st1071
 refine GoW.sg (mkF m 9 #[.val (.ref a1c)] [(.int 3), (.int 0)]) (fun t k => st1071 t k) ?_
 refine GoW.sg (mkF m 12 #[.val (.ref a1c)] []) (fun t k => XS.icmpNo X1070.here hx rfl (B d3_9) rfl (by decide) k) ?_
 refine GoW.sg (mkF m 15 #[.val (.ref a1c)] [(.double 18442240474082181120)]) (fun t k => X1070.ldc2DoubleC hx hown (mvT hZ (ww hw 20 rfl)) (g := (mkF m 12 #[.val (.ref a1c)] [])) rfl (B d3_12) t k) ?_
 refine GoW.sg (mkF m 24 #[.val (.ref a1c)] [(.double 18442240474082181120)]) (fun t k => XS.goto X1070.here hx rfl (pc0 := 15) (pc' := 24) rfl (B d3_15) (by decide) (by decide) k) ?_
 refine GoW.retD X1070 hx Bd.returns (B d3_24) Bd.notSynchronized ?_ (by decide) (by decide)
 rw [e1070]
 exact ⟨rfl, N0, rfl⟩
def Q3_39 (Z : State) (a1c a2c : Addr) (ka2c : ClassId) (x1c : UInt64) (x2c : Int32) (h0 : Heap) (n0 : Nat) (v : Option Value) (h : Heap) (L : List Loc) : Prop := v = some (.double 18442240474082181120) ∧ Fr n0 L ∧ (h = h0)
theorem rm3_39 (l : Launch) (Z : State) (a0 : Array Value) (hw : HW a0 Z) (a1c a2c : Addr) (ka2c : ClassId) (x1c : UInt64) (x2c : Int32) (h0 : Heap) (n0 : Nat) (P0 : Fld Z h0 a1c HSn "heap" "[D" (.ref a2c)) (P1 : Fld Z h0 a1c HSn "size" "I" (.int 1)) (P2 : Arv Z h0 a2c ka2c .double 3 [(.double x1c), (.double 0), (.double 0)] (.double 0)) (hx1c : x1c = FP.l2d (Int32.toInt64 x2c)) :
  MM l Z Y3 prog_43_method_3_code 1 (some .double) 0 0 0 0 #[(.ref a1c)] h0 (Q3_39 Z a1c a2c ka2c x1c x2c h0 n0) := by
 refine own_start (fun m => (mkF m 0 #[.val (.ref a1c)] [])) (plainFor_of_name pn_com_example_nearterm_nearterm_retrieval_HighestScores) (by simp [entryFrame, mkF, argsToLocals, Value.category]) n0 ?_
 intro p e s m below meth c s₁ Bd hx B hml hZ hown hnm X0 e0 N0
 refine GoW.sg (mkF m 1 #[.val (.ref a1c)] [(.ref a1c)]) (fun t k => XS.aloadN X0.here hx rfl (B d3_0) rfl rfl k) ?_
 obtain ⟨T1080, X1080, e1080, st1080⟩ := getF X0 hx hZ hown (host := "") (Or.inl (ww hw 18 rfl)) Via.refl e0 P1 (g := (mkF m 1 #[.val (.ref a1c)] [(.ref a1c)])) rfl rfl (B d3_1)
 refine GoW.sg (mkF m 4 #[.val (.ref a1c)] [(.int 1)]) (fun t k => st1080 t k) ?_
 refine GoW.sg (mkF m 5 #[.val (.ref a1c)] [(.ref a1c), (.int 1)]) (fun t k => XS.aloadN X1080.here hx rfl (B d3_4) rfl rfl k) ?_
 obtain ⟨T1081, X1081, e1081, st1081⟩ := getF X1080 hx hZ hown (host := "") (Or.inl (ww hw 11 rfl)) Via.refl e1080 P0 (g := (mkF m 5 #[.val (.ref a1c)] [(.ref a1c), (.int 1)])) rfl rfl (B d3_5)
 refine GoW.sg (mkF m 8 #[.val (.ref a1c)] [(.ref a2c), (.int 1)]) (fun t k => st1081 t k) ?_
 obtain ⟨cl1082, Ar1082, q1082, Sz1082, Nn1082, Hh1082, Gg1082⟩ := id P2
 have st1082 := X1081.arraylength hx (hq_ e1081 Ar1082.1) (State.isArrayOf_alike hZ.alike Ar1082.2.1) (g := (mkF m 8 #[.val (.ref a1c)] [(.ref a2c), (.int 1)])) rfl rfl (B d3_8)
 rw [len_of Sz1082 Nn1082] at st1082
 refine GoW.sg (mkF m 9 #[.val (.ref a1c)] [(.int 3), (.int 1)]) (fun t k => st1082 t k) ?_
 refine GoW.sg (mkF m 12 #[.val (.ref a1c)] []) (fun t k => XS.icmpNo X1081.here hx rfl (B d3_9) rfl (by decide) k) ?_
 refine GoW.sg (mkF m 15 #[.val (.ref a1c)] [(.double 18442240474082181120)]) (fun t k => X1081.ldc2DoubleC hx hown (mvT hZ (ww hw 20 rfl)) (g := (mkF m 12 #[.val (.ref a1c)] [])) rfl (B d3_12) t k) ?_
 refine GoW.sg (mkF m 24 #[.val (.ref a1c)] [(.double 18442240474082181120)]) (fun t k => XS.goto X1081.here hx rfl (pc0 := 15) (pc' := 24) rfl (B d3_15) (by decide) (by decide) k) ?_
 refine GoW.retD X1081 hx Bd.returns (B d3_24) Bd.notSynchronized ?_ (by decide) (by decide)
 rw [e1081]
 exact ⟨rfl, N0, rfl⟩
def Q3_40 (Z : State) (a1c a2c : Addr) (ka2c : ClassId) (x1c x2c : UInt64) (x3c x4c : Int32) (h0 : Heap) (n0 : Nat) (v : Option Value) (h : Heap) (L : List Loc) : Prop := v = some (.double 18442240474082181120) ∧ Fr n0 L ∧ (h = h0)
theorem rm3_40 (l : Launch) (Z : State) (a0 : Array Value) (hw : HW a0 Z) (a1c a2c : Addr) (ka2c : ClassId) (x1c x2c : UInt64) (x3c x4c : Int32) (h0 : Heap) (n0 : Nat) (P0 : Fld Z h0 a1c HSn "heap" "[D" (.ref a2c)) (P1 : Fld Z h0 a1c HSn "size" "I" (.int 2)) (P2 : Arv Z h0 a2c ka2c .double 3 [(.double x1c), (.double x2c), (.double 0)] (.double 0)) (hx1c : x1c = FP.l2d (Int32.toInt64 x3c)) (hx2c : x2c = FP.l2d (Int32.toInt64 x4c)) :
  MM l Z Y3 prog_43_method_3_code 1 (some .double) 0 0 0 0 #[(.ref a1c)] h0 (Q3_40 Z a1c a2c ka2c x1c x2c x3c x4c h0 n0) := by
 refine own_start (fun m => (mkF m 0 #[.val (.ref a1c)] [])) (plainFor_of_name pn_com_example_nearterm_nearterm_retrieval_HighestScores) (by simp [entryFrame, mkF, argsToLocals, Value.category]) n0 ?_
 intro p e s m below meth c s₁ Bd hx B hml hZ hown hnm X0 e0 N0
 refine GoW.sg (mkF m 1 #[.val (.ref a1c)] [(.ref a1c)]) (fun t k => XS.aloadN X0.here hx rfl (B d3_0) rfl rfl k) ?_
 obtain ⟨T1093, X1093, e1093, st1093⟩ := getF X0 hx hZ hown (host := "") (Or.inl (ww hw 18 rfl)) Via.refl e0 P1 (g := (mkF m 1 #[.val (.ref a1c)] [(.ref a1c)])) rfl rfl (B d3_1)
 refine GoW.sg (mkF m 4 #[.val (.ref a1c)] [(.int 2)]) (fun t k => st1093 t k) ?_
 refine GoW.sg (mkF m 5 #[.val (.ref a1c)] [(.ref a1c), (.int 2)]) (fun t k => XS.aloadN X1093.here hx rfl (B d3_4) rfl rfl k) ?_
 obtain ⟨T1094, X1094, e1094, st1094⟩ := getF X1093 hx hZ hown (host := "") (Or.inl (ww hw 11 rfl)) Via.refl e1093 P0 (g := (mkF m 5 #[.val (.ref a1c)] [(.ref a1c), (.int 2)])) rfl rfl (B d3_5)
 refine GoW.sg (mkF m 8 #[.val (.ref a1c)] [(.ref a2c), (.int 2)]) (fun t k => st1094 t k) ?_
 obtain ⟨cl1095, Ar1095, q1095, Sz1095, Nn1095, Hh1095, Gg1095⟩ := id P2
 have st1095 := X1094.arraylength hx (hq_ e1094 Ar1095.1) (State.isArrayOf_alike hZ.alike Ar1095.2.1) (g := (mkF m 8 #[.val (.ref a1c)] [(.ref a2c), (.int 2)])) rfl rfl (B d3_8)
 rw [len_of Sz1095 Nn1095] at st1095
 refine GoW.sg (mkF m 9 #[.val (.ref a1c)] [(.int 3), (.int 2)]) (fun t k => st1095 t k) ?_
 refine GoW.sg (mkF m 12 #[.val (.ref a1c)] []) (fun t k => XS.icmpNo X1094.here hx rfl (B d3_9) rfl (by decide) k) ?_
 refine GoW.sg (mkF m 15 #[.val (.ref a1c)] [(.double 18442240474082181120)]) (fun t k => X1094.ldc2DoubleC hx hown (mvT hZ (ww hw 20 rfl)) (g := (mkF m 12 #[.val (.ref a1c)] [])) rfl (B d3_12) t k) ?_
 refine GoW.sg (mkF m 24 #[.val (.ref a1c)] [(.double 18442240474082181120)]) (fun t k => XS.goto X1094.here hx rfl (pc0 := 15) (pc' := 24) rfl (B d3_15) (by decide) (by decide) k) ?_
 refine GoW.retD X1094 hx Bd.returns (B d3_24) Bd.notSynchronized ?_ (by decide) (by decide)
 rw [e1094]
 exact ⟨rfl, N0, rfl⟩
def Q3_41 (Z : State) (a1c a2c : Addr) (ka2c : ClassId) (x1c x2c x3c : UInt64) (x4c x5c x6c : Int32) (h0 : Heap) (n0 : Nat) (v : Option Value) (h : Heap) (L : List Loc) : Prop := v = some (.double x1c) ∧ Fr n0 L ∧ (h = h0)
theorem rm3_41 (l : Launch) (Z : State) (a0 : Array Value) (hw : HW a0 Z) (a1c a2c : Addr) (ka2c : ClassId) (x1c x2c x3c : UInt64) (x4c x5c x6c : Int32) (h0 : Heap) (n0 : Nat) (P0 : Fld Z h0 a1c HSn "heap" "[D" (.ref a2c)) (P1 : Fld Z h0 a1c HSn "size" "I" (.int 3)) (P2 : Arv Z h0 a2c ka2c .double 3 [(.double x1c), (.double x2c), (.double x3c)] (.double 0)) (hx1c : x1c = FP.l2d (Int32.toInt64 x4c)) (hx2c : x2c = FP.l2d (Int32.toInt64 x5c)) (hx3c : x3c = FP.l2d (Int32.toInt64 x6c)) :
  MM l Z Y3 prog_43_method_3_code 1 (some .double) 0 0 0 0 #[(.ref a1c)] h0 (Q3_41 Z a1c a2c ka2c x1c x2c x3c x4c x5c x6c h0 n0) := by
 refine own_start (fun m => (mkF m 0 #[.val (.ref a1c)] [])) (plainFor_of_name pn_com_example_nearterm_nearterm_retrieval_HighestScores) (by simp [entryFrame, mkF, argsToLocals, Value.category]) n0 ?_
 intro p e s m below meth c s₁ Bd hx B hml hZ hown hnm X0 e0 N0
 refine GoW.sg (mkF m 1 #[.val (.ref a1c)] [(.ref a1c)]) (fun t k => XS.aloadN X0.here hx rfl (B d3_0) rfl rfl k) ?_
 obtain ⟨T1110, X1110, e1110, st1110⟩ := getF X0 hx hZ hown (host := "") (Or.inl (ww hw 18 rfl)) Via.refl e0 P1 (g := (mkF m 1 #[.val (.ref a1c)] [(.ref a1c)])) rfl rfl (B d3_1)
 refine GoW.sg (mkF m 4 #[.val (.ref a1c)] [(.int 3)]) (fun t k => st1110 t k) ?_
 refine GoW.sg (mkF m 5 #[.val (.ref a1c)] [(.ref a1c), (.int 3)]) (fun t k => XS.aloadN X1110.here hx rfl (B d3_4) rfl rfl k) ?_
 obtain ⟨T1111, X1111, e1111, st1111⟩ := getF X1110 hx hZ hown (host := "") (Or.inl (ww hw 11 rfl)) Via.refl e1110 P0 (g := (mkF m 5 #[.val (.ref a1c)] [(.ref a1c), (.int 3)])) rfl rfl (B d3_5)
 refine GoW.sg (mkF m 8 #[.val (.ref a1c)] [(.ref a2c), (.int 3)]) (fun t k => st1111 t k) ?_
 obtain ⟨cl1112, Ar1112, q1112, Sz1112, Nn1112, Hh1112, Gg1112⟩ := id P2
 have st1112 := X1111.arraylength hx (hq_ e1111 Ar1112.1) (State.isArrayOf_alike hZ.alike Ar1112.2.1) (g := (mkF m 8 #[.val (.ref a1c)] [(.ref a2c), (.int 3)])) rfl rfl (B d3_8)
 rw [len_of Sz1112 Nn1112] at st1112
 refine GoW.sg (mkF m 9 #[.val (.ref a1c)] [(.int 3), (.int 3)]) (fun t k => st1112 t k) ?_
 refine GoW.sg (mkF m 19 #[.val (.ref a1c)] [(.ref a1c)]) (fun t k => XS.icmpYes X1111.here hx rfl (pc0 := 9) (pc' := 18) rfl (B d3_9) rfl (by decide) (by decide) (by decide) (XS.aloadN X1111.here hx rfl (B d3_18) rfl rfl k)) ?_
 obtain ⟨T1113, X1113, e1113, st1113⟩ := getF X1111 hx hZ hown (host := "") (Or.inl (ww hw 11 rfl)) Via.refl e1111 P0 (g := (mkF m 19 #[.val (.ref a1c)] [(.ref a1c)])) rfl rfl (B d3_19)
 refine GoW.sg (mkF m 22 #[.val (.ref a1c)] [(.ref a2c)]) (fun t k => st1113 t k) ?_
 refine GoW.sg (mkF m 23 #[.val (.ref a1c)] [(.int 0), (.ref a2c)]) (fun t k => XS.iconst X1113.here hx rfl (B d3_22) k) ?_
 obtain ⟨cl1114, Ar1114, q1114, Sz1114, Nn1114, Hh1114, Gg1114⟩ := id P2
 have hin1114 : ¬ ((0 : Int32) < 0 ∨ cl1114.slots.size ≤ ((0 : Int32)).toNatClampNeg) := inb_of Sz1114 ⟨by decide, by decide⟩
 refine GoW.sg (mkF m 24 #[.val (.ref a1c)] [(.double x1c)]) (fun t k => X1113.daload hx (j := (0 : Int32)) (v := (.double x1c)) (hq_ e1113 Ar1114.1) (State.isArrayOf_alike hZ.alike Ar1114.2.1) Ar1114.2.2 hin1114 (Hh1114.at hin1114 rfl) (g := (mkF m 23 #[.val (.ref a1c)] [(.int 0), (.ref a2c)])) rfl rfl (B d3_23) t k) ?_
 refine GoW.retD X1113 hx Bd.returns (B d3_24) Bd.notSynchronized ?_ (by decide) (by decide)
 rw [e1113]
 exact ⟨rfl, N0, rfl⟩
def Q1_42 (Z : State) (a1c : Addr) (h0 : Heap) (n0 : Nat) (v : Option Value) (h : Heap) (L : List Loc) : Prop := ∃ e0 : Addr, ∃ ke0 : ClassId, v = none ∧ Fr n0 L ∧ (Keep h0 h [a1c]) ∧ (Exa Z h a1c HSn) ∧ (Fld Z h a1c HSn "heap" "[D" (.ref e0)) ∧ (Fld Z h a1c HSn "size" "I" (.int 0)) ∧ (Arv Z h e0 ke0 .double 4 [(.double 0), (.double 0), (.double 0), (.double 0)] (.double 0)) ∧ (h0.size ≤ e0)
theorem rm1_42 (l : Launch) (Z : State) (a0 : Array Value) (hw : HW a0 Z) (a1c : Addr) (h0 : Heap) (n0 : Nat) (Z0 : n0 ≤ h0.size) (P0 : Exa Z h0 a1c HSn) (P1 : Fld Z h0 a1c HSn "heap" "[D" .null) (P2 : Fld Z h0 a1c HSn "size" "I" (.int 0)) (g_a1c : n0 ≤ a1c) :
  MM l Z Y1 prog_43_method_1_code 2 none 1 1 4 12 #[(.ref a1c), (.int 4)] h0 (Q1_42 Z a1c h0 n0) := by
 refine own_start (fun m => (mkF m 0 #[.val (.ref a1c), .val (.int 4)] [])) (plainFor_of_name pn_com_example_nearterm_nearterm_retrieval_HighestScores) (by simp [entryFrame, mkF, argsToLocals, Value.category]) n0 ?_
 intro p e s m below meth c s₁ Bd hx B hml hZ hown hnm X0 e0 N0
 refine GoW.sg (mkF m 1 #[.val (.ref a1c), .val (.int 4)] [(.ref a1c)]) (fun t k => XS.aloadN X0.here hx rfl (B d1_0) rfl rfl k) ?_
 obtain ⟨T1150, X1150, e1150, st1150⟩ := initO X0 hx hZ hown (ww hw 7 rfl) (ww hw 8 rfl) (ww hw 9 rfl) e0 (g := (mkF m 1 #[.val (.ref a1c), .val (.int 4)] [(.ref a1c)])) rfl (by rw [hml]; rfl) rfl (B d1_1) (by decide) (W := 0) (Nat.le_of_eq rfl) (by decide)
 refine GoW.sg (mkF m 4 #[.val (.ref a1c), .val (.int 4)] []) (fun t k => st1150 t k) ?_
 refine GoW.sg (mkF m 6 #[.val (.ref a1c), .val (.int 4)] [(.int 4), (.ref a1c)]) (fun t k => XS.aloadN X1150.here hx rfl (B d1_4) rfl rfl (XS.iloadN X1150.here hx rfl (B d1_5) rfl k)) ?_
 obtain ⟨T1151, h1151, k1151, X1151, e1151, E1151, A1151, st1151⟩ := newP X1150 hx hZ (ww hw 10 rfl) e1150 (g := (mkF m 6 #[.val (.ref a1c), .val (.int 4)] [(.int 4), (.ref a1c)])) rfl (B d1_6) rfl (by decide) (cap := 4) (by decide) (by decide) (by decide) (by decide)
 obtain ⟨b1151, g1151⟩ : ∃ z, z = h0.size := ⟨_, rfl⟩
 rw [← g1151] at A1151 st1151
 have sz_b1151 : h0.size ≤ b1151 := Nat.le_trans (Keep.refl h0 [a1c]).1 (Nat.le_of_eq g1151.symm)
 have ne_a1c_b1151 : a1c ≠ b1151 := Nat.ne_of_lt (Nat.lt_of_lt_of_eq P0.lt g1151.symm)
 have f1151_1 := P0.ext E1151
 have f1151_2 := P1.ext E1151
 have f1151_3 := P2.ext E1151
 have f1151_4 := (Keep.refl h0 [a1c]).ext E1151
 have V1151 : Arv Z h1151 b1151 k1151 .double (4 : Int32) [(.double (0 : UInt64)), (.double (0 : UInt64)), (.double (0 : UInt64)), (.double (0 : UInt64))] (.double (0 : UInt64)) := (Arv.new A1151 (by decide)).pad (pad_rep [] (.double (0 : UInt64)) 4)
 refine GoW.sg (mkF m 8 #[.val (.ref a1c), .val (.int 4)] [(.ref b1151), (.ref a1c)]) (fun t k => st1151 t k) ?_
 obtain ⟨T1152, h1152, X1152, e1152, W1152, st1152⟩ := putF X1151 hx hZ hown (host := "") (Or.inl (ww hw 11 rfl)) Via.refl e1151 f1151_2 f1151_1 (Or.inr ⟨(ww hw 12 rfl), rfl, hnm⟩) (ww hw 2 rfl) (ty := (.array .double)) (by decide) rfl rfl (g := (mkF m 8 #[.val (.ref a1c), .val (.int 4)] [(.ref b1151), (.ref a1c)])) rfl rfl (B d1_8)
 have N1152 := Fr.snoc X1152 N0 g_a1c
 have f1152_6 := f1151_1.wr W1152
 have f1152_7 := f1151_3.other W1152 (Or.inr (slot_ne (t := .int) (t' := (.array .double)) (Or.inl (ww hw 19 rfl)) (Or.inr (ww hw 12 rfl)) (by decide) (by decide) (by decide)))
 have f1152_8 := f1151_4.wr W1152 (Or.inl (List.mem_of_getElem? (i := 0) rfl))
 have f1152_10 := V1151.other W1152 (Ne.symm ne_a1c_b1151)
 have F1152heap : Fld Z h1152 a1c HSn "heap" "[D" (.ref b1151) := f1151_2.same W1152
 refine GoW.sg (mkF m 11 #[.val (.ref a1c), .val (.int 4)] []) (fun t k => st1152 t k) ?_
 refine GoW.retV X1152 hx Bd.returns (B d1_11) Bd.notSynchronized ?_ (by decide) (by decide)
 rw [e1152]
 exact ⟨b1151, k1151, rfl, N1152, f1152_8, f1152_6, F1152heap, f1152_7, f1152_10, sz_b1151⟩
def Q3_43 (Z : State) (a1c a2c : Addr) (ka2c : ClassId) (h0 : Heap) (n0 : Nat) (v : Option Value) (h : Heap) (L : List Loc) : Prop := v = some (.double 18442240474082181120) ∧ Fr n0 L ∧ (h = h0)
theorem rm3_43 (l : Launch) (Z : State) (a0 : Array Value) (hw : HW a0 Z) (a1c a2c : Addr) (ka2c : ClassId) (h0 : Heap) (n0 : Nat) (P0 : Fld Z h0 a1c HSn "heap" "[D" (.ref a2c)) (P1 : Fld Z h0 a1c HSn "size" "I" (.int 0)) (P2 : Arv Z h0 a2c ka2c .double 4 [(.double 0), (.double 0), (.double 0), (.double 0)] (.double 0)) :
  MM l Z Y3 prog_43_method_3_code 1 (some .double) 0 0 0 0 #[(.ref a1c)] h0 (Q3_43 Z a1c a2c ka2c h0 n0) := by
 refine own_start (fun m => (mkF m 0 #[.val (.ref a1c)] [])) (plainFor_of_name pn_com_example_nearterm_nearterm_retrieval_HighestScores) (by simp [entryFrame, mkF, argsToLocals, Value.category]) n0 ?_
 intro p e s m below meth c s₁ Bd hx B hml hZ hown hnm X0 e0 N0
 refine GoW.sg (mkF m 1 #[.val (.ref a1c)] [(.ref a1c)]) (fun t k => XS.aloadN X0.here hx rfl (B d3_0) rfl rfl k) ?_
 obtain ⟨T1157, X1157, e1157, st1157⟩ := getF X0 hx hZ hown (host := "") (Or.inl (ww hw 18 rfl)) Via.refl e0 P1 (g := (mkF m 1 #[.val (.ref a1c)] [(.ref a1c)])) rfl rfl (B d3_1)
 refine GoW.sg (mkF m 4 #[.val (.ref a1c)] [(.int 0)]) (fun t k => st1157 t k) ?_
 refine GoW.sg (mkF m 5 #[.val (.ref a1c)] [(.ref a1c), (.int 0)]) (fun t k => XS.aloadN X1157.here hx rfl (B d3_4) rfl rfl k) ?_
 obtain ⟨T1158, X1158, e1158, st1158⟩ := getF X1157 hx hZ hown (host := "") (Or.inl (ww hw 11 rfl)) Via.refl e1157 P0 (g := (mkF m 5 #[.val (.ref a1c)] [(.ref a1c), (.int 0)])) rfl rfl (B d3_5)
 refine GoW.sg (mkF m 8 #[.val (.ref a1c)] [(.ref a2c), (.int 0)]) (fun t k => st1158 t k) ?_
 obtain ⟨cl1159, Ar1159, q1159, Sz1159, Nn1159, Hh1159, Gg1159⟩ := id P2
 have st1159 := X1158.arraylength hx (hq_ e1158 Ar1159.1) (State.isArrayOf_alike hZ.alike Ar1159.2.1) (g := (mkF m 8 #[.val (.ref a1c)] [(.ref a2c), (.int 0)])) rfl rfl (B d3_8)
 rw [len_of Sz1159 Nn1159] at st1159
 refine GoW.sg (mkF m 9 #[.val (.ref a1c)] [(.int 4), (.int 0)]) (fun t k => st1159 t k) ?_
 refine GoW.sg (mkF m 12 #[.val (.ref a1c)] []) (fun t k => XS.icmpNo X1158.here hx rfl (B d3_9) rfl (by decide) k) ?_
 refine GoW.sg (mkF m 15 #[.val (.ref a1c)] [(.double 18442240474082181120)]) (fun t k => X1158.ldc2DoubleC hx hown (mvT hZ (ww hw 20 rfl)) (g := (mkF m 12 #[.val (.ref a1c)] [])) rfl (B d3_12) t k) ?_
 refine GoW.sg (mkF m 24 #[.val (.ref a1c)] [(.double 18442240474082181120)]) (fun t k => XS.goto X1158.here hx rfl (pc0 := 15) (pc' := 24) rfl (B d3_15) (by decide) (by decide) k) ?_
 refine GoW.retD X1158 hx Bd.returns (B d3_24) Bd.notSynchronized ?_ (by decide) (by decide)
 rw [e1158]
 exact ⟨rfl, N0, rfl⟩
def Q3_44 (Z : State) (a1c a2c : Addr) (ka2c : ClassId) (x1c : UInt64) (x2c : Int32) (h0 : Heap) (n0 : Nat) (v : Option Value) (h : Heap) (L : List Loc) : Prop := v = some (.double 18442240474082181120) ∧ Fr n0 L ∧ (h = h0)
theorem rm3_44 (l : Launch) (Z : State) (a0 : Array Value) (hw : HW a0 Z) (a1c a2c : Addr) (ka2c : ClassId) (x1c : UInt64) (x2c : Int32) (h0 : Heap) (n0 : Nat) (P0 : Fld Z h0 a1c HSn "heap" "[D" (.ref a2c)) (P1 : Fld Z h0 a1c HSn "size" "I" (.int 1)) (P2 : Arv Z h0 a2c ka2c .double 4 [(.double x1c), (.double 0), (.double 0), (.double 0)] (.double 0)) (hx1c : x1c = FP.l2d (Int32.toInt64 x2c)) :
  MM l Z Y3 prog_43_method_3_code 1 (some .double) 0 0 0 0 #[(.ref a1c)] h0 (Q3_44 Z a1c a2c ka2c x1c x2c h0 n0) := by
 refine own_start (fun m => (mkF m 0 #[.val (.ref a1c)] [])) (plainFor_of_name pn_com_example_nearterm_nearterm_retrieval_HighestScores) (by simp [entryFrame, mkF, argsToLocals, Value.category]) n0 ?_
 intro p e s m below meth c s₁ Bd hx B hml hZ hown hnm X0 e0 N0
 refine GoW.sg (mkF m 1 #[.val (.ref a1c)] [(.ref a1c)]) (fun t k => XS.aloadN X0.here hx rfl (B d3_0) rfl rfl k) ?_
 obtain ⟨T1168, X1168, e1168, st1168⟩ := getF X0 hx hZ hown (host := "") (Or.inl (ww hw 18 rfl)) Via.refl e0 P1 (g := (mkF m 1 #[.val (.ref a1c)] [(.ref a1c)])) rfl rfl (B d3_1)
 refine GoW.sg (mkF m 4 #[.val (.ref a1c)] [(.int 1)]) (fun t k => st1168 t k) ?_
 refine GoW.sg (mkF m 5 #[.val (.ref a1c)] [(.ref a1c), (.int 1)]) (fun t k => XS.aloadN X1168.here hx rfl (B d3_4) rfl rfl k) ?_
 obtain ⟨T1169, X1169, e1169, st1169⟩ := getF X1168 hx hZ hown (host := "") (Or.inl (ww hw 11 rfl)) Via.refl e1168 P0 (g := (mkF m 5 #[.val (.ref a1c)] [(.ref a1c), (.int 1)])) rfl rfl (B d3_5)
 refine GoW.sg (mkF m 8 #[.val (.ref a1c)] [(.ref a2c), (.int 1)]) (fun t k => st1169 t k) ?_
 obtain ⟨cl1170, Ar1170, q1170, Sz1170, Nn1170, Hh1170, Gg1170⟩ := id P2
 have st1170 := X1169.arraylength hx (hq_ e1169 Ar1170.1) (State.isArrayOf_alike hZ.alike Ar1170.2.1) (g := (mkF m 8 #[.val (.ref a1c)] [(.ref a2c), (.int 1)])) rfl rfl (B d3_8)
 rw [len_of Sz1170 Nn1170] at st1170
 refine GoW.sg (mkF m 9 #[.val (.ref a1c)] [(.int 4), (.int 1)]) (fun t k => st1170 t k) ?_
 refine GoW.sg (mkF m 12 #[.val (.ref a1c)] []) (fun t k => XS.icmpNo X1169.here hx rfl (B d3_9) rfl (by decide) k) ?_
 refine GoW.sg (mkF m 15 #[.val (.ref a1c)] [(.double 18442240474082181120)]) (fun t k => X1169.ldc2DoubleC hx hown (mvT hZ (ww hw 20 rfl)) (g := (mkF m 12 #[.val (.ref a1c)] [])) rfl (B d3_12) t k) ?_
 refine GoW.sg (mkF m 24 #[.val (.ref a1c)] [(.double 18442240474082181120)]) (fun t k => XS.goto X1169.here hx rfl (pc0 := 15) (pc' := 24) rfl (B d3_15) (by decide) (by decide) k) ?_
 refine GoW.retD X1169 hx Bd.returns (B d3_24) Bd.notSynchronized ?_ (by decide) (by decide)
 rw [e1169]
 exact ⟨rfl, N0, rfl⟩
def Q3_45 (Z : State) (a1c a2c : Addr) (ka2c : ClassId) (x1c x2c : UInt64) (x3c x4c : Int32) (h0 : Heap) (n0 : Nat) (v : Option Value) (h : Heap) (L : List Loc) : Prop := v = some (.double 18442240474082181120) ∧ Fr n0 L ∧ (h = h0)
theorem rm3_45 (l : Launch) (Z : State) (a0 : Array Value) (hw : HW a0 Z) (a1c a2c : Addr) (ka2c : ClassId) (x1c x2c : UInt64) (x3c x4c : Int32) (h0 : Heap) (n0 : Nat) (P0 : Fld Z h0 a1c HSn "heap" "[D" (.ref a2c)) (P1 : Fld Z h0 a1c HSn "size" "I" (.int 2)) (P2 : Arv Z h0 a2c ka2c .double 4 [(.double x1c), (.double x2c), (.double 0), (.double 0)] (.double 0)) (hx1c : x1c = FP.l2d (Int32.toInt64 x3c)) (hx2c : x2c = FP.l2d (Int32.toInt64 x4c)) :
  MM l Z Y3 prog_43_method_3_code 1 (some .double) 0 0 0 0 #[(.ref a1c)] h0 (Q3_45 Z a1c a2c ka2c x1c x2c x3c x4c h0 n0) := by
 refine own_start (fun m => (mkF m 0 #[.val (.ref a1c)] [])) (plainFor_of_name pn_com_example_nearterm_nearterm_retrieval_HighestScores) (by simp [entryFrame, mkF, argsToLocals, Value.category]) n0 ?_
 intro p e s m below meth c s₁ Bd hx B hml hZ hown hnm X0 e0 N0
 refine GoW.sg (mkF m 1 #[.val (.ref a1c)] [(.ref a1c)]) (fun t k => XS.aloadN X0.here hx rfl (B d3_0) rfl rfl k) ?_
 obtain ⟨T1181, X1181, e1181, st1181⟩ := getF X0 hx hZ hown (host := "") (Or.inl (ww hw 18 rfl)) Via.refl e0 P1 (g := (mkF m 1 #[.val (.ref a1c)] [(.ref a1c)])) rfl rfl (B d3_1)
 refine GoW.sg (mkF m 4 #[.val (.ref a1c)] [(.int 2)]) (fun t k => st1181 t k) ?_
 refine GoW.sg (mkF m 5 #[.val (.ref a1c)] [(.ref a1c), (.int 2)]) (fun t k => XS.aloadN X1181.here hx rfl (B d3_4) rfl rfl k) ?_
 obtain ⟨T1182, X1182, e1182, st1182⟩ := getF X1181 hx hZ hown (host := "") (Or.inl (ww hw 11 rfl)) Via.refl e1181 P0 (g := (mkF m 5 #[.val (.ref a1c)] [(.ref a1c), (.int 2)])) rfl rfl (B d3_5)
 refine GoW.sg (mkF m 8 #[.val (.ref a1c)] [(.ref a2c), (.int 2)]) (fun t k => st1182 t k) ?_
 obtain ⟨cl1183, Ar1183, q1183, Sz1183, Nn1183, Hh1183, Gg1183⟩ := id P2
 have st1183 := X1182.arraylength hx (hq_ e1182 Ar1183.1) (State.isArrayOf_alike hZ.alike Ar1183.2.1) (g := (mkF m 8 #[.val (.ref a1c)] [(.ref a2c), (.int 2)])) rfl rfl (B d3_8)
 rw [len_of Sz1183 Nn1183] at st1183
 refine GoW.sg (mkF m 9 #[.val (.ref a1c)] [(.int 4), (.int 2)]) (fun t k => st1183 t k) ?_
 refine GoW.sg (mkF m 12 #[.val (.ref a1c)] []) (fun t k => XS.icmpNo X1182.here hx rfl (B d3_9) rfl (by decide) k) ?_
 refine GoW.sg (mkF m 15 #[.val (.ref a1c)] [(.double 18442240474082181120)]) (fun t k => X1182.ldc2DoubleC hx hown (mvT hZ (ww hw 20 rfl)) (g := (mkF m 12 #[.val (.ref a1c)] [])) rfl (B d3_12) t k) ?_
 refine GoW.sg (mkF m 24 #[.val (.ref a1c)] [(.double 18442240474082181120)]) (fun t k => XS.goto X1182.here hx rfl (pc0 := 15) (pc' := 24) rfl (B d3_15) (by decide) (by decide) k) ?_
 refine GoW.retD X1182 hx Bd.returns (B d3_24) Bd.notSynchronized ?_ (by decide) (by decide)
 rw [e1182]
 exact ⟨rfl, N0, rfl⟩
def Q3_46 (Z : State) (a1c a2c : Addr) (ka2c : ClassId) (x1c x2c x3c : UInt64) (x4c x5c x6c : Int32) (h0 : Heap) (n0 : Nat) (v : Option Value) (h : Heap) (L : List Loc) : Prop := v = some (.double 18442240474082181120) ∧ Fr n0 L ∧ (h = h0)
theorem rm3_46 (l : Launch) (Z : State) (a0 : Array Value) (hw : HW a0 Z) (a1c a2c : Addr) (ka2c : ClassId) (x1c x2c x3c : UInt64) (x4c x5c x6c : Int32) (h0 : Heap) (n0 : Nat) (P0 : Fld Z h0 a1c HSn "heap" "[D" (.ref a2c)) (P1 : Fld Z h0 a1c HSn "size" "I" (.int 3)) (P2 : Arv Z h0 a2c ka2c .double 4 [(.double x1c), (.double x2c), (.double x3c), (.double 0)] (.double 0)) (hx1c : x1c = FP.l2d (Int32.toInt64 x4c)) (hx2c : x2c = FP.l2d (Int32.toInt64 x5c)) (hx3c : x3c = FP.l2d (Int32.toInt64 x6c)) :
  MM l Z Y3 prog_43_method_3_code 1 (some .double) 0 0 0 0 #[(.ref a1c)] h0 (Q3_46 Z a1c a2c ka2c x1c x2c x3c x4c x5c x6c h0 n0) := by
 refine own_start (fun m => (mkF m 0 #[.val (.ref a1c)] [])) (plainFor_of_name pn_com_example_nearterm_nearterm_retrieval_HighestScores) (by simp [entryFrame, mkF, argsToLocals, Value.category]) n0 ?_
 intro p e s m below meth c s₁ Bd hx B hml hZ hown hnm X0 e0 N0
 refine GoW.sg (mkF m 1 #[.val (.ref a1c)] [(.ref a1c)]) (fun t k => XS.aloadN X0.here hx rfl (B d3_0) rfl rfl k) ?_
 obtain ⟨T1196, X1196, e1196, st1196⟩ := getF X0 hx hZ hown (host := "") (Or.inl (ww hw 18 rfl)) Via.refl e0 P1 (g := (mkF m 1 #[.val (.ref a1c)] [(.ref a1c)])) rfl rfl (B d3_1)
 refine GoW.sg (mkF m 4 #[.val (.ref a1c)] [(.int 3)]) (fun t k => st1196 t k) ?_
 refine GoW.sg (mkF m 5 #[.val (.ref a1c)] [(.ref a1c), (.int 3)]) (fun t k => XS.aloadN X1196.here hx rfl (B d3_4) rfl rfl k) ?_
 obtain ⟨T1197, X1197, e1197, st1197⟩ := getF X1196 hx hZ hown (host := "") (Or.inl (ww hw 11 rfl)) Via.refl e1196 P0 (g := (mkF m 5 #[.val (.ref a1c)] [(.ref a1c), (.int 3)])) rfl rfl (B d3_5)
 refine GoW.sg (mkF m 8 #[.val (.ref a1c)] [(.ref a2c), (.int 3)]) (fun t k => st1197 t k) ?_
 obtain ⟨cl1198, Ar1198, q1198, Sz1198, Nn1198, Hh1198, Gg1198⟩ := id P2
 have st1198 := X1197.arraylength hx (hq_ e1197 Ar1198.1) (State.isArrayOf_alike hZ.alike Ar1198.2.1) (g := (mkF m 8 #[.val (.ref a1c)] [(.ref a2c), (.int 3)])) rfl rfl (B d3_8)
 rw [len_of Sz1198 Nn1198] at st1198
 refine GoW.sg (mkF m 9 #[.val (.ref a1c)] [(.int 4), (.int 3)]) (fun t k => st1198 t k) ?_
 refine GoW.sg (mkF m 12 #[.val (.ref a1c)] []) (fun t k => XS.icmpNo X1197.here hx rfl (B d3_9) rfl (by decide) k) ?_
 refine GoW.sg (mkF m 15 #[.val (.ref a1c)] [(.double 18442240474082181120)]) (fun t k => X1197.ldc2DoubleC hx hown (mvT hZ (ww hw 20 rfl)) (g := (mkF m 12 #[.val (.ref a1c)] [])) rfl (B d3_12) t k) ?_
 refine GoW.sg (mkF m 24 #[.val (.ref a1c)] [(.double 18442240474082181120)]) (fun t k => XS.goto X1197.here hx rfl (pc0 := 15) (pc' := 24) rfl (B d3_15) (by decide) (by decide) k) ?_
 refine GoW.retD X1197 hx Bd.returns (B d3_24) Bd.notSynchronized ?_ (by decide) (by decide)
 rw [e1197]
 exact ⟨rfl, N0, rfl⟩
def Q3_47 (Z : State) (a1c a2c : Addr) (ka2c : ClassId) (x1c x2c : UInt64) (x3c x4c : UInt64) (x5c x6c : Int32) (x7c x8c : Int32) (h0 : Heap) (n0 : Nat) (v : Option Value) (h : Heap) (L : List Loc) : Prop := v = some (.double x1c) ∧ Fr n0 L ∧ (h = h0)
theorem rm3_47 (l : Launch) (Z : State) (a0 : Array Value) (hw : HW a0 Z) (a1c a2c : Addr) (ka2c : ClassId) (x1c x2c : UInt64) (x3c x4c : UInt64) (x5c x6c : Int32) (x7c x8c : Int32) (h0 : Heap) (n0 : Nat) (P0 : Fld Z h0 a1c HSn "heap" "[D" (.ref a2c)) (P1 : Fld Z h0 a1c HSn "size" "I" (.int 4)) (P2 : Arv Z h0 a2c ka2c .double 4 [(.double x1c), (.double x2c), (.double x3c), (.double x4c)] (.double 0)) (hx1c : x1c = FP.l2d (Int32.toInt64 x5c)) (hx2c : x2c = FP.l2d (Int32.toInt64 x6c)) (hx3c : x3c = FP.l2d (Int32.toInt64 x7c)) (hx4c : x4c = FP.l2d (Int32.toInt64 x8c)) :
  MM l Z Y3 prog_43_method_3_code 1 (some .double) 0 0 0 0 #[(.ref a1c)] h0 (Q3_47 Z a1c a2c ka2c x1c x2c x3c x4c x5c x6c x7c x8c h0 n0) := by
 refine own_start (fun m => (mkF m 0 #[.val (.ref a1c)] [])) (plainFor_of_name pn_com_example_nearterm_nearterm_retrieval_HighestScores) (by simp [entryFrame, mkF, argsToLocals, Value.category]) n0 ?_
 intro p e s m below meth c s₁ Bd hx B hml hZ hown hnm X0 e0 N0
 refine GoW.sg (mkF m 1 #[.val (.ref a1c)] [(.ref a1c)]) (fun t k => XS.aloadN X0.here hx rfl (B d3_0) rfl rfl k) ?_
 obtain ⟨T1215, X1215, e1215, st1215⟩ := getF X0 hx hZ hown (host := "") (Or.inl (ww hw 18 rfl)) Via.refl e0 P1 (g := (mkF m 1 #[.val (.ref a1c)] [(.ref a1c)])) rfl rfl (B d3_1)
 refine GoW.sg (mkF m 4 #[.val (.ref a1c)] [(.int 4)]) (fun t k => st1215 t k) ?_
 refine GoW.sg (mkF m 5 #[.val (.ref a1c)] [(.ref a1c), (.int 4)]) (fun t k => XS.aloadN X1215.here hx rfl (B d3_4) rfl rfl k) ?_
 obtain ⟨T1216, X1216, e1216, st1216⟩ := getF X1215 hx hZ hown (host := "") (Or.inl (ww hw 11 rfl)) Via.refl e1215 P0 (g := (mkF m 5 #[.val (.ref a1c)] [(.ref a1c), (.int 4)])) rfl rfl (B d3_5)
 refine GoW.sg (mkF m 8 #[.val (.ref a1c)] [(.ref a2c), (.int 4)]) (fun t k => st1216 t k) ?_
 obtain ⟨cl1217, Ar1217, q1217, Sz1217, Nn1217, Hh1217, Gg1217⟩ := id P2
 have st1217 := X1216.arraylength hx (hq_ e1216 Ar1217.1) (State.isArrayOf_alike hZ.alike Ar1217.2.1) (g := (mkF m 8 #[.val (.ref a1c)] [(.ref a2c), (.int 4)])) rfl rfl (B d3_8)
 rw [len_of Sz1217 Nn1217] at st1217
 refine GoW.sg (mkF m 9 #[.val (.ref a1c)] [(.int 4), (.int 4)]) (fun t k => st1217 t k) ?_
 refine GoW.sg (mkF m 19 #[.val (.ref a1c)] [(.ref a1c)]) (fun t k => XS.icmpYes X1216.here hx rfl (pc0 := 9) (pc' := 18) rfl (B d3_9) rfl (by decide) (by decide) (by decide) (XS.aloadN X1216.here hx rfl (B d3_18) rfl rfl k)) ?_
 obtain ⟨T1218, X1218, e1218, st1218⟩ := getF X1216 hx hZ hown (host := "") (Or.inl (ww hw 11 rfl)) Via.refl e1216 P0 (g := (mkF m 19 #[.val (.ref a1c)] [(.ref a1c)])) rfl rfl (B d3_19)
 refine GoW.sg (mkF m 22 #[.val (.ref a1c)] [(.ref a2c)]) (fun t k => st1218 t k) ?_
 refine GoW.sg (mkF m 23 #[.val (.ref a1c)] [(.int 0), (.ref a2c)]) (fun t k => XS.iconst X1218.here hx rfl (B d3_22) k) ?_
 obtain ⟨cl1219, Ar1219, q1219, Sz1219, Nn1219, Hh1219, Gg1219⟩ := id P2
 have hin1219 : ¬ ((0 : Int32) < 0 ∨ cl1219.slots.size ≤ ((0 : Int32)).toNatClampNeg) := inb_of Sz1219 ⟨by decide, by decide⟩
 refine GoW.sg (mkF m 24 #[.val (.ref a1c)] [(.double x1c)]) (fun t k => X1218.daload hx (j := (0 : Int32)) (v := (.double x1c)) (hq_ e1218 Ar1219.1) (State.isArrayOf_alike hZ.alike Ar1219.2.1) Ar1219.2.2 hin1219 (Hh1219.at hin1219 rfl) (g := (mkF m 23 #[.val (.ref a1c)] [(.int 0), (.ref a2c)])) rfl rfl (B d3_23) t k) ?_
 refine GoW.retD X1218 hx Bd.returns (B d3_24) Bd.notSynchronized ?_ (by decide) (by decide)
 rw [e1218]
 exact ⟨rfl, N0, rfl⟩
theorem ef0_rm0 (m : MethodId) (q1 : Int32) (q2 : Int32) (q3 : Int32) (q4 : Int32) (q5 : Int32) (q6 : Int32) : entryFrame m #[(.int q1), (.int q2), (.int q3), (.int q4), (.int q5), (.int q6)] maxLocals = (mkF m 0 #[.val (.int q1), .val (.int q2), .val (.int q3), .val (.int q4), .val (.int q5), .val (.int q6), .unset, .unset, .unset, .unset, .unset, .unset, .unset, .unset, .unset, .unset, .unset, .unset, .unset, .unset, .unset, .unset, .unset, .unset, .unset] []) := by first | (simp [entryFrame, mkF, argsToLocals, Value.category, maxLocals]; done) | rfl
theorem rm0 (l : Launch) (Z : State) (a0 : Array Value) (hw : ∀ d ∈ tables_1, d.before a0 Z = true) (ws : List Jvm.Cond) (q1 q2 : Int32) (q3 q4 : Int32) (q5 q6 : Int32) (h0 : Heap) (n0 : Nat) (Z0 : n0 ≤ h0.size) :
    MetFree l x (head1 (Jvm.Cond.code x code maxLocals ret :: ws) room_1) (fun a U => a = #[(.int q1), (.int q2), (.int q3), (.int q4), (.int q5), (.int q6)] ∧ Z.Warmed39 U.vm ∧ U.heap = h0) (fun _ _ _ _ _ => True) (fun _ U o U' => ∃ v L, o = .returned v ∧ (ValQ (.int (1 : Int32)) n0) v U'.heap L ∧ FrameEnd U o U' L room_1.cells room_1.slots) := by
 refine MetFree.of_bodySF (plainFor_of_name pn_com_example_nearterm_nearterm_retrieval_HighestScoresLowestPinLaw) hisR ?_
 intro p e s m args below meth c s₁ Bd hml0 hP hK
 obtain ⟨rfl, hZ, hh⟩ := hP
 have hx := Bd.exec
 have B : ∀ {pc : Nat} {r : Except ClassFile.DecodeError (ClassFile.Instr × Nat)}, ClassFile.decode code pc = r → ClassFile.decode c.code pc = r := fun h => hb Bd.bytes h
 have hml : c.maxLocals = 25 := hml0
 have hown : s.vm.findClass "com/example/nearterm/nearterm/retrieval/HighestScoresLowestPinLaw" = some m.cls := findClass_of_methodNamed Bd.named
 have hnm := (name_of_methodNamed Bd.named Bd.method).1
 have X0 : Stand p l e room_1 s m #[(.int q1), (.int q2), (.int q3), (.int q4), (.int q5), (.int q6)] below meth c s₁ [] 0 0 := Stand.of_body Bd
 have e0 : s₁.heap = h0 := by rw [← hh, Bd.state]; rfl
 have N0 := Fr.nil n0
 refine GoW.mk ?_
 refine GoW.st (fun t k => castTop (ef0_rm0 m q1 q2 q3 q4 q5 q6) k) ?_
 show GoW p e below s (ValQ (.int (1 : Int32)) n0) room_1.cells room_1.slots (s₁.setTop (mkF m 0 (Sh8 q1 q2 q3 q4 q5 q6) []))
 refine GoW.sg (mkF m 7 (Sh9 q1 q2 q3 q4 q5 q6 ((1 : Int32) + (q1 &&& (3 : Int32)))) []) (fun t k => XS.iconst X0.here hx rfl (B at_0) (XS.iloadN X0.here hx rfl (B at_1) rfl (XS.iconst X0.here hx rfl (B at_2) (XS.iand X0.here hx rfl (B at_3) rfl (XS.iadd X0.here hx rfl (B at_4) rfl (XS.istore X0.here hx rfl (B at_5) rfl (l' := (Sh9 q1 q2 q3 q4 q5 q6 ((1 : Int32) + (q1 &&& (3 : Int32))))) rfl k)))))) ?_
 rcases own_k4 q1 with vv | vv | vv | vv
 ·rw [vv]
  show GoW p e below s (ValQ (.int (1 : Int32)) n0) room_1.cells room_1.slots (s₁.setTop (mkF m 7 (Sh9 q1 q2 q3 q4 q5 q6 1) []))
  refine GoW.sg (mkF m 10 (Sh9 q1 q2 q3 q4 q5 q6 1) [(.int (q1.toUInt32 >>> ((2 : Int32) &&& 31).toUInt32).toInt32)]) (fun t k => XS.iloadN X0.here hx rfl (B at_7) rfl (XS.iconst X0.here hx rfl (B at_8) (XS.iushr X0.here hx rfl (B at_9) rfl k))) ?_
  have J : ∀ (Tj : State) (Lj : List Loc) (hj : Heap) (nn : Int32) (mi va vb vc vd ve : Int64) (bb : Addr) (f0 : UInt64) (w0 : Int32), Stand p l e room_1 s m #[(.int q1), (.int q2), (.int q3), (.int q4), (.int q5), (.int q6)] below meth c Tj Lj 2 3 → Tj.heap = hj → Fr n0 Lj → f0 = FP.l2d (Int32.toInt64 w0) → (∀ r1 r2 r3 r4 r5 : Int64, r1 = (F6 mi va (1 : Int32) va vb vc vd ve) → r2 = (F6 r1 vb (1 : Int32) va vb vc vd ve) → r3 = (F6 r2 vc (1 : Int32) va vb vc vd ve) → r4 = (F6 r3 vd (1 : Int32) va vb vc vd ve) → r5 = (F6 r4 ve (1 : Int32) va vb vc vd ve) → r5 = (Int32.toInt64 w0)) → GoW p e below s (ValQ (.int (1 : Int32)) n0) room_1.cells room_1.slots (Tj.setTop (mkF m 205 (Sh10 q1 q2 q3 q4 q5 q6 1 nn mi va vb vc vd ve bb f0) [])) := by
   intro Tj Lj hj nn mi va vb vc vd ve bb f0 w0 Xj ej Nj hf0 hF
   refine GoW.sg (mkF m 221 (Sh11 q1 q2 q3 q4 q5 q6 1 nn mi va vb vc vd ve bb f0 mi) [(.long vc), (.long vb), (.long va), (.int 1), (.long va), (.long mi)]) (fun t k => XS.lload Xj.here hx rfl (B at_205) rfl (XS.lstore Xj.here hx rfl (B at_207) rfl (l' := (Sh11 q1 q2 q3 q4 q5 q6 1 nn mi va vb vc vd ve bb f0 mi)) rfl (XS.lload Xj.here hx rfl (B at_209) rfl (XS.lload Xj.here hx rfl (B at_211) rfl (XS.iload Xj.here hx rfl (B at_213) rfl (XS.lload Xj.here hx rfl (B at_215) rfl (XS.lload Xj.here hx rfl (B at_217) rfl (XS.lload Xj.here hx rfl (B at_219) rfl k)))))))) ?_
   refine GoW.sg (mkF m 225 (Sh11 q1 q2 q3 q4 q5 q6 1 nn mi va vb vc vd ve bb f0 mi) [(.long ve), (.long vd), (.long vc), (.long vb), (.long va), (.int 1), (.long va), (.long mi)]) (fun t k => XS.lload Xj.here hx rfl (B at_221) rfl (XS.lload Xj.here hx rfl (B at_223) rfl k)) ?_
   obtain ⟨_, T894, L894, X894, hQ894, st894⟩ := own_callS Xj hx hZ hown (y := Y6) (ww hw 31 rfl) (ww hw 32 rfl) (ww hw 33 rfl) (ww hw 34 rfl) (by decide) 0 (rm6 l Z a0 hw mi va (1 : Int32) va vb vc vd ve hj n0) (by decide) (by decide) ej (by decide) (by decide) (g := (mkF m 225 (Sh11 q1 q2 q3 q4 q5 q6 1 nn mi va vb vc vd ve bb f0 mi) [(.long ve), (.long vd), (.long vc), (.long vb), (.long va), (.int 1), (.long va), (.long mi)])) rfl (by rw [hml]; rfl) (argsL := [(.long mi), (.long va), (.int (1 : Int32)), (.long va), (.long vb), (.long vc), (.long vd), (.long ve)]) (rest := []) (lenOf pd_28JJIJJJJJ29J rfl) rfl (Nat.le_of_eq rfl) (B at_225)
   obtain ⟨rfl, N894q, e894⟩ := hQ894
   have N894 := Fr.app Nj N894q
   refine GoW.sg (mkF m 228 (Sh11 q1 q2 q3 q4 q5 q6 1 nn mi va vb vc vd ve bb f0 mi) [(.long (F6 mi va (1 : Int32) va vb vc vd ve))]) (fun t k => st894 t k) ?_
   refine GoW.sg (mkF m 230 (Sh11 q1 q2 q3 q4 q5 q6 1 nn mi va vb vc vd ve bb f0 (F6 mi va (1 : Int32) va vb vc vd ve)) []) (fun t k => XS.lstore X894.here hx rfl (B at_228) rfl (l' := (Sh11 q1 q2 q3 q4 q5 q6 1 nn mi va vb vc vd ve bb f0 (F6 mi va (1 : Int32) va vb vc vd ve))) rfl k) ?_
   obtain ⟨r1, hr1⟩ : ∃ z : Int64, z = (F6 mi va (1 : Int32) va vb vc vd ve) := ⟨_, rfl⟩
   rw [← hr1]
   show GoW p e below s (ValQ (.int (1 : Int32)) n0) room_1.cells room_1.slots (T894.setTop (mkF m 230 (Sh11 q1 q2 q3 q4 q5 q6 1 nn mi va vb vc vd ve bb f0 r1) []))
   refine GoW.sg (mkF m 246 (Sh11 q1 q2 q3 q4 q5 q6 1 nn mi va vb vc vd ve bb f0 r1) [(.long ve), (.long vd), (.long vc), (.long vb), (.long va), (.int 1), (.long vb), (.long r1)]) (fun t k => XS.lload X894.here hx rfl (B at_230) rfl (XS.lload X894.here hx rfl (B at_232) rfl (XS.iload X894.here hx rfl (B at_234) rfl (XS.lload X894.here hx rfl (B at_236) rfl (XS.lload X894.here hx rfl (B at_238) rfl (XS.lload X894.here hx rfl (B at_240) rfl (XS.lload X894.here hx rfl (B at_242) rfl (XS.lload X894.here hx rfl (B at_244) rfl k)))))))) ?_
   obtain ⟨_, T895, L895, X895, hQ895, st895⟩ := own_callS X894 hx hZ hown (y := Y6) (ww hw 31 rfl) (ww hw 32 rfl) (ww hw 33 rfl) (ww hw 34 rfl) (by decide) 0 (rm6 l Z a0 hw r1 vb (1 : Int32) va vb vc vd ve hj n0) (by decide) (by decide) e894 (by decide) (by decide) (g := (mkF m 246 (Sh11 q1 q2 q3 q4 q5 q6 1 nn mi va vb vc vd ve bb f0 r1) [(.long ve), (.long vd), (.long vc), (.long vb), (.long va), (.int 1), (.long vb), (.long r1)])) rfl (by rw [hml]; rfl) (argsL := [(.long r1), (.long vb), (.int (1 : Int32)), (.long va), (.long vb), (.long vc), (.long vd), (.long ve)]) (rest := []) (lenOf pd_28JJIJJJJJ29J rfl) rfl (Nat.le_of_eq rfl) (B at_246)
   obtain ⟨rfl, N895q, e895⟩ := hQ895
   have N895 := Fr.app N894 N895q
   refine GoW.sg (mkF m 249 (Sh11 q1 q2 q3 q4 q5 q6 1 nn mi va vb vc vd ve bb f0 r1) [(.long (F6 r1 vb (1 : Int32) va vb vc vd ve))]) (fun t k => st895 t k) ?_
   refine GoW.sg (mkF m 251 (Sh11 q1 q2 q3 q4 q5 q6 1 nn mi va vb vc vd ve bb f0 (F6 r1 vb (1 : Int32) va vb vc vd ve)) []) (fun t k => XS.lstore X895.here hx rfl (B at_249) rfl (l' := (Sh11 q1 q2 q3 q4 q5 q6 1 nn mi va vb vc vd ve bb f0 (F6 r1 vb (1 : Int32) va vb vc vd ve))) rfl k) ?_
   obtain ⟨r2, hr2⟩ : ∃ z : Int64, z = (F6 r1 vb (1 : Int32) va vb vc vd ve) := ⟨_, rfl⟩
   rw [← hr2]
   show GoW p e below s (ValQ (.int (1 : Int32)) n0) room_1.cells room_1.slots (T895.setTop (mkF m 251 (Sh11 q1 q2 q3 q4 q5 q6 1 nn mi va vb vc vd ve bb f0 r2) []))
   refine GoW.sg (mkF m 267 (Sh11 q1 q2 q3 q4 q5 q6 1 nn mi va vb vc vd ve bb f0 r2) [(.long ve), (.long vd), (.long vc), (.long vb), (.long va), (.int 1), (.long vc), (.long r2)]) (fun t k => XS.lload X895.here hx rfl (B at_251) rfl (XS.lload X895.here hx rfl (B at_253) rfl (XS.iload X895.here hx rfl (B at_255) rfl (XS.lload X895.here hx rfl (B at_257) rfl (XS.lload X895.here hx rfl (B at_259) rfl (XS.lload X895.here hx rfl (B at_261) rfl (XS.lload X895.here hx rfl (B at_263) rfl (XS.lload X895.here hx rfl (B at_265) rfl k)))))))) ?_
   obtain ⟨_, T896, L896, X896, hQ896, st896⟩ := own_callS X895 hx hZ hown (y := Y6) (ww hw 31 rfl) (ww hw 32 rfl) (ww hw 33 rfl) (ww hw 34 rfl) (by decide) 0 (rm6 l Z a0 hw r2 vc (1 : Int32) va vb vc vd ve hj n0) (by decide) (by decide) e895 (by decide) (by decide) (g := (mkF m 267 (Sh11 q1 q2 q3 q4 q5 q6 1 nn mi va vb vc vd ve bb f0 r2) [(.long ve), (.long vd), (.long vc), (.long vb), (.long va), (.int 1), (.long vc), (.long r2)])) rfl (by rw [hml]; rfl) (argsL := [(.long r2), (.long vc), (.int (1 : Int32)), (.long va), (.long vb), (.long vc), (.long vd), (.long ve)]) (rest := []) (lenOf pd_28JJIJJJJJ29J rfl) rfl (Nat.le_of_eq rfl) (B at_267)
   obtain ⟨rfl, N896q, e896⟩ := hQ896
   have N896 := Fr.app N895 N896q
   refine GoW.sg (mkF m 270 (Sh11 q1 q2 q3 q4 q5 q6 1 nn mi va vb vc vd ve bb f0 r2) [(.long (F6 r2 vc (1 : Int32) va vb vc vd ve))]) (fun t k => st896 t k) ?_
   refine GoW.sg (mkF m 272 (Sh11 q1 q2 q3 q4 q5 q6 1 nn mi va vb vc vd ve bb f0 (F6 r2 vc (1 : Int32) va vb vc vd ve)) []) (fun t k => XS.lstore X896.here hx rfl (B at_270) rfl (l' := (Sh11 q1 q2 q3 q4 q5 q6 1 nn mi va vb vc vd ve bb f0 (F6 r2 vc (1 : Int32) va vb vc vd ve))) rfl k) ?_
   obtain ⟨r3, hr3⟩ : ∃ z : Int64, z = (F6 r2 vc (1 : Int32) va vb vc vd ve) := ⟨_, rfl⟩
   rw [← hr3]
   show GoW p e below s (ValQ (.int (1 : Int32)) n0) room_1.cells room_1.slots (T896.setTop (mkF m 272 (Sh11 q1 q2 q3 q4 q5 q6 1 nn mi va vb vc vd ve bb f0 r3) []))
   refine GoW.sg (mkF m 288 (Sh11 q1 q2 q3 q4 q5 q6 1 nn mi va vb vc vd ve bb f0 r3) [(.long ve), (.long vd), (.long vc), (.long vb), (.long va), (.int 1), (.long vd), (.long r3)]) (fun t k => XS.lload X896.here hx rfl (B at_272) rfl (XS.lload X896.here hx rfl (B at_274) rfl (XS.iload X896.here hx rfl (B at_276) rfl (XS.lload X896.here hx rfl (B at_278) rfl (XS.lload X896.here hx rfl (B at_280) rfl (XS.lload X896.here hx rfl (B at_282) rfl (XS.lload X896.here hx rfl (B at_284) rfl (XS.lload X896.here hx rfl (B at_286) rfl k)))))))) ?_
   obtain ⟨_, T897, L897, X897, hQ897, st897⟩ := own_callS X896 hx hZ hown (y := Y6) (ww hw 31 rfl) (ww hw 32 rfl) (ww hw 33 rfl) (ww hw 34 rfl) (by decide) 0 (rm6 l Z a0 hw r3 vd (1 : Int32) va vb vc vd ve hj n0) (by decide) (by decide) e896 (by decide) (by decide) (g := (mkF m 288 (Sh11 q1 q2 q3 q4 q5 q6 1 nn mi va vb vc vd ve bb f0 r3) [(.long ve), (.long vd), (.long vc), (.long vb), (.long va), (.int 1), (.long vd), (.long r3)])) rfl (by rw [hml]; rfl) (argsL := [(.long r3), (.long vd), (.int (1 : Int32)), (.long va), (.long vb), (.long vc), (.long vd), (.long ve)]) (rest := []) (lenOf pd_28JJIJJJJJ29J rfl) rfl (Nat.le_of_eq rfl) (B at_288)
   obtain ⟨rfl, N897q, e897⟩ := hQ897
   have N897 := Fr.app N896 N897q
   refine GoW.sg (mkF m 291 (Sh11 q1 q2 q3 q4 q5 q6 1 nn mi va vb vc vd ve bb f0 r3) [(.long (F6 r3 vd (1 : Int32) va vb vc vd ve))]) (fun t k => st897 t k) ?_
   refine GoW.sg (mkF m 293 (Sh11 q1 q2 q3 q4 q5 q6 1 nn mi va vb vc vd ve bb f0 (F6 r3 vd (1 : Int32) va vb vc vd ve)) []) (fun t k => XS.lstore X897.here hx rfl (B at_291) rfl (l' := (Sh11 q1 q2 q3 q4 q5 q6 1 nn mi va vb vc vd ve bb f0 (F6 r3 vd (1 : Int32) va vb vc vd ve))) rfl k) ?_
   obtain ⟨r4, hr4⟩ : ∃ z : Int64, z = (F6 r3 vd (1 : Int32) va vb vc vd ve) := ⟨_, rfl⟩
   rw [← hr4]
   show GoW p e below s (ValQ (.int (1 : Int32)) n0) room_1.cells room_1.slots (T897.setTop (mkF m 293 (Sh11 q1 q2 q3 q4 q5 q6 1 nn mi va vb vc vd ve bb f0 r4) []))
   refine GoW.sg (mkF m 309 (Sh11 q1 q2 q3 q4 q5 q6 1 nn mi va vb vc vd ve bb f0 r4) [(.long ve), (.long vd), (.long vc), (.long vb), (.long va), (.int 1), (.long ve), (.long r4)]) (fun t k => XS.lload X897.here hx rfl (B at_293) rfl (XS.lload X897.here hx rfl (B at_295) rfl (XS.iload X897.here hx rfl (B at_297) rfl (XS.lload X897.here hx rfl (B at_299) rfl (XS.lload X897.here hx rfl (B at_301) rfl (XS.lload X897.here hx rfl (B at_303) rfl (XS.lload X897.here hx rfl (B at_305) rfl (XS.lload X897.here hx rfl (B at_307) rfl k)))))))) ?_
   obtain ⟨_, T898, L898, X898, hQ898, st898⟩ := own_callS X897 hx hZ hown (y := Y6) (ww hw 31 rfl) (ww hw 32 rfl) (ww hw 33 rfl) (ww hw 34 rfl) (by decide) 0 (rm6 l Z a0 hw r4 ve (1 : Int32) va vb vc vd ve hj n0) (by decide) (by decide) e897 (by decide) (by decide) (g := (mkF m 309 (Sh11 q1 q2 q3 q4 q5 q6 1 nn mi va vb vc vd ve bb f0 r4) [(.long ve), (.long vd), (.long vc), (.long vb), (.long va), (.int 1), (.long ve), (.long r4)])) rfl (by rw [hml]; rfl) (argsL := [(.long r4), (.long ve), (.int (1 : Int32)), (.long va), (.long vb), (.long vc), (.long vd), (.long ve)]) (rest := []) (lenOf pd_28JJIJJJJJ29J rfl) rfl (Nat.le_of_eq rfl) (B at_309)
   obtain ⟨rfl, N898q, e898⟩ := hQ898
   have N898 := Fr.app N897 N898q
   refine GoW.sg (mkF m 312 (Sh11 q1 q2 q3 q4 q5 q6 1 nn mi va vb vc vd ve bb f0 r4) [(.long (F6 r4 ve (1 : Int32) va vb vc vd ve))]) (fun t k => st898 t k) ?_
   refine GoW.sg (mkF m 314 (Sh11 q1 q2 q3 q4 q5 q6 1 nn mi va vb vc vd ve bb f0 (F6 r4 ve (1 : Int32) va vb vc vd ve)) []) (fun t k => XS.lstore X898.here hx rfl (B at_312) rfl (l' := (Sh11 q1 q2 q3 q4 q5 q6 1 nn mi va vb vc vd ve bb f0 (F6 r4 ve (1 : Int32) va vb vc vd ve))) rfl k) ?_
   obtain ⟨r5, hr5⟩ : ∃ z : Int64, z = (F6 r4 ve (1 : Int32) va vb vc vd ve) := ⟨_, rfl⟩
   rw [← hr5]
   show GoW p e below s (ValQ (.int (1 : Int32)) n0) room_1.cells room_1.slots (T898.setTop (mkF m 314 (Sh11 q1 q2 q3 q4 q5 q6 1 nn mi va vb vc vd ve bb f0 r5) []))
   refine GoW.sg (mkF m 318 (Sh11 q1 q2 q3 q4 q5 q6 1 nn mi va vb vc vd ve bb f0 r5) [(.long r5), (.double f0)]) (fun t k => XS.dload X898.here hx rfl (B at_314) rfl (XS.lload X898.here hx rfl (B at_316) rfl k)) ?_
   have hfin := hF r1 r2 r3 r4 r5 hr1 hr2 hr3 hr4 hr5
   obtain ⟨d899, hd899⟩ : ∃ d : UInt64, d = FP.l2d r5 := ⟨_, rfl⟩
   refine GoW.sg (mkF m 328 (Sh11 q1 q2 q3 q4 q5 q6 1 nn mi va vb vc vd ve bb f0 r5) [(.int 1)]) (fun t k => XS.l2dS X898.here hx rfl (B at_318) rfl (v := d899) hd899.symm (XS.dcmpS X898.here hx rfl (B at_319) rfl (v := (0 : Int32)) (by rw [hf0, hd899, hfin, dcmpV_w (own_b53 _) (own_b53 _)]; exact own_lc _) (XS.ifNo X898.here hx rfl (B at_320) rfl (by decide) (XS.iconst X898.here hx rfl (B at_323) (XS.goto X898.here hx rfl (pc0 := 324) (pc' := 328) rfl (B at_324) (by decide) (by decide) k))))) ?_
   refine GoW.retN X898 hx (t := .boolean) Bd.returns (by simp) (B at_328) Bd.notSynchronized ?_ (by decide) (by decide)
   exact ⟨rfl, N898⟩
  refine GoW.sg (mkF m 15 (Sh9 q1 q2 q3 q4 q5 q6 1) [(.int 6), (.int ((q1.toUInt32 >>> ((2 : Int32) &&& 31).toUInt32).toInt32 &&& (7 : Int32)))]) (fun t k => XS.bipush X0.here hx rfl (B at_10) (XS.iand X0.here hx rfl (B at_12) rfl (XS.bipush X0.here hx rfl (B at_13) k))) ?_
  refine GoW.sg (mkF m 16 (Sh9 q1 q2 q3 q4 q5 q6 1) [(.int (((q1.toUInt32 >>> ((2 : Int32) &&& 31).toUInt32).toInt32 &&& (7 : Int32)) % (6 : Int32)))]) (fun t k => iremM X0 hx rfl (B at_15) rfl (by decide) k) ?_
  refine GoW.sg (mkF m 18 (Sh12 q1 q2 q3 q4 q5 q6 1 (((q1.toUInt32 >>> ((2 : Int32) &&& 31).toUInt32).toInt32 &&& (7 : Int32)) % (6 : Int32))) []) (fun t k => XS.istore X0.here hx rfl (B at_16) rfl (l' := (Sh12 q1 q2 q3 q4 q5 q6 1 (((q1.toUInt32 >>> ((2 : Int32) &&& 31).toUInt32).toInt32 &&& (7 : Int32)) % (6 : Int32)))) rfl k) ?_
  rcases own_n6 (q1.toUInt32 >>> ((2 : Int32) &&& 31).toUInt32).toInt32 with vv | vv | vv | vv | vv | vv
  ·rw [vv]
   show GoW p e below s (ValQ (.int (1 : Int32)) n0) room_1.cells room_1.slots (s₁.setTop (mkF m 18 (Sh12 q1 q2 q3 q4 q5 q6 1 0) []))
   refine GoW.sg (mkF m 21 (Sh12 q1 q2 q3 q4 q5 q6 1 0) [(.long (-9223372036854775808))]) (fun t k => X0.ldc2Long hx hown (mvT hZ (ww hw 0 rfl)) (g := (mkF m 18 (Sh12 q1 q2 q3 q4 q5 q6 1 0) [])) rfl (B at_18) t k) ?_
   refine GoW.sg (mkF m 48 (Sh14 q1 q2 q3 q4 q5 q6 1 0 (-9223372036854775808) (-9223372036854775808)) []) (fun t k => XS.lstore X0.here hx rfl (B at_21) rfl (l' := (Sh13 q1 q2 q3 q4 q5 q6 1 0 (-9223372036854775808))) rfl (XS.iload X0.here hx rfl (B at_23) rfl (XS.ifYes X0.here hx rfl (pc0 := 25) (pc' := 33) rfl (B at_25) rfl (by decide) (by decide) (by decide) (XS.lload X0.here hx rfl (B at_33) rfl (XS.lstore X0.here hx rfl (B at_35) rfl (l' := (Sh14 q1 q2 q3 q4 q5 q6 1 0 (-9223372036854775808) (-9223372036854775808))) rfl (XS.iload X0.here hx rfl (B at_37) rfl (XS.iconst X0.here hx rfl (B at_39) (XS.icmpYes X0.here hx rfl (pc0 := 40) (pc' := 48) rfl (B at_40) rfl (by decide) (by decide) (by decide) k)))))))) ?_
   refine GoW.sg (mkF m 69 (Sh16 q1 q2 q3 q4 q5 q6 1 0 (-9223372036854775808) (-9223372036854775808) (-9223372036854775808) (-9223372036854775808)) [(.int 0)]) (fun t k => XS.lload X0.here hx rfl (B at_48) rfl (XS.lstore X0.here hx rfl (B at_50) rfl (l' := (Sh15 q1 q2 q3 q4 q5 q6 1 0 (-9223372036854775808) (-9223372036854775808) (-9223372036854775808))) rfl (XS.iload X0.here hx rfl (B at_52) rfl (XS.iconst X0.here hx rfl (B at_54) (XS.icmpYes X0.here hx rfl (pc0 := 55) (pc' := 63) rfl (B at_55) rfl (by decide) (by decide) (by decide) (XS.lload X0.here hx rfl (B at_63) rfl (XS.lstore X0.here hx rfl (B at_65) rfl (l' := (Sh16 q1 q2 q3 q4 q5 q6 1 0 (-9223372036854775808) (-9223372036854775808) (-9223372036854775808) (-9223372036854775808))) rfl (XS.iload X0.here hx rfl (B at_67) rfl k)))))))) ?_
   refine GoW.sg (mkF m 97 (Sh17 q1 q2 q3 q4 q5 q6 1 0 (-9223372036854775808) (-9223372036854775808) (-9223372036854775808) (-9223372036854775808) (-9223372036854775808)) [(.long (-9223372036854775808))]) (fun t k => XS.iconst X0.here hx rfl (B at_69) (XS.icmpYes X0.here hx rfl (pc0 := 70) (pc' := 79) rfl (B at_70) rfl (by decide) (by decide) (by decide) (XS.lload X0.here hx rfl (B at_79) rfl (XS.lstore X0.here hx rfl (B at_81) rfl (l' := (Sh17 q1 q2 q3 q4 q5 q6 1 0 (-9223372036854775808) (-9223372036854775808) (-9223372036854775808) (-9223372036854775808) (-9223372036854775808))) rfl (XS.iload X0.here hx rfl (B at_83) rfl (XS.iconst X0.here hx rfl (B at_85) (XS.icmpYes X0.here hx rfl (pc0 := 86) (pc' := 95) rfl (B at_86) rfl (by decide) (by decide) (by decide) (XS.lload X0.here hx rfl (B at_95) rfl k)))))))) ?_
   refine GoW.sg (mkF m 99 (Sh18 q1 q2 q3 q4 q5 q6 1 0 (-9223372036854775808) (-9223372036854775808) (-9223372036854775808) (-9223372036854775808) (-9223372036854775808) (-9223372036854775808)) []) (fun t k => XS.lstore X0.here hx rfl (B at_97) rfl (l' := (Sh18 q1 q2 q3 q4 q5 q6 1 0 (-9223372036854775808) (-9223372036854775808) (-9223372036854775808) (-9223372036854775808) (-9223372036854775808) (-9223372036854775808))) rfl k) ?_
   obtain ⟨va, hva⟩ : ∃ z : Int64, z = (-9223372036854775808 : Int64) := ⟨_, rfl⟩
   obtain ⟨vb, hvb⟩ : ∃ z : Int64, z = (-9223372036854775808 : Int64) := ⟨_, rfl⟩
   obtain ⟨vc, hvc⟩ : ∃ z : Int64, z = (-9223372036854775808 : Int64) := ⟨_, rfl⟩
   obtain ⟨vd, hvd⟩ : ∃ z : Int64, z = (-9223372036854775808 : Int64) := ⟨_, rfl⟩
   obtain ⟨ve, hve⟩ : ∃ z : Int64, z = (-9223372036854775808 : Int64) := ⟨_, rfl⟩
   obtain ⟨mi, hmi⟩ : ∃ z : Int64, z = (-9223372036854775808 : Int64) := ⟨_, rfl⟩
   refine GoW.st (fun t k => by rw [hva, hvb, hvc, hvd, hve, hmi] at k; exact k) ?_ (u := s₁.setTop (mkF m 99 (Sh18 q1 q2 q3 q4 q5 q6 1 0 mi va vb vc vd ve) []))
   show GoW p e below s (ValQ (.int (1 : Int32)) n0) room_1.cells room_1.slots (s₁.setTop (mkF m 99 (Sh18 q1 q2 q3 q4 q5 q6 1 0 mi va vb vc vd ve) []))
   obtain ⟨T900, h900, X900, e900, E900, A900, D900, -, st900⟩ := newO X0 hx hZ hown (ww hw 1 rfl) (ww hw 2 rfl) (ww hw 3 rfl) e0 (g := (mkF m 99 (Sh18 q1 q2 q3 q4 q5 q6 1 0 mi va vb vc vd ve) [])) rfl (B at_99) (by decide) (by decide)
   obtain ⟨b900, g900⟩ : ∃ z, z = h0.size := ⟨_, rfl⟩
   rw [← g900] at A900 D900 st900
   have g_b900 : n0 ≤ b900 := Nat.le_trans Z0 (Nat.le_of_eq g900.symm)
   have f900_1 := Nat.le_trans Z0 E900.1
   have F900heap : Fld Z h900 b900 HSn "heap" "[D" .null := D900 (Or.inr (ww hw 12 rfl)) (ty := (.array .double)) (by decide)
   have F900size : Fld Z h900 b900 HSn "size" "I" (.int (0 : Int32)) := D900 (Or.inl (ww hw 19 rfl)) (ty := .int) (by decide)
   refine GoW.sg (mkF m 102 (Sh18 q1 q2 q3 q4 q5 q6 1 0 mi va vb vc vd ve) [(.ref b900)]) (fun t k => st900 t k) ?_
   refine GoW.sg (mkF m 105 (Sh18 q1 q2 q3 q4 q5 q6 1 0 mi va vb vc vd ve) [(.int 1), (.ref b900), (.ref b900)]) (fun t k => XS.dup X900.here hx rfl (B at_102) rfl rfl (XS.iload X900.here hx rfl (B at_103) rfl k)) ?_
   obtain ⟨_, T907, L907, X907, hQ907, st907⟩ := own_spec X900 hx hZ (y := Y1) rfl hown (ww hw 4 rfl) (ww hw 5 rfl) (ww hw 3 rfl) (ww hw 6 rfl) (by decide) 1 (a := b900) (rm1_30 l Z a0 hw b900 h900 n0 f900_1 A900 F900heap F900size g_b900 ) (by decide) (by decide) e900 (by decide) (by decide) (g := (mkF m 105 (Sh18 q1 q2 q3 q4 q5 q6 1 0 mi va vb vc vd ve) [(.int 1), (.ref b900), (.ref b900)])) rfl (by rw [hml]; rfl) (argsL := [(.int (1 : Int32))]) (rest := [(.ref b900)]) (lenOf pd_28I29V rfl) rfl (Nat.le_of_eq rfl) (B at_105)
   obtain ⟨b907_e0, k907_ke0, rfl, N907q, K907, p907_0, p907_1, p907_2, p907_3, hz_b907_e0⟩ := hQ907
   have N907 := Fr.app N0 N907q
   refine GoW.sg (mkF m 108 (Sh18 q1 q2 q3 q4 q5 q6 1 0 mi va vb vc vd ve) [(.ref b900)]) (fun t k => st907 t k) ?_
   refine GoW.sg (mkF m 138 (Sh19 q1 q2 q3 q4 q5 q6 1 0 mi va vb vc vd ve b900) [(.int 2), (.int 0)]) (fun t k => XS.astore X907.here hx rfl (B at_108) rfl rfl (l' := (Sh19 q1 q2 q3 q4 q5 q6 1 0 mi va vb vc vd ve b900)) rfl (XS.iload X907.here hx rfl (B at_110) rfl (XS.ifYes X907.here hx rfl (pc0 := 112) (pc' := 122) rfl (B at_112) rfl (by decide) (by decide) (by decide) (XS.iload X907.here hx rfl (B at_122) rfl (XS.iconst X907.here hx rfl (B at_124) (XS.icmpYes X907.here hx rfl (pc0 := 125) (pc' := 135) rfl (B at_125) rfl (by decide) (by decide) (by decide) (XS.iload X907.here hx rfl (B at_135) rfl (XS.iconst X907.here hx rfl (B at_137) k)))))))) ?_
   refine GoW.sg (mkF m 178 (Sh19 q1 q2 q3 q4 q5 q6 1 0 mi va vb vc vd ve b900) [(.ref b900)]) (fun t k => XS.icmpYes X907.here hx rfl (pc0 := 138) (pc' := 148) rfl (B at_138) rfl (by decide) (by decide) (by decide) (XS.iload X907.here hx rfl (B at_148) rfl (XS.iconst X907.here hx rfl (B at_150) (XS.icmpYes X907.here hx rfl (pc0 := 151) (pc' := 162) rfl (B at_151) rfl (by decide) (by decide) (by decide) (XS.iload X907.here hx rfl (B at_162) rfl (XS.iconst X907.here hx rfl (B at_164) (XS.icmpYes X907.here hx rfl (pc0 := 165) (pc' := 176) rfl (B at_165) rfl (by decide) (by decide) (by decide) (XS.aload X907.here hx rfl (B at_176) rfl rfl k)))))))) ?_
   obtain ⟨_, T914, L914, X914, hQ914, st914⟩ := own_virt X907 hx hZ (y := Y3) hown (ww hw 13 rfl) (ww hw 14 rfl) (ww hw 16 rfl) (ww hw 15 rfl) (ww hw 17 rfl) (ww hw 3 rfl) (by decide) 0 (a := b900) (rm3_31 l Z a0 hw b900 b907_e0 k907_ke0 T907.heap n0 p907_1 p907_2 p907_3 ) (by decide) (by decide) rfl p907_0 (by decide) (by decide) (g := (mkF m 178 (Sh19 q1 q2 q3 q4 q5 q6 1 0 mi va vb vc vd ve b900) [(.ref b900)])) rfl (by rw [hml]; rfl) (argsL := []) (rest := []) (lenOf pd_2829D rfl) rfl (Nat.le_of_eq rfl) (B at_178)
   obtain ⟨rfl, N914q, e914⟩ := hQ914
   have N914 := Fr.app N907 N914q
   refine GoW.sg (mkF m 181 (Sh19 q1 q2 q3 q4 q5 q6 1 0 mi va vb vc vd ve b900) [(.double 18442240474082181120)]) (fun t k => st914 t k) ?_
   refine GoW.sg (mkF m 192 (Sh10 q1 q2 q3 q4 q5 q6 1 0 mi va vb vc vd ve b900 18442240474082181120) [(.double 18442240474082181120)]) (fun t k => XS.dstore X914.here hx rfl (B at_181) rfl (l' := (Sh10 q1 q2 q3 q4 q5 q6 1 0 mi va vb vc vd ve b900 18442240474082181120)) rfl (XS.iload X914.here hx rfl (B at_183) rfl (XS.iload X914.here hx rfl (B at_185) rfl (XS.icmpNo X914.here hx rfl (B at_187) rfl (by decide) (XS.dload X914.here hx rfl (B at_190) rfl k))))) ?_
   refine GoW.sg (mkF m 195 (Sh10 q1 q2 q3 q4 q5 q6 1 0 mi va vb vc vd ve b900 18442240474082181120) [(.double 18442240474082181120), (.double 18442240474082181120)]) (fun t k => X914.ldc2DoubleC hx hown (mvT hZ (ww hw 21 rfl)) (g := (mkF m 192 (Sh10 q1 q2 q3 q4 q5 q6 1 0 mi va vb vc vd ve b900 18442240474082181120) [(.double 18442240474082181120)])) rfl (B at_192) t k) ?_
   refine GoW.sg (mkF m 204 (Sh10 q1 q2 q3 q4 q5 q6 1 0 mi va vb vc vd ve b900 18442240474082181120) [(.int 1)]) (fun t k => XS.dcmpS X914.here hx rfl (B at_195) rfl (v := (0 : Int32)) (by decide +kernel) (XS.ifNo X914.here hx rfl (B at_196) rfl (by decide) (XS.iconst X914.here hx rfl (B at_199) (XS.goto X914.here hx rfl (pc0 := 200) (pc' := 204) rfl (B at_200) (by decide) (by decide) k)))) ?_
   refine GoW.retN X914 hx (t := .boolean) Bd.returns (by simp) (B at_204) Bd.notSynchronized ?_ (by decide) (by decide)
   exact ⟨rfl, N914⟩
  ·rw [vv]
   show GoW p e below s (ValQ (.int (1 : Int32)) n0) room_1.cells room_1.slots (s₁.setTop (mkF m 18 (Sh12 q1 q2 q3 q4 q5 q6 1 1) []))
   refine GoW.sg (mkF m 21 (Sh12 q1 q2 q3 q4 q5 q6 1 1) [(.long (-9223372036854775808))]) (fun t k => X0.ldc2Long hx hown (mvT hZ (ww hw 0 rfl)) (g := (mkF m 18 (Sh12 q1 q2 q3 q4 q5 q6 1 1) [])) rfl (B at_18) t k) ?_
   refine GoW.sg (mkF m 39 (Sh14 q1 q2 q3 q4 q5 q6 1 1 (-9223372036854775808) (Int32.toInt64 q2)) [(.int 1)]) (fun t k => XS.lstore X0.here hx rfl (B at_21) rfl (l' := (Sh13 q1 q2 q3 q4 q5 q6 1 1 (-9223372036854775808))) rfl (XS.iload X0.here hx rfl (B at_23) rfl (XS.ifNo X0.here hx rfl (B at_25) rfl (by decide) (XS.iloadN X0.here hx rfl (B at_28) rfl (XS.i2l X0.here hx rfl (B at_29) rfl (XS.goto X0.here hx rfl (pc0 := 30) (pc' := 35) rfl (B at_30) (by decide) (by decide) (XS.lstore X0.here hx rfl (B at_35) rfl (l' := (Sh14 q1 q2 q3 q4 q5 q6 1 1 (-9223372036854775808) (Int32.toInt64 q2))) rfl (XS.iload X0.here hx rfl (B at_37) rfl k)))))))) ?_
   refine GoW.sg (mkF m 65 (Sh15 q1 q2 q3 q4 q5 q6 1 1 (-9223372036854775808) (Int32.toInt64 q2) (-9223372036854775808)) [(.long (-9223372036854775808))]) (fun t k => XS.iconst X0.here hx rfl (B at_39) (XS.icmpYes X0.here hx rfl (pc0 := 40) (pc' := 48) rfl (B at_40) rfl (by decide) (by decide) (by decide) (XS.lload X0.here hx rfl (B at_48) rfl (XS.lstore X0.here hx rfl (B at_50) rfl (l' := (Sh15 q1 q2 q3 q4 q5 q6 1 1 (-9223372036854775808) (Int32.toInt64 q2) (-9223372036854775808))) rfl (XS.iload X0.here hx rfl (B at_52) rfl (XS.iconst X0.here hx rfl (B at_54) (XS.icmpYes X0.here hx rfl (pc0 := 55) (pc' := 63) rfl (B at_55) rfl (by decide) (by decide) (by decide) (XS.lload X0.here hx rfl (B at_63) rfl k)))))))) ?_
   refine GoW.sg (mkF m 86 (Sh17 q1 q2 q3 q4 q5 q6 1 1 (-9223372036854775808) (Int32.toInt64 q2) (-9223372036854775808) (-9223372036854775808) (-9223372036854775808)) [(.int 4), (.int 1)]) (fun t k => XS.lstore X0.here hx rfl (B at_65) rfl (l' := (Sh16 q1 q2 q3 q4 q5 q6 1 1 (-9223372036854775808) (Int32.toInt64 q2) (-9223372036854775808) (-9223372036854775808))) rfl (XS.iload X0.here hx rfl (B at_67) rfl (XS.iconst X0.here hx rfl (B at_69) (XS.icmpYes X0.here hx rfl (pc0 := 70) (pc' := 79) rfl (B at_70) rfl (by decide) (by decide) (by decide) (XS.lload X0.here hx rfl (B at_79) rfl (XS.lstore X0.here hx rfl (B at_81) rfl (l' := (Sh17 q1 q2 q3 q4 q5 q6 1 1 (-9223372036854775808) (Int32.toInt64 q2) (-9223372036854775808) (-9223372036854775808) (-9223372036854775808))) rfl (XS.iload X0.here hx rfl (B at_83) rfl (XS.iconst X0.here hx rfl (B at_85) k)))))))) ?_
   refine GoW.sg (mkF m 99 (Sh18 q1 q2 q3 q4 q5 q6 1 1 (-9223372036854775808) (Int32.toInt64 q2) (-9223372036854775808) (-9223372036854775808) (-9223372036854775808) (-9223372036854775808)) []) (fun t k => XS.icmpYes X0.here hx rfl (pc0 := 86) (pc' := 95) rfl (B at_86) rfl (by decide) (by decide) (by decide) (XS.lload X0.here hx rfl (B at_95) rfl (XS.lstore X0.here hx rfl (B at_97) rfl (l' := (Sh18 q1 q2 q3 q4 q5 q6 1 1 (-9223372036854775808) (Int32.toInt64 q2) (-9223372036854775808) (-9223372036854775808) (-9223372036854775808) (-9223372036854775808))) rfl k))) ?_
   obtain ⟨va, hva⟩ : ∃ z : Int64, z = (Int32.toInt64 q2) := ⟨_, rfl⟩
   obtain ⟨vb, hvb⟩ : ∃ z : Int64, z = (-9223372036854775808 : Int64) := ⟨_, rfl⟩
   obtain ⟨vc, hvc⟩ : ∃ z : Int64, z = (-9223372036854775808 : Int64) := ⟨_, rfl⟩
   obtain ⟨vd, hvd⟩ : ∃ z : Int64, z = (-9223372036854775808 : Int64) := ⟨_, rfl⟩
   obtain ⟨ve, hve⟩ : ∃ z : Int64, z = (-9223372036854775808 : Int64) := ⟨_, rfl⟩
   obtain ⟨mi, hmi⟩ : ∃ z : Int64, z = (-9223372036854775808 : Int64) := ⟨_, rfl⟩
   refine GoW.st (fun t k => by rw [hva, hvb, hvc, hvd, hve, hmi] at k; exact k) ?_ (u := s₁.setTop (mkF m 99 (Sh18 q1 q2 q3 q4 q5 q6 1 1 mi va vb vc vd ve) []))
   show GoW p e below s (ValQ (.int (1 : Int32)) n0) room_1.cells room_1.slots (s₁.setTop (mkF m 99 (Sh18 q1 q2 q3 q4 q5 q6 1 1 mi va vb vc vd ve) []))
   obtain ⟨T915, h915, X915, e915, E915, A915, D915, -, st915⟩ := newO X0 hx hZ hown (ww hw 1 rfl) (ww hw 2 rfl) (ww hw 3 rfl) e0 (g := (mkF m 99 (Sh18 q1 q2 q3 q4 q5 q6 1 1 mi va vb vc vd ve) [])) rfl (B at_99) (by decide) (by decide)
   obtain ⟨b915, g915⟩ : ∃ z, z = h0.size := ⟨_, rfl⟩
   rw [← g915] at A915 D915 st915
   have g_b915 : n0 ≤ b915 := Nat.le_trans Z0 (Nat.le_of_eq g915.symm)
   have f915_3 := Nat.le_trans Z0 E915.1
   have F915heap : Fld Z h915 b915 HSn "heap" "[D" .null := D915 (Or.inr (ww hw 12 rfl)) (ty := (.array .double)) (by decide)
   have F915size : Fld Z h915 b915 HSn "size" "I" (.int (0 : Int32)) := D915 (Or.inl (ww hw 19 rfl)) (ty := .int) (by decide)
   refine GoW.sg (mkF m 102 (Sh18 q1 q2 q3 q4 q5 q6 1 1 mi va vb vc vd ve) [(.ref b915)]) (fun t k => st915 t k) ?_
   refine GoW.sg (mkF m 105 (Sh18 q1 q2 q3 q4 q5 q6 1 1 mi va vb vc vd ve) [(.int 1), (.ref b915), (.ref b915)]) (fun t k => XS.dup X915.here hx rfl (B at_102) rfl rfl (XS.iload X915.here hx rfl (B at_103) rfl k)) ?_
   obtain ⟨_, T916, L916, X916, hQ916, st916⟩ := own_spec X915 hx hZ (y := Y1) rfl hown (ww hw 4 rfl) (ww hw 5 rfl) (ww hw 3 rfl) (ww hw 6 rfl) (by decide) 1 (a := b915) (rm1_30 l Z a0 hw b915 h915 n0 f915_3 A915 F915heap F915size g_b915 ) (by decide) (by decide) e915 (by decide) (by decide) (g := (mkF m 105 (Sh18 q1 q2 q3 q4 q5 q6 1 1 mi va vb vc vd ve) [(.int 1), (.ref b915), (.ref b915)])) rfl (by rw [hml]; rfl) (argsL := [(.int (1 : Int32))]) (rest := [(.ref b915)]) (lenOf pd_28I29V rfl) rfl (Nat.le_of_eq rfl) (B at_105)
   obtain ⟨b916_e0, k916_ke0, rfl, N916q, K916, p916_0, p916_1, p916_2, p916_3, hz_b916_e0⟩ := hQ916
   have g_b916_e0 : n0 ≤ b916_e0 := Nat.le_trans f915_3 hz_b916_e0
   have ne_b915_b916_e0 : b915 ≠ b916_e0 := Nat.ne_of_lt (Nat.lt_of_lt_of_le A915.lt hz_b916_e0)
   have N916 := Fr.app N0 N916q
   refine GoW.sg (mkF m 108 (Sh18 q1 q2 q3 q4 q5 q6 1 1 mi va vb vc vd ve) [(.ref b915)]) (fun t k => st916 t k) ?_
   refine GoW.sg (mkF m 118 (Sh19 q1 q2 q3 q4 q5 q6 1 1 mi va vb vc vd ve b915) [(.int q2), (.ref b915)]) (fun t k => XS.astore X916.here hx rfl (B at_108) rfl rfl (l' := (Sh19 q1 q2 q3 q4 q5 q6 1 1 mi va vb vc vd ve b915)) rfl (XS.iload X916.here hx rfl (B at_110) rfl (XS.ifNo X916.here hx rfl (B at_112) rfl (by decide) (XS.aload X916.here hx rfl (B at_115) rfl rfl (XS.iloadN X916.here hx rfl (B at_117) rfl k))))) ?_
   obtain ⟨d917, hd917⟩ : ∃ d : UInt64, d = FP.l2d q2.toInt64 := ⟨_, rfl⟩
   refine GoW.sg (mkF m 119 (Sh19 q1 q2 q3 q4 q5 q6 1 1 mi va vb vc vd ve b915) [(.double d917), (.ref b915)]) (fun t k => XS.i2dS X916.here hx rfl (B at_118) rfl (v := d917) ((i2d_w _).trans hd917.symm) k) ?_
   obtain ⟨_, T918, L918, X918, hQ918, st918⟩ := own_virt X916 hx hZ (y := Y4) hown (ww hw 22 rfl) (ww hw 23 rfl) (ww hw 25 rfl) (ww hw 24 rfl) (ww hw 26 rfl) (ww hw 3 rfl) (by decide) 0 (a := b915) (rmO10 l Z a0 hw b915 d917 q2 b916_e0 k916_ke0 T916.heap n0 p916_0 p916_2 p916_1 p916_3 g_b915 g_b916_e0 ne_b915_b916_e0 hd917 trivial) (by decide) (by decide) rfl p916_0 (by decide) (by decide) (g := (mkF m 119 (Sh19 q1 q2 q3 q4 q5 q6 1 1 mi va vb vc vd ve b915) [(.double d917), (.ref b915)])) rfl (by rw [hml]; rfl) (argsL := [(.double d917)]) (rest := []) (lenOf pd_28D29V rfl) rfl (Nat.le_of_eq rfl) (B at_119)
   obtain ⟨k918_w0, k918_f0, rfl, N918q, K918, p918_0, p918_1, p918_2, p918_3, LQ918⟩ := hQ918
   have N918 := Fr.app N916 N918q
   refine GoW.sg (mkF m 122 (Sh19 q1 q2 q3 q4 q5 q6 1 1 mi va vb vc vd ve b915) []) (fun t k => st918 t k) ?_
   obtain ⟨hf918_0, hH918, hR918⟩ := LQ918
   have A918 : ∀ z : Int, cn z k918_w0 = cn z q2 := fun z => by have _a := hR918 z; have _c := own_cn z q2; omega
   refine GoW.sg (mkF m 151 (Sh19 q1 q2 q3 q4 q5 q6 1 1 mi va vb vc vd ve b915) [(.int 3), (.int 1)]) (fun t k => XS.iload X918.here hx rfl (B at_122) rfl (XS.iconst X918.here hx rfl (B at_124) (XS.icmpYes X918.here hx rfl (pc0 := 125) (pc' := 135) rfl (B at_125) rfl (by decide) (by decide) (by decide) (XS.iload X918.here hx rfl (B at_135) rfl (XS.iconst X918.here hx rfl (B at_137) (XS.icmpYes X918.here hx rfl (pc0 := 138) (pc' := 148) rfl (B at_138) rfl (by decide) (by decide) (by decide) (XS.iload X918.here hx rfl (B at_148) rfl (XS.iconst X918.here hx rfl (B at_150) k)))))))) ?_
   refine GoW.sg (mkF m 178 (Sh19 q1 q2 q3 q4 q5 q6 1 1 mi va vb vc vd ve b915) [(.ref b915)]) (fun t k => XS.icmpYes X918.here hx rfl (pc0 := 151) (pc' := 162) rfl (B at_151) rfl (by decide) (by decide) (by decide) (XS.iload X918.here hx rfl (B at_162) rfl (XS.iconst X918.here hx rfl (B at_164) (XS.icmpYes X918.here hx rfl (pc0 := 165) (pc' := 176) rfl (B at_165) rfl (by decide) (by decide) (by decide) (XS.aload X918.here hx rfl (B at_176) rfl rfl k))))) ?_
   obtain ⟨_, T929, L929, X929, hQ929, st929⟩ := own_virt X918 hx hZ (y := Y3) hown (ww hw 13 rfl) (ww hw 14 rfl) (ww hw 16 rfl) (ww hw 15 rfl) (ww hw 17 rfl) (ww hw 3 rfl) (by decide) 0 (a := b915) (rm3_32 l Z a0 hw b915 b916_e0 k916_ke0 k918_f0 k918_w0 T918.heap n0 p918_2 p918_1 p918_3 hf918_0 ) (by decide) (by decide) rfl p918_0 (by decide) (by decide) (g := (mkF m 178 (Sh19 q1 q2 q3 q4 q5 q6 1 1 mi va vb vc vd ve b915) [(.ref b915)])) rfl (by rw [hml]; rfl) (argsL := []) (rest := []) (lenOf pd_2829D rfl) rfl (Nat.le_of_eq rfl) (B at_178)
   obtain ⟨rfl, N929q, e929⟩ := hQ929
   have N929 := Fr.app N918 N929q
   refine GoW.sg (mkF m 181 (Sh19 q1 q2 q3 q4 q5 q6 1 1 mi va vb vc vd ve b915) [(.double k918_f0)]) (fun t k => st929 t k) ?_
   refine GoW.sg (mkF m 205 (Sh10 q1 q2 q3 q4 q5 q6 1 1 mi va vb vc vd ve b915 k918_f0) []) (fun t k => XS.dstore X929.here hx rfl (B at_181) rfl (l' := (Sh10 q1 q2 q3 q4 q5 q6 1 1 mi va vb vc vd ve b915 k918_f0)) rfl (XS.iload X929.here hx rfl (B at_183) rfl (XS.iload X929.here hx rfl (B at_185) rfl (XS.icmpYes X929.here hx rfl (pc0 := 187) (pc' := 205) rfl (B at_187) rfl (by decide) (by decide) (by decide) k)))) ?_
   exact J _ _ _ _ _ _ _ _ _ _ _ _ k918_w0 X929 e929 N929 hf918_0 (fun r1 r2 r3 r4 r5 h1 h2 h3 h4 h5 => by subst hva hvb hvc hvd hve hmi; exact own_fin11 h1 h2 h3 h4 h5 hH918 A918)
  ·rw [vv]
   show GoW p e below s (ValQ (.int (1 : Int32)) n0) room_1.cells room_1.slots (s₁.setTop (mkF m 18 (Sh12 q1 q2 q3 q4 q5 q6 1 2) []))
   refine GoW.sg (mkF m 21 (Sh12 q1 q2 q3 q4 q5 q6 1 2) [(.long (-9223372036854775808))]) (fun t k => X0.ldc2Long hx hown (mvT hZ (ww hw 0 rfl)) (g := (mkF m 18 (Sh12 q1 q2 q3 q4 q5 q6 1 2) [])) rfl (B at_18) t k) ?_
   refine GoW.sg (mkF m 39 (Sh14 q1 q2 q3 q4 q5 q6 1 2 (-9223372036854775808) (Int32.toInt64 q2)) [(.int 2)]) (fun t k => XS.lstore X0.here hx rfl (B at_21) rfl (l' := (Sh13 q1 q2 q3 q4 q5 q6 1 2 (-9223372036854775808))) rfl (XS.iload X0.here hx rfl (B at_23) rfl (XS.ifNo X0.here hx rfl (B at_25) rfl (by decide) (XS.iloadN X0.here hx rfl (B at_28) rfl (XS.i2l X0.here hx rfl (B at_29) rfl (XS.goto X0.here hx rfl (pc0 := 30) (pc' := 35) rfl (B at_30) (by decide) (by decide) (XS.lstore X0.here hx rfl (B at_35) rfl (l' := (Sh14 q1 q2 q3 q4 q5 q6 1 2 (-9223372036854775808) (Int32.toInt64 q2))) rfl (XS.iload X0.here hx rfl (B at_37) rfl k)))))))) ?_
   refine GoW.sg (mkF m 55 (Sh15 q1 q2 q3 q4 q5 q6 1 2 (-9223372036854775808) (Int32.toInt64 q2) (Int32.toInt64 q3)) [(.int 2), (.int 2)]) (fun t k => XS.iconst X0.here hx rfl (B at_39) (XS.icmpNo X0.here hx rfl (B at_40) rfl (by decide) (XS.iloadN X0.here hx rfl (B at_43) rfl (XS.i2l X0.here hx rfl (B at_44) rfl (XS.goto X0.here hx rfl (pc0 := 45) (pc' := 50) rfl (B at_45) (by decide) (by decide) (XS.lstore X0.here hx rfl (B at_50) rfl (l' := (Sh15 q1 q2 q3 q4 q5 q6 1 2 (-9223372036854775808) (Int32.toInt64 q2) (Int32.toInt64 q3))) rfl (XS.iload X0.here hx rfl (B at_52) rfl (XS.iconst X0.here hx rfl (B at_54) k)))))))) ?_
   refine GoW.sg (mkF m 83 (Sh17 q1 q2 q3 q4 q5 q6 1 2 (-9223372036854775808) (Int32.toInt64 q2) (Int32.toInt64 q3) (-9223372036854775808) (-9223372036854775808)) []) (fun t k => XS.icmpYes X0.here hx rfl (pc0 := 55) (pc' := 63) rfl (B at_55) rfl (by decide) (by decide) (by decide) (XS.lload X0.here hx rfl (B at_63) rfl (XS.lstore X0.here hx rfl (B at_65) rfl (l' := (Sh16 q1 q2 q3 q4 q5 q6 1 2 (-9223372036854775808) (Int32.toInt64 q2) (Int32.toInt64 q3) (-9223372036854775808))) rfl (XS.iload X0.here hx rfl (B at_67) rfl (XS.iconst X0.here hx rfl (B at_69) (XS.icmpYes X0.here hx rfl (pc0 := 70) (pc' := 79) rfl (B at_70) rfl (by decide) (by decide) (by decide) (XS.lload X0.here hx rfl (B at_79) rfl (XS.lstore X0.here hx rfl (B at_81) rfl (l' := (Sh17 q1 q2 q3 q4 q5 q6 1 2 (-9223372036854775808) (Int32.toInt64 q2) (Int32.toInt64 q3) (-9223372036854775808) (-9223372036854775808))) rfl k)))))))) ?_
   refine GoW.sg (mkF m 99 (Sh18 q1 q2 q3 q4 q5 q6 1 2 (-9223372036854775808) (Int32.toInt64 q2) (Int32.toInt64 q3) (-9223372036854775808) (-9223372036854775808) (-9223372036854775808)) []) (fun t k => XS.iload X0.here hx rfl (B at_83) rfl (XS.iconst X0.here hx rfl (B at_85) (XS.icmpYes X0.here hx rfl (pc0 := 86) (pc' := 95) rfl (B at_86) rfl (by decide) (by decide) (by decide) (XS.lload X0.here hx rfl (B at_95) rfl (XS.lstore X0.here hx rfl (B at_97) rfl (l' := (Sh18 q1 q2 q3 q4 q5 q6 1 2 (-9223372036854775808) (Int32.toInt64 q2) (Int32.toInt64 q3) (-9223372036854775808) (-9223372036854775808) (-9223372036854775808))) rfl k))))) ?_
   obtain ⟨va, hva⟩ : ∃ z : Int64, z = (Int32.toInt64 q2) := ⟨_, rfl⟩
   obtain ⟨vb, hvb⟩ : ∃ z : Int64, z = (Int32.toInt64 q3) := ⟨_, rfl⟩
   obtain ⟨vc, hvc⟩ : ∃ z : Int64, z = (-9223372036854775808 : Int64) := ⟨_, rfl⟩
   obtain ⟨vd, hvd⟩ : ∃ z : Int64, z = (-9223372036854775808 : Int64) := ⟨_, rfl⟩
   obtain ⟨ve, hve⟩ : ∃ z : Int64, z = (-9223372036854775808 : Int64) := ⟨_, rfl⟩
   obtain ⟨mi, hmi⟩ : ∃ z : Int64, z = (-9223372036854775808 : Int64) := ⟨_, rfl⟩
   refine GoW.st (fun t k => by rw [hva, hvb, hvc, hvd, hve, hmi] at k; exact k) ?_ (u := s₁.setTop (mkF m 99 (Sh18 q1 q2 q3 q4 q5 q6 1 2 mi va vb vc vd ve) []))
   show GoW p e below s (ValQ (.int (1 : Int32)) n0) room_1.cells room_1.slots (s₁.setTop (mkF m 99 (Sh18 q1 q2 q3 q4 q5 q6 1 2 mi va vb vc vd ve) []))
   obtain ⟨T930, h930, X930, e930, E930, A930, D930, -, st930⟩ := newO X0 hx hZ hown (ww hw 1 rfl) (ww hw 2 rfl) (ww hw 3 rfl) e0 (g := (mkF m 99 (Sh18 q1 q2 q3 q4 q5 q6 1 2 mi va vb vc vd ve) [])) rfl (B at_99) (by decide) (by decide)
   obtain ⟨b930, g930⟩ : ∃ z, z = h0.size := ⟨_, rfl⟩
   rw [← g930] at A930 D930 st930
   have g_b930 : n0 ≤ b930 := Nat.le_trans Z0 (Nat.le_of_eq g930.symm)
   have f930_6 := Nat.le_trans Z0 E930.1
   have F930heap : Fld Z h930 b930 HSn "heap" "[D" .null := D930 (Or.inr (ww hw 12 rfl)) (ty := (.array .double)) (by decide)
   have F930size : Fld Z h930 b930 HSn "size" "I" (.int (0 : Int32)) := D930 (Or.inl (ww hw 19 rfl)) (ty := .int) (by decide)
   refine GoW.sg (mkF m 102 (Sh18 q1 q2 q3 q4 q5 q6 1 2 mi va vb vc vd ve) [(.ref b930)]) (fun t k => st930 t k) ?_
   refine GoW.sg (mkF m 105 (Sh18 q1 q2 q3 q4 q5 q6 1 2 mi va vb vc vd ve) [(.int 1), (.ref b930), (.ref b930)]) (fun t k => XS.dup X930.here hx rfl (B at_102) rfl rfl (XS.iload X930.here hx rfl (B at_103) rfl k)) ?_
   obtain ⟨_, T931, L931, X931, hQ931, st931⟩ := own_spec X930 hx hZ (y := Y1) rfl hown (ww hw 4 rfl) (ww hw 5 rfl) (ww hw 3 rfl) (ww hw 6 rfl) (by decide) 1 (a := b930) (rm1_30 l Z a0 hw b930 h930 n0 f930_6 A930 F930heap F930size g_b930 ) (by decide) (by decide) e930 (by decide) (by decide) (g := (mkF m 105 (Sh18 q1 q2 q3 q4 q5 q6 1 2 mi va vb vc vd ve) [(.int 1), (.ref b930), (.ref b930)])) rfl (by rw [hml]; rfl) (argsL := [(.int (1 : Int32))]) (rest := [(.ref b930)]) (lenOf pd_28I29V rfl) rfl (Nat.le_of_eq rfl) (B at_105)
   obtain ⟨b931_e0, k931_ke0, rfl, N931q, K931, p931_0, p931_1, p931_2, p931_3, hz_b931_e0⟩ := hQ931
   have g_b931_e0 : n0 ≤ b931_e0 := Nat.le_trans f930_6 hz_b931_e0
   have ne_b930_b931_e0 : b930 ≠ b931_e0 := Nat.ne_of_lt (Nat.lt_of_lt_of_le A930.lt hz_b931_e0)
   have N931 := Fr.app N0 N931q
   refine GoW.sg (mkF m 108 (Sh18 q1 q2 q3 q4 q5 q6 1 2 mi va vb vc vd ve) [(.ref b930)]) (fun t k => st931 t k) ?_
   refine GoW.sg (mkF m 118 (Sh19 q1 q2 q3 q4 q5 q6 1 2 mi va vb vc vd ve b930) [(.int q2), (.ref b930)]) (fun t k => XS.astore X931.here hx rfl (B at_108) rfl rfl (l' := (Sh19 q1 q2 q3 q4 q5 q6 1 2 mi va vb vc vd ve b930)) rfl (XS.iload X931.here hx rfl (B at_110) rfl (XS.ifNo X931.here hx rfl (B at_112) rfl (by decide) (XS.aload X931.here hx rfl (B at_115) rfl rfl (XS.iloadN X931.here hx rfl (B at_117) rfl k))))) ?_
   obtain ⟨d932, hd932⟩ : ∃ d : UInt64, d = FP.l2d q2.toInt64 := ⟨_, rfl⟩
   refine GoW.sg (mkF m 119 (Sh19 q1 q2 q3 q4 q5 q6 1 2 mi va vb vc vd ve b930) [(.double d932), (.ref b930)]) (fun t k => XS.i2dS X931.here hx rfl (B at_118) rfl (v := d932) ((i2d_w _).trans hd932.symm) k) ?_
   obtain ⟨_, T933, L933, X933, hQ933, st933⟩ := own_virt X931 hx hZ (y := Y4) hown (ww hw 22 rfl) (ww hw 23 rfl) (ww hw 25 rfl) (ww hw 24 rfl) (ww hw 26 rfl) (ww hw 3 rfl) (by decide) 0 (a := b930) (rmO10 l Z a0 hw b930 d932 q2 b931_e0 k931_ke0 T931.heap n0 p931_0 p931_2 p931_1 p931_3 g_b930 g_b931_e0 ne_b930_b931_e0 hd932 trivial) (by decide) (by decide) rfl p931_0 (by decide) (by decide) (g := (mkF m 119 (Sh19 q1 q2 q3 q4 q5 q6 1 2 mi va vb vc vd ve b930) [(.double d932), (.ref b930)])) rfl (by rw [hml]; rfl) (argsL := [(.double d932)]) (rest := []) (lenOf pd_28D29V rfl) rfl (Nat.le_of_eq rfl) (B at_119)
   obtain ⟨k933_w0, k933_f0, rfl, N933q, K933, p933_0, p933_1, p933_2, p933_3, LQ933⟩ := hQ933
   have N933 := Fr.app N931 N933q
   refine GoW.sg (mkF m 122 (Sh19 q1 q2 q3 q4 q5 q6 1 2 mi va vb vc vd ve b930) []) (fun t k => st933 t k) ?_
   obtain ⟨hf933_0, hH933, hR933⟩ := LQ933
   have A933 : ∀ z : Int, cn z k933_w0 = cn z q2 := fun z => by have _a := hR933 z; have _c := own_cn z q2; omega
   refine GoW.sg (mkF m 131 (Sh19 q1 q2 q3 q4 q5 q6 1 2 mi va vb vc vd ve b930) [(.int q3), (.ref b930)]) (fun t k => XS.iload X933.here hx rfl (B at_122) rfl (XS.iconst X933.here hx rfl (B at_124) (XS.icmpNo X933.here hx rfl (B at_125) rfl (by decide) (XS.aload X933.here hx rfl (B at_128) rfl rfl (XS.iloadN X933.here hx rfl (B at_130) rfl k))))) ?_
   obtain ⟨d934, hd934⟩ : ∃ d : UInt64, d = FP.l2d q3.toInt64 := ⟨_, rfl⟩
   refine GoW.sg (mkF m 132 (Sh19 q1 q2 q3 q4 q5 q6 1 2 mi va vb vc vd ve b930) [(.double d934), (.ref b930)]) (fun t k => XS.i2dS X933.here hx rfl (B at_131) rfl (v := d934) ((i2d_w _).trans hd934.symm) k) ?_
   obtain ⟨_, T935, L935, X935, hQ935, st935⟩ := own_virt X933 hx hZ (y := Y4) hown (ww hw 22 rfl) (ww hw 23 rfl) (ww hw 25 rfl) (ww hw 24 rfl) (ww hw 26 rfl) (ww hw 3 rfl) (by decide) 0 (a := b930) (rmO11 l Z a0 hw b930 d934 q3 k933_w0 k933_f0 b931_e0 k931_ke0 T933.heap n0 p933_0 p933_1 p933_2 p933_3 g_b930 g_b931_e0 ne_b930_b931_e0 hf933_0 hd934 hH933) (by decide) (by decide) rfl p933_0 (by decide) (by decide) (g := (mkF m 132 (Sh19 q1 q2 q3 q4 q5 q6 1 2 mi va vb vc vd ve b930) [(.double d934), (.ref b930)])) rfl (by rw [hml]; rfl) (argsL := [(.double d934)]) (rest := []) (lenOf pd_28D29V rfl) rfl (Nat.le_of_eq rfl) (B at_132)
   obtain ⟨k935_w0, k935_f0, rfl, N935q, K935, p935_0, p935_1, p935_2, p935_3, LQ935⟩ := hQ935
   have N935 := Fr.app N933 N935q
   refine GoW.sg (mkF m 135 (Sh19 q1 q2 q3 q4 q5 q6 1 2 mi va vb vc vd ve b930) []) (fun t k => st935 t k) ?_
   obtain ⟨hf935_0, hH935, hR935⟩ := LQ935
   have A935 : ∀ z : Int, cn z k935_w0 = min 1 (cn z q2 + cn z q3) := fun z => by have _a := hR935 z; have _b := A933 z; have _c := own_cn z q3; omega
   refine GoW.sg (mkF m 165 (Sh19 q1 q2 q3 q4 q5 q6 1 2 mi va vb vc vd ve b930) [(.int 4), (.int 2)]) (fun t k => XS.iload X935.here hx rfl (B at_135) rfl (XS.iconst X935.here hx rfl (B at_137) (XS.icmpYes X935.here hx rfl (pc0 := 138) (pc' := 148) rfl (B at_138) rfl (by decide) (by decide) (by decide) (XS.iload X935.here hx rfl (B at_148) rfl (XS.iconst X935.here hx rfl (B at_150) (XS.icmpYes X935.here hx rfl (pc0 := 151) (pc' := 162) rfl (B at_151) rfl (by decide) (by decide) (by decide) (XS.iload X935.here hx rfl (B at_162) rfl (XS.iconst X935.here hx rfl (B at_164) k)))))))) ?_
   refine GoW.sg (mkF m 178 (Sh19 q1 q2 q3 q4 q5 q6 1 2 mi va vb vc vd ve b930) [(.ref b930)]) (fun t k => XS.icmpYes X935.here hx rfl (pc0 := 165) (pc' := 176) rfl (B at_165) rfl (by decide) (by decide) (by decide) (XS.aload X935.here hx rfl (B at_176) rfl rfl k)) ?_
   obtain ⟨_, T936, L936, X936, hQ936, st936⟩ := own_virt X935 hx hZ (y := Y3) hown (ww hw 13 rfl) (ww hw 14 rfl) (ww hw 16 rfl) (ww hw 15 rfl) (ww hw 17 rfl) (ww hw 3 rfl) (by decide) 0 (a := b930) (rm3_32 l Z a0 hw b930 b931_e0 k931_ke0 k935_f0 k935_w0 T935.heap n0 p935_2 p935_1 p935_3 hf935_0 ) (by decide) (by decide) rfl p935_0 (by decide) (by decide) (g := (mkF m 178 (Sh19 q1 q2 q3 q4 q5 q6 1 2 mi va vb vc vd ve b930) [(.ref b930)])) rfl (by rw [hml]; rfl) (argsL := []) (rest := []) (lenOf pd_2829D rfl) rfl (Nat.le_of_eq rfl) (B at_178)
   obtain ⟨rfl, N936q, e936⟩ := hQ936
   have N936 := Fr.app N935 N936q
   refine GoW.sg (mkF m 181 (Sh19 q1 q2 q3 q4 q5 q6 1 2 mi va vb vc vd ve b930) [(.double k935_f0)]) (fun t k => st936 t k) ?_
   refine GoW.sg (mkF m 205 (Sh10 q1 q2 q3 q4 q5 q6 1 2 mi va vb vc vd ve b930 k935_f0) []) (fun t k => XS.dstore X936.here hx rfl (B at_181) rfl (l' := (Sh10 q1 q2 q3 q4 q5 q6 1 2 mi va vb vc vd ve b930 k935_f0)) rfl (XS.iload X936.here hx rfl (B at_183) rfl (XS.iload X936.here hx rfl (B at_185) rfl (XS.icmpYes X936.here hx rfl (pc0 := 187) (pc' := 205) rfl (B at_187) rfl (by decide) (by decide) (by decide) k)))) ?_
   exact J _ _ _ _ _ _ _ _ _ _ _ _ k935_w0 X936 e936 N936 hf935_0 (fun r1 r2 r3 r4 r5 h1 h2 h3 h4 h5 => by subst hva hvb hvc hvd hve hmi; exact own_fin12 h1 h2 h3 h4 h5 hH935 A935)
  ·rw [vv]
   show GoW p e below s (ValQ (.int (1 : Int32)) n0) room_1.cells room_1.slots (s₁.setTop (mkF m 18 (Sh12 q1 q2 q3 q4 q5 q6 1 3) []))
   refine GoW.sg (mkF m 21 (Sh12 q1 q2 q3 q4 q5 q6 1 3) [(.long (-9223372036854775808))]) (fun t k => X0.ldc2Long hx hown (mvT hZ (ww hw 0 rfl)) (g := (mkF m 18 (Sh12 q1 q2 q3 q4 q5 q6 1 3) [])) rfl (B at_18) t k) ?_
   refine GoW.sg (mkF m 39 (Sh14 q1 q2 q3 q4 q5 q6 1 3 (-9223372036854775808) (Int32.toInt64 q2)) [(.int 3)]) (fun t k => XS.lstore X0.here hx rfl (B at_21) rfl (l' := (Sh13 q1 q2 q3 q4 q5 q6 1 3 (-9223372036854775808))) rfl (XS.iload X0.here hx rfl (B at_23) rfl (XS.ifNo X0.here hx rfl (B at_25) rfl (by decide) (XS.iloadN X0.here hx rfl (B at_28) rfl (XS.i2l X0.here hx rfl (B at_29) rfl (XS.goto X0.here hx rfl (pc0 := 30) (pc' := 35) rfl (B at_30) (by decide) (by decide) (XS.lstore X0.here hx rfl (B at_35) rfl (l' := (Sh14 q1 q2 q3 q4 q5 q6 1 3 (-9223372036854775808) (Int32.toInt64 q2))) rfl (XS.iload X0.here hx rfl (B at_37) rfl k)))))))) ?_
   refine GoW.sg (mkF m 55 (Sh15 q1 q2 q3 q4 q5 q6 1 3 (-9223372036854775808) (Int32.toInt64 q2) (Int32.toInt64 q3)) [(.int 2), (.int 3)]) (fun t k => XS.iconst X0.here hx rfl (B at_39) (XS.icmpNo X0.here hx rfl (B at_40) rfl (by decide) (XS.iloadN X0.here hx rfl (B at_43) rfl (XS.i2l X0.here hx rfl (B at_44) rfl (XS.goto X0.here hx rfl (pc0 := 45) (pc' := 50) rfl (B at_45) (by decide) (by decide) (XS.lstore X0.here hx rfl (B at_50) rfl (l' := (Sh15 q1 q2 q3 q4 q5 q6 1 3 (-9223372036854775808) (Int32.toInt64 q2) (Int32.toInt64 q3))) rfl (XS.iload X0.here hx rfl (B at_52) rfl (XS.iconst X0.here hx rfl (B at_54) k)))))))) ?_
   refine GoW.sg (mkF m 79 (Sh16 q1 q2 q3 q4 q5 q6 1 3 (-9223372036854775808) (Int32.toInt64 q2) (Int32.toInt64 q3) (Int32.toInt64 q4)) []) (fun t k => XS.icmpNo X0.here hx rfl (B at_55) rfl (by decide) (XS.iloadN X0.here hx rfl (B at_58) rfl (XS.i2l X0.here hx rfl (B at_59) rfl (XS.goto X0.here hx rfl (pc0 := 60) (pc' := 65) rfl (B at_60) (by decide) (by decide) (XS.lstore X0.here hx rfl (B at_65) rfl (l' := (Sh16 q1 q2 q3 q4 q5 q6 1 3 (-9223372036854775808) (Int32.toInt64 q2) (Int32.toInt64 q3) (Int32.toInt64 q4))) rfl (XS.iload X0.here hx rfl (B at_67) rfl (XS.iconst X0.here hx rfl (B at_69) (XS.icmpYes X0.here hx rfl (pc0 := 70) (pc' := 79) rfl (B at_70) rfl (by decide) (by decide) (by decide) k)))))))) ?_
   refine GoW.sg (mkF m 99 (Sh18 q1 q2 q3 q4 q5 q6 1 3 (-9223372036854775808) (Int32.toInt64 q2) (Int32.toInt64 q3) (Int32.toInt64 q4) (-9223372036854775808) (-9223372036854775808)) []) (fun t k => XS.lload X0.here hx rfl (B at_79) rfl (XS.lstore X0.here hx rfl (B at_81) rfl (l' := (Sh17 q1 q2 q3 q4 q5 q6 1 3 (-9223372036854775808) (Int32.toInt64 q2) (Int32.toInt64 q3) (Int32.toInt64 q4) (-9223372036854775808))) rfl (XS.iload X0.here hx rfl (B at_83) rfl (XS.iconst X0.here hx rfl (B at_85) (XS.icmpYes X0.here hx rfl (pc0 := 86) (pc' := 95) rfl (B at_86) rfl (by decide) (by decide) (by decide) (XS.lload X0.here hx rfl (B at_95) rfl (XS.lstore X0.here hx rfl (B at_97) rfl (l' := (Sh18 q1 q2 q3 q4 q5 q6 1 3 (-9223372036854775808) (Int32.toInt64 q2) (Int32.toInt64 q3) (Int32.toInt64 q4) (-9223372036854775808) (-9223372036854775808))) rfl k))))))) ?_
   obtain ⟨va, hva⟩ : ∃ z : Int64, z = (Int32.toInt64 q2) := ⟨_, rfl⟩
   obtain ⟨vb, hvb⟩ : ∃ z : Int64, z = (Int32.toInt64 q3) := ⟨_, rfl⟩
   obtain ⟨vc, hvc⟩ : ∃ z : Int64, z = (Int32.toInt64 q4) := ⟨_, rfl⟩
   obtain ⟨vd, hvd⟩ : ∃ z : Int64, z = (-9223372036854775808 : Int64) := ⟨_, rfl⟩
   obtain ⟨ve, hve⟩ : ∃ z : Int64, z = (-9223372036854775808 : Int64) := ⟨_, rfl⟩
   obtain ⟨mi, hmi⟩ : ∃ z : Int64, z = (-9223372036854775808 : Int64) := ⟨_, rfl⟩
   refine GoW.st (fun t k => by rw [hva, hvb, hvc, hvd, hve, hmi] at k; exact k) ?_ (u := s₁.setTop (mkF m 99 (Sh18 q1 q2 q3 q4 q5 q6 1 3 mi va vb vc vd ve) []))
   show GoW p e below s (ValQ (.int (1 : Int32)) n0) room_1.cells room_1.slots (s₁.setTop (mkF m 99 (Sh18 q1 q2 q3 q4 q5 q6 1 3 mi va vb vc vd ve) []))
   obtain ⟨T937, h937, X937, e937, E937, A937, D937, -, st937⟩ := newO X0 hx hZ hown (ww hw 1 rfl) (ww hw 2 rfl) (ww hw 3 rfl) e0 (g := (mkF m 99 (Sh18 q1 q2 q3 q4 q5 q6 1 3 mi va vb vc vd ve) [])) rfl (B at_99) (by decide) (by decide)
   obtain ⟨b937, g937⟩ : ∃ z, z = h0.size := ⟨_, rfl⟩
   rw [← g937] at A937 D937 st937
   have g_b937 : n0 ≤ b937 := Nat.le_trans Z0 (Nat.le_of_eq g937.symm)
   have f937_10 := Nat.le_trans Z0 E937.1
   have F937heap : Fld Z h937 b937 HSn "heap" "[D" .null := D937 (Or.inr (ww hw 12 rfl)) (ty := (.array .double)) (by decide)
   have F937size : Fld Z h937 b937 HSn "size" "I" (.int (0 : Int32)) := D937 (Or.inl (ww hw 19 rfl)) (ty := .int) (by decide)
   refine GoW.sg (mkF m 102 (Sh18 q1 q2 q3 q4 q5 q6 1 3 mi va vb vc vd ve) [(.ref b937)]) (fun t k => st937 t k) ?_
   refine GoW.sg (mkF m 105 (Sh18 q1 q2 q3 q4 q5 q6 1 3 mi va vb vc vd ve) [(.int 1), (.ref b937), (.ref b937)]) (fun t k => XS.dup X937.here hx rfl (B at_102) rfl rfl (XS.iload X937.here hx rfl (B at_103) rfl k)) ?_
   obtain ⟨_, T938, L938, X938, hQ938, st938⟩ := own_spec X937 hx hZ (y := Y1) rfl hown (ww hw 4 rfl) (ww hw 5 rfl) (ww hw 3 rfl) (ww hw 6 rfl) (by decide) 1 (a := b937) (rm1_30 l Z a0 hw b937 h937 n0 f937_10 A937 F937heap F937size g_b937 ) (by decide) (by decide) e937 (by decide) (by decide) (g := (mkF m 105 (Sh18 q1 q2 q3 q4 q5 q6 1 3 mi va vb vc vd ve) [(.int 1), (.ref b937), (.ref b937)])) rfl (by rw [hml]; rfl) (argsL := [(.int (1 : Int32))]) (rest := [(.ref b937)]) (lenOf pd_28I29V rfl) rfl (Nat.le_of_eq rfl) (B at_105)
   obtain ⟨b938_e0, k938_ke0, rfl, N938q, K938, p938_0, p938_1, p938_2, p938_3, hz_b938_e0⟩ := hQ938
   have g_b938_e0 : n0 ≤ b938_e0 := Nat.le_trans f937_10 hz_b938_e0
   have ne_b937_b938_e0 : b937 ≠ b938_e0 := Nat.ne_of_lt (Nat.lt_of_lt_of_le A937.lt hz_b938_e0)
   have N938 := Fr.app N0 N938q
   refine GoW.sg (mkF m 108 (Sh18 q1 q2 q3 q4 q5 q6 1 3 mi va vb vc vd ve) [(.ref b937)]) (fun t k => st938 t k) ?_
   refine GoW.sg (mkF m 118 (Sh19 q1 q2 q3 q4 q5 q6 1 3 mi va vb vc vd ve b937) [(.int q2), (.ref b937)]) (fun t k => XS.astore X938.here hx rfl (B at_108) rfl rfl (l' := (Sh19 q1 q2 q3 q4 q5 q6 1 3 mi va vb vc vd ve b937)) rfl (XS.iload X938.here hx rfl (B at_110) rfl (XS.ifNo X938.here hx rfl (B at_112) rfl (by decide) (XS.aload X938.here hx rfl (B at_115) rfl rfl (XS.iloadN X938.here hx rfl (B at_117) rfl k))))) ?_
   obtain ⟨d939, hd939⟩ : ∃ d : UInt64, d = FP.l2d q2.toInt64 := ⟨_, rfl⟩
   refine GoW.sg (mkF m 119 (Sh19 q1 q2 q3 q4 q5 q6 1 3 mi va vb vc vd ve b937) [(.double d939), (.ref b937)]) (fun t k => XS.i2dS X938.here hx rfl (B at_118) rfl (v := d939) ((i2d_w _).trans hd939.symm) k) ?_
   obtain ⟨_, T940, L940, X940, hQ940, st940⟩ := own_virt X938 hx hZ (y := Y4) hown (ww hw 22 rfl) (ww hw 23 rfl) (ww hw 25 rfl) (ww hw 24 rfl) (ww hw 26 rfl) (ww hw 3 rfl) (by decide) 0 (a := b937) (rmO10 l Z a0 hw b937 d939 q2 b938_e0 k938_ke0 T938.heap n0 p938_0 p938_2 p938_1 p938_3 g_b937 g_b938_e0 ne_b937_b938_e0 hd939 trivial) (by decide) (by decide) rfl p938_0 (by decide) (by decide) (g := (mkF m 119 (Sh19 q1 q2 q3 q4 q5 q6 1 3 mi va vb vc vd ve b937) [(.double d939), (.ref b937)])) rfl (by rw [hml]; rfl) (argsL := [(.double d939)]) (rest := []) (lenOf pd_28D29V rfl) rfl (Nat.le_of_eq rfl) (B at_119)
   obtain ⟨k940_w0, k940_f0, rfl, N940q, K940, p940_0, p940_1, p940_2, p940_3, LQ940⟩ := hQ940
   have N940 := Fr.app N938 N940q
   refine GoW.sg (mkF m 122 (Sh19 q1 q2 q3 q4 q5 q6 1 3 mi va vb vc vd ve b937) []) (fun t k => st940 t k) ?_
   obtain ⟨hf940_0, hH940, hR940⟩ := LQ940
   have A940 : ∀ z : Int, cn z k940_w0 = cn z q2 := fun z => by have _a := hR940 z; have _c := own_cn z q2; omega
   refine GoW.sg (mkF m 131 (Sh19 q1 q2 q3 q4 q5 q6 1 3 mi va vb vc vd ve b937) [(.int q3), (.ref b937)]) (fun t k => XS.iload X940.here hx rfl (B at_122) rfl (XS.iconst X940.here hx rfl (B at_124) (XS.icmpNo X940.here hx rfl (B at_125) rfl (by decide) (XS.aload X940.here hx rfl (B at_128) rfl rfl (XS.iloadN X940.here hx rfl (B at_130) rfl k))))) ?_
   obtain ⟨d941, hd941⟩ : ∃ d : UInt64, d = FP.l2d q3.toInt64 := ⟨_, rfl⟩
   refine GoW.sg (mkF m 132 (Sh19 q1 q2 q3 q4 q5 q6 1 3 mi va vb vc vd ve b937) [(.double d941), (.ref b937)]) (fun t k => XS.i2dS X940.here hx rfl (B at_131) rfl (v := d941) ((i2d_w _).trans hd941.symm) k) ?_
   obtain ⟨_, T942, L942, X942, hQ942, st942⟩ := own_virt X940 hx hZ (y := Y4) hown (ww hw 22 rfl) (ww hw 23 rfl) (ww hw 25 rfl) (ww hw 24 rfl) (ww hw 26 rfl) (ww hw 3 rfl) (by decide) 0 (a := b937) (rmO11 l Z a0 hw b937 d941 q3 k940_w0 k940_f0 b938_e0 k938_ke0 T940.heap n0 p940_0 p940_1 p940_2 p940_3 g_b937 g_b938_e0 ne_b937_b938_e0 hf940_0 hd941 hH940) (by decide) (by decide) rfl p940_0 (by decide) (by decide) (g := (mkF m 132 (Sh19 q1 q2 q3 q4 q5 q6 1 3 mi va vb vc vd ve b937) [(.double d941), (.ref b937)])) rfl (by rw [hml]; rfl) (argsL := [(.double d941)]) (rest := []) (lenOf pd_28D29V rfl) rfl (Nat.le_of_eq rfl) (B at_132)
   obtain ⟨k942_w0, k942_f0, rfl, N942q, K942, p942_0, p942_1, p942_2, p942_3, LQ942⟩ := hQ942
   have N942 := Fr.app N940 N942q
   refine GoW.sg (mkF m 135 (Sh19 q1 q2 q3 q4 q5 q6 1 3 mi va vb vc vd ve b937) []) (fun t k => st942 t k) ?_
   obtain ⟨hf942_0, hH942, hR942⟩ := LQ942
   have A942 : ∀ z : Int, cn z k942_w0 = min 1 (cn z q2 + cn z q3) := fun z => by have _a := hR942 z; have _b := A940 z; have _c := own_cn z q3; omega
   refine GoW.sg (mkF m 144 (Sh19 q1 q2 q3 q4 q5 q6 1 3 mi va vb vc vd ve b937) [(.int q4), (.ref b937)]) (fun t k => XS.iload X942.here hx rfl (B at_135) rfl (XS.iconst X942.here hx rfl (B at_137) (XS.icmpNo X942.here hx rfl (B at_138) rfl (by decide) (XS.aload X942.here hx rfl (B at_141) rfl rfl (XS.iloadN X942.here hx rfl (B at_143) rfl k))))) ?_
   obtain ⟨d943, hd943⟩ : ∃ d : UInt64, d = FP.l2d q4.toInt64 := ⟨_, rfl⟩
   refine GoW.sg (mkF m 145 (Sh19 q1 q2 q3 q4 q5 q6 1 3 mi va vb vc vd ve b937) [(.double d943), (.ref b937)]) (fun t k => XS.i2dS X942.here hx rfl (B at_144) rfl (v := d943) ((i2d_w _).trans hd943.symm) k) ?_
   obtain ⟨_, T944, L944, X944, hQ944, st944⟩ := own_virt X942 hx hZ (y := Y4) hown (ww hw 22 rfl) (ww hw 23 rfl) (ww hw 25 rfl) (ww hw 24 rfl) (ww hw 26 rfl) (ww hw 3 rfl) (by decide) 0 (a := b937) (rmO11 l Z a0 hw b937 d943 q4 k942_w0 k942_f0 b938_e0 k938_ke0 T942.heap n0 p942_0 p942_1 p942_2 p942_3 g_b937 g_b938_e0 ne_b937_b938_e0 hf942_0 hd943 hH942) (by decide) (by decide) rfl p942_0 (by decide) (by decide) (g := (mkF m 145 (Sh19 q1 q2 q3 q4 q5 q6 1 3 mi va vb vc vd ve b937) [(.double d943), (.ref b937)])) rfl (by rw [hml]; rfl) (argsL := [(.double d943)]) (rest := []) (lenOf pd_28D29V rfl) rfl (Nat.le_of_eq rfl) (B at_145)
   obtain ⟨k944_w0, k944_f0, rfl, N944q, K944, p944_0, p944_1, p944_2, p944_3, LQ944⟩ := hQ944
   have N944 := Fr.app N942 N944q
   refine GoW.sg (mkF m 148 (Sh19 q1 q2 q3 q4 q5 q6 1 3 mi va vb vc vd ve b937) []) (fun t k => st944 t k) ?_
   obtain ⟨hf944_0, hH944, hR944⟩ := LQ944
   have A944 : ∀ z : Int, cn z k944_w0 = min 1 (cn z q2 + cn z q3 + cn z q4) := fun z => by have _a := hR944 z; have _b := A942 z; have _c := own_cn z q4; omega
   refine GoW.sg (mkF m 178 (Sh19 q1 q2 q3 q4 q5 q6 1 3 mi va vb vc vd ve b937) [(.ref b937)]) (fun t k => XS.iload X944.here hx rfl (B at_148) rfl (XS.iconst X944.here hx rfl (B at_150) (XS.icmpYes X944.here hx rfl (pc0 := 151) (pc' := 162) rfl (B at_151) rfl (by decide) (by decide) (by decide) (XS.iload X944.here hx rfl (B at_162) rfl (XS.iconst X944.here hx rfl (B at_164) (XS.icmpYes X944.here hx rfl (pc0 := 165) (pc' := 176) rfl (B at_165) rfl (by decide) (by decide) (by decide) (XS.aload X944.here hx rfl (B at_176) rfl rfl k))))))) ?_
   obtain ⟨_, T945, L945, X945, hQ945, st945⟩ := own_virt X944 hx hZ (y := Y3) hown (ww hw 13 rfl) (ww hw 14 rfl) (ww hw 16 rfl) (ww hw 15 rfl) (ww hw 17 rfl) (ww hw 3 rfl) (by decide) 0 (a := b937) (rm3_32 l Z a0 hw b937 b938_e0 k938_ke0 k944_f0 k944_w0 T944.heap n0 p944_2 p944_1 p944_3 hf944_0 ) (by decide) (by decide) rfl p944_0 (by decide) (by decide) (g := (mkF m 178 (Sh19 q1 q2 q3 q4 q5 q6 1 3 mi va vb vc vd ve b937) [(.ref b937)])) rfl (by rw [hml]; rfl) (argsL := []) (rest := []) (lenOf pd_2829D rfl) rfl (Nat.le_of_eq rfl) (B at_178)
   obtain ⟨rfl, N945q, e945⟩ := hQ945
   have N945 := Fr.app N944 N945q
   refine GoW.sg (mkF m 181 (Sh19 q1 q2 q3 q4 q5 q6 1 3 mi va vb vc vd ve b937) [(.double k944_f0)]) (fun t k => st945 t k) ?_
   refine GoW.sg (mkF m 205 (Sh10 q1 q2 q3 q4 q5 q6 1 3 mi va vb vc vd ve b937 k944_f0) []) (fun t k => XS.dstore X945.here hx rfl (B at_181) rfl (l' := (Sh10 q1 q2 q3 q4 q5 q6 1 3 mi va vb vc vd ve b937 k944_f0)) rfl (XS.iload X945.here hx rfl (B at_183) rfl (XS.iload X945.here hx rfl (B at_185) rfl (XS.icmpYes X945.here hx rfl (pc0 := 187) (pc' := 205) rfl (B at_187) rfl (by decide) (by decide) (by decide) k)))) ?_
   exact J _ _ _ _ _ _ _ _ _ _ _ _ k944_w0 X945 e945 N945 hf944_0 (fun r1 r2 r3 r4 r5 h1 h2 h3 h4 h5 => by subst hva hvb hvc hvd hve hmi; exact own_fin13 h1 h2 h3 h4 h5 hH944 A944)
  ·rw [vv]
   show GoW p e below s (ValQ (.int (1 : Int32)) n0) room_1.cells room_1.slots (s₁.setTop (mkF m 18 (Sh12 q1 q2 q3 q4 q5 q6 1 4) []))
   refine GoW.sg (mkF m 21 (Sh12 q1 q2 q3 q4 q5 q6 1 4) [(.long (-9223372036854775808))]) (fun t k => X0.ldc2Long hx hown (mvT hZ (ww hw 0 rfl)) (g := (mkF m 18 (Sh12 q1 q2 q3 q4 q5 q6 1 4) [])) rfl (B at_18) t k) ?_
   refine GoW.sg (mkF m 39 (Sh14 q1 q2 q3 q4 q5 q6 1 4 (-9223372036854775808) (Int32.toInt64 q2)) [(.int 4)]) (fun t k => XS.lstore X0.here hx rfl (B at_21) rfl (l' := (Sh13 q1 q2 q3 q4 q5 q6 1 4 (-9223372036854775808))) rfl (XS.iload X0.here hx rfl (B at_23) rfl (XS.ifNo X0.here hx rfl (B at_25) rfl (by decide) (XS.iloadN X0.here hx rfl (B at_28) rfl (XS.i2l X0.here hx rfl (B at_29) rfl (XS.goto X0.here hx rfl (pc0 := 30) (pc' := 35) rfl (B at_30) (by decide) (by decide) (XS.lstore X0.here hx rfl (B at_35) rfl (l' := (Sh14 q1 q2 q3 q4 q5 q6 1 4 (-9223372036854775808) (Int32.toInt64 q2))) rfl (XS.iload X0.here hx rfl (B at_37) rfl k)))))))) ?_
   refine GoW.sg (mkF m 55 (Sh15 q1 q2 q3 q4 q5 q6 1 4 (-9223372036854775808) (Int32.toInt64 q2) (Int32.toInt64 q3)) [(.int 2), (.int 4)]) (fun t k => XS.iconst X0.here hx rfl (B at_39) (XS.icmpNo X0.here hx rfl (B at_40) rfl (by decide) (XS.iloadN X0.here hx rfl (B at_43) rfl (XS.i2l X0.here hx rfl (B at_44) rfl (XS.goto X0.here hx rfl (pc0 := 45) (pc' := 50) rfl (B at_45) (by decide) (by decide) (XS.lstore X0.here hx rfl (B at_50) rfl (l' := (Sh15 q1 q2 q3 q4 q5 q6 1 4 (-9223372036854775808) (Int32.toInt64 q2) (Int32.toInt64 q3))) rfl (XS.iload X0.here hx rfl (B at_52) rfl (XS.iconst X0.here hx rfl (B at_54) k)))))))) ?_
   refine GoW.sg (mkF m 73 (Sh16 q1 q2 q3 q4 q5 q6 1 4 (-9223372036854775808) (Int32.toInt64 q2) (Int32.toInt64 q3) (Int32.toInt64 q4)) []) (fun t k => XS.icmpNo X0.here hx rfl (B at_55) rfl (by decide) (XS.iloadN X0.here hx rfl (B at_58) rfl (XS.i2l X0.here hx rfl (B at_59) rfl (XS.goto X0.here hx rfl (pc0 := 60) (pc' := 65) rfl (B at_60) (by decide) (by decide) (XS.lstore X0.here hx rfl (B at_65) rfl (l' := (Sh16 q1 q2 q3 q4 q5 q6 1 4 (-9223372036854775808) (Int32.toInt64 q2) (Int32.toInt64 q3) (Int32.toInt64 q4))) rfl (XS.iload X0.here hx rfl (B at_67) rfl (XS.iconst X0.here hx rfl (B at_69) (XS.icmpNo X0.here hx rfl (B at_70) rfl (by decide) k)))))))) ?_
   refine GoW.sg (mkF m 97 (Sh17 q1 q2 q3 q4 q5 q6 1 4 (-9223372036854775808) (Int32.toInt64 q2) (Int32.toInt64 q3) (Int32.toInt64 q4) (Int32.toInt64 q5)) [(.long (-9223372036854775808))]) (fun t k => XS.iload X0.here hx rfl (B at_73) rfl (XS.i2l X0.here hx rfl (B at_75) rfl (XS.goto X0.here hx rfl (pc0 := 76) (pc' := 81) rfl (B at_76) (by decide) (by decide) (XS.lstore X0.here hx rfl (B at_81) rfl (l' := (Sh17 q1 q2 q3 q4 q5 q6 1 4 (-9223372036854775808) (Int32.toInt64 q2) (Int32.toInt64 q3) (Int32.toInt64 q4) (Int32.toInt64 q5))) rfl (XS.iload X0.here hx rfl (B at_83) rfl (XS.iconst X0.here hx rfl (B at_85) (XS.icmpYes X0.here hx rfl (pc0 := 86) (pc' := 95) rfl (B at_86) rfl (by decide) (by decide) (by decide) (XS.lload X0.here hx rfl (B at_95) rfl k)))))))) ?_
   refine GoW.sg (mkF m 99 (Sh18 q1 q2 q3 q4 q5 q6 1 4 (-9223372036854775808) (Int32.toInt64 q2) (Int32.toInt64 q3) (Int32.toInt64 q4) (Int32.toInt64 q5) (-9223372036854775808)) []) (fun t k => XS.lstore X0.here hx rfl (B at_97) rfl (l' := (Sh18 q1 q2 q3 q4 q5 q6 1 4 (-9223372036854775808) (Int32.toInt64 q2) (Int32.toInt64 q3) (Int32.toInt64 q4) (Int32.toInt64 q5) (-9223372036854775808))) rfl k) ?_
   obtain ⟨va, hva⟩ : ∃ z : Int64, z = (Int32.toInt64 q2) := ⟨_, rfl⟩
   obtain ⟨vb, hvb⟩ : ∃ z : Int64, z = (Int32.toInt64 q3) := ⟨_, rfl⟩
   obtain ⟨vc, hvc⟩ : ∃ z : Int64, z = (Int32.toInt64 q4) := ⟨_, rfl⟩
   obtain ⟨vd, hvd⟩ : ∃ z : Int64, z = (Int32.toInt64 q5) := ⟨_, rfl⟩
   obtain ⟨ve, hve⟩ : ∃ z : Int64, z = (-9223372036854775808 : Int64) := ⟨_, rfl⟩
   obtain ⟨mi, hmi⟩ : ∃ z : Int64, z = (-9223372036854775808 : Int64) := ⟨_, rfl⟩
   refine GoW.st (fun t k => by rw [hva, hvb, hvc, hvd, hve, hmi] at k; exact k) ?_ (u := s₁.setTop (mkF m 99 (Sh18 q1 q2 q3 q4 q5 q6 1 4 mi va vb vc vd ve) []))
   show GoW p e below s (ValQ (.int (1 : Int32)) n0) room_1.cells room_1.slots (s₁.setTop (mkF m 99 (Sh18 q1 q2 q3 q4 q5 q6 1 4 mi va vb vc vd ve) []))
   obtain ⟨T946, h946, X946, e946, E946, A946, D946, -, st946⟩ := newO X0 hx hZ hown (ww hw 1 rfl) (ww hw 2 rfl) (ww hw 3 rfl) e0 (g := (mkF m 99 (Sh18 q1 q2 q3 q4 q5 q6 1 4 mi va vb vc vd ve) [])) rfl (B at_99) (by decide) (by decide)
   obtain ⟨b946, g946⟩ : ∃ z, z = h0.size := ⟨_, rfl⟩
   rw [← g946] at A946 D946 st946
   have g_b946 : n0 ≤ b946 := Nat.le_trans Z0 (Nat.le_of_eq g946.symm)
   have f946_15 := Nat.le_trans Z0 E946.1
   have F946heap : Fld Z h946 b946 HSn "heap" "[D" .null := D946 (Or.inr (ww hw 12 rfl)) (ty := (.array .double)) (by decide)
   have F946size : Fld Z h946 b946 HSn "size" "I" (.int (0 : Int32)) := D946 (Or.inl (ww hw 19 rfl)) (ty := .int) (by decide)
   refine GoW.sg (mkF m 102 (Sh18 q1 q2 q3 q4 q5 q6 1 4 mi va vb vc vd ve) [(.ref b946)]) (fun t k => st946 t k) ?_
   refine GoW.sg (mkF m 105 (Sh18 q1 q2 q3 q4 q5 q6 1 4 mi va vb vc vd ve) [(.int 1), (.ref b946), (.ref b946)]) (fun t k => XS.dup X946.here hx rfl (B at_102) rfl rfl (XS.iload X946.here hx rfl (B at_103) rfl k)) ?_
   obtain ⟨_, T947, L947, X947, hQ947, st947⟩ := own_spec X946 hx hZ (y := Y1) rfl hown (ww hw 4 rfl) (ww hw 5 rfl) (ww hw 3 rfl) (ww hw 6 rfl) (by decide) 1 (a := b946) (rm1_30 l Z a0 hw b946 h946 n0 f946_15 A946 F946heap F946size g_b946 ) (by decide) (by decide) e946 (by decide) (by decide) (g := (mkF m 105 (Sh18 q1 q2 q3 q4 q5 q6 1 4 mi va vb vc vd ve) [(.int 1), (.ref b946), (.ref b946)])) rfl (by rw [hml]; rfl) (argsL := [(.int (1 : Int32))]) (rest := [(.ref b946)]) (lenOf pd_28I29V rfl) rfl (Nat.le_of_eq rfl) (B at_105)
   obtain ⟨b947_e0, k947_ke0, rfl, N947q, K947, p947_0, p947_1, p947_2, p947_3, hz_b947_e0⟩ := hQ947
   have g_b947_e0 : n0 ≤ b947_e0 := Nat.le_trans f946_15 hz_b947_e0
   have ne_b946_b947_e0 : b946 ≠ b947_e0 := Nat.ne_of_lt (Nat.lt_of_lt_of_le A946.lt hz_b947_e0)
   have N947 := Fr.app N0 N947q
   refine GoW.sg (mkF m 108 (Sh18 q1 q2 q3 q4 q5 q6 1 4 mi va vb vc vd ve) [(.ref b946)]) (fun t k => st947 t k) ?_
   refine GoW.sg (mkF m 118 (Sh19 q1 q2 q3 q4 q5 q6 1 4 mi va vb vc vd ve b946) [(.int q2), (.ref b946)]) (fun t k => XS.astore X947.here hx rfl (B at_108) rfl rfl (l' := (Sh19 q1 q2 q3 q4 q5 q6 1 4 mi va vb vc vd ve b946)) rfl (XS.iload X947.here hx rfl (B at_110) rfl (XS.ifNo X947.here hx rfl (B at_112) rfl (by decide) (XS.aload X947.here hx rfl (B at_115) rfl rfl (XS.iloadN X947.here hx rfl (B at_117) rfl k))))) ?_
   obtain ⟨d948, hd948⟩ : ∃ d : UInt64, d = FP.l2d q2.toInt64 := ⟨_, rfl⟩
   refine GoW.sg (mkF m 119 (Sh19 q1 q2 q3 q4 q5 q6 1 4 mi va vb vc vd ve b946) [(.double d948), (.ref b946)]) (fun t k => XS.i2dS X947.here hx rfl (B at_118) rfl (v := d948) ((i2d_w _).trans hd948.symm) k) ?_
   obtain ⟨_, T949, L949, X949, hQ949, st949⟩ := own_virt X947 hx hZ (y := Y4) hown (ww hw 22 rfl) (ww hw 23 rfl) (ww hw 25 rfl) (ww hw 24 rfl) (ww hw 26 rfl) (ww hw 3 rfl) (by decide) 0 (a := b946) (rmO10 l Z a0 hw b946 d948 q2 b947_e0 k947_ke0 T947.heap n0 p947_0 p947_2 p947_1 p947_3 g_b946 g_b947_e0 ne_b946_b947_e0 hd948 trivial) (by decide) (by decide) rfl p947_0 (by decide) (by decide) (g := (mkF m 119 (Sh19 q1 q2 q3 q4 q5 q6 1 4 mi va vb vc vd ve b946) [(.double d948), (.ref b946)])) rfl (by rw [hml]; rfl) (argsL := [(.double d948)]) (rest := []) (lenOf pd_28D29V rfl) rfl (Nat.le_of_eq rfl) (B at_119)
   obtain ⟨k949_w0, k949_f0, rfl, N949q, K949, p949_0, p949_1, p949_2, p949_3, LQ949⟩ := hQ949
   have N949 := Fr.app N947 N949q
   refine GoW.sg (mkF m 122 (Sh19 q1 q2 q3 q4 q5 q6 1 4 mi va vb vc vd ve b946) []) (fun t k => st949 t k) ?_
   obtain ⟨hf949_0, hH949, hR949⟩ := LQ949
   have A949 : ∀ z : Int, cn z k949_w0 = cn z q2 := fun z => by have _a := hR949 z; have _c := own_cn z q2; omega
   refine GoW.sg (mkF m 131 (Sh19 q1 q2 q3 q4 q5 q6 1 4 mi va vb vc vd ve b946) [(.int q3), (.ref b946)]) (fun t k => XS.iload X949.here hx rfl (B at_122) rfl (XS.iconst X949.here hx rfl (B at_124) (XS.icmpNo X949.here hx rfl (B at_125) rfl (by decide) (XS.aload X949.here hx rfl (B at_128) rfl rfl (XS.iloadN X949.here hx rfl (B at_130) rfl k))))) ?_
   obtain ⟨d950, hd950⟩ : ∃ d : UInt64, d = FP.l2d q3.toInt64 := ⟨_, rfl⟩
   refine GoW.sg (mkF m 132 (Sh19 q1 q2 q3 q4 q5 q6 1 4 mi va vb vc vd ve b946) [(.double d950), (.ref b946)]) (fun t k => XS.i2dS X949.here hx rfl (B at_131) rfl (v := d950) ((i2d_w _).trans hd950.symm) k) ?_
   obtain ⟨_, T951, L951, X951, hQ951, st951⟩ := own_virt X949 hx hZ (y := Y4) hown (ww hw 22 rfl) (ww hw 23 rfl) (ww hw 25 rfl) (ww hw 24 rfl) (ww hw 26 rfl) (ww hw 3 rfl) (by decide) 0 (a := b946) (rmO11 l Z a0 hw b946 d950 q3 k949_w0 k949_f0 b947_e0 k947_ke0 T949.heap n0 p949_0 p949_1 p949_2 p949_3 g_b946 g_b947_e0 ne_b946_b947_e0 hf949_0 hd950 hH949) (by decide) (by decide) rfl p949_0 (by decide) (by decide) (g := (mkF m 132 (Sh19 q1 q2 q3 q4 q5 q6 1 4 mi va vb vc vd ve b946) [(.double d950), (.ref b946)])) rfl (by rw [hml]; rfl) (argsL := [(.double d950)]) (rest := []) (lenOf pd_28D29V rfl) rfl (Nat.le_of_eq rfl) (B at_132)
   obtain ⟨k951_w0, k951_f0, rfl, N951q, K951, p951_0, p951_1, p951_2, p951_3, LQ951⟩ := hQ951
   have N951 := Fr.app N949 N951q
   refine GoW.sg (mkF m 135 (Sh19 q1 q2 q3 q4 q5 q6 1 4 mi va vb vc vd ve b946) []) (fun t k => st951 t k) ?_
   obtain ⟨hf951_0, hH951, hR951⟩ := LQ951
   have A951 : ∀ z : Int, cn z k951_w0 = min 1 (cn z q2 + cn z q3) := fun z => by have _a := hR951 z; have _b := A949 z; have _c := own_cn z q3; omega
   refine GoW.sg (mkF m 144 (Sh19 q1 q2 q3 q4 q5 q6 1 4 mi va vb vc vd ve b946) [(.int q4), (.ref b946)]) (fun t k => XS.iload X951.here hx rfl (B at_135) rfl (XS.iconst X951.here hx rfl (B at_137) (XS.icmpNo X951.here hx rfl (B at_138) rfl (by decide) (XS.aload X951.here hx rfl (B at_141) rfl rfl (XS.iloadN X951.here hx rfl (B at_143) rfl k))))) ?_
   obtain ⟨d952, hd952⟩ : ∃ d : UInt64, d = FP.l2d q4.toInt64 := ⟨_, rfl⟩
   refine GoW.sg (mkF m 145 (Sh19 q1 q2 q3 q4 q5 q6 1 4 mi va vb vc vd ve b946) [(.double d952), (.ref b946)]) (fun t k => XS.i2dS X951.here hx rfl (B at_144) rfl (v := d952) ((i2d_w _).trans hd952.symm) k) ?_
   obtain ⟨_, T953, L953, X953, hQ953, st953⟩ := own_virt X951 hx hZ (y := Y4) hown (ww hw 22 rfl) (ww hw 23 rfl) (ww hw 25 rfl) (ww hw 24 rfl) (ww hw 26 rfl) (ww hw 3 rfl) (by decide) 0 (a := b946) (rmO11 l Z a0 hw b946 d952 q4 k951_w0 k951_f0 b947_e0 k947_ke0 T951.heap n0 p951_0 p951_1 p951_2 p951_3 g_b946 g_b947_e0 ne_b946_b947_e0 hf951_0 hd952 hH951) (by decide) (by decide) rfl p951_0 (by decide) (by decide) (g := (mkF m 145 (Sh19 q1 q2 q3 q4 q5 q6 1 4 mi va vb vc vd ve b946) [(.double d952), (.ref b946)])) rfl (by rw [hml]; rfl) (argsL := [(.double d952)]) (rest := []) (lenOf pd_28D29V rfl) rfl (Nat.le_of_eq rfl) (B at_145)
   obtain ⟨k953_w0, k953_f0, rfl, N953q, K953, p953_0, p953_1, p953_2, p953_3, LQ953⟩ := hQ953
   have N953 := Fr.app N951 N953q
   refine GoW.sg (mkF m 148 (Sh19 q1 q2 q3 q4 q5 q6 1 4 mi va vb vc vd ve b946) []) (fun t k => st953 t k) ?_
   obtain ⟨hf953_0, hH953, hR953⟩ := LQ953
   have A953 : ∀ z : Int, cn z k953_w0 = min 1 (cn z q2 + cn z q3 + cn z q4) := fun z => by have _a := hR953 z; have _b := A951 z; have _c := own_cn z q4; omega
   refine GoW.sg (mkF m 158 (Sh19 q1 q2 q3 q4 q5 q6 1 4 mi va vb vc vd ve b946) [(.int q5), (.ref b946)]) (fun t k => XS.iload X953.here hx rfl (B at_148) rfl (XS.iconst X953.here hx rfl (B at_150) (XS.icmpNo X953.here hx rfl (B at_151) rfl (by decide) (XS.aload X953.here hx rfl (B at_154) rfl rfl (XS.iload X953.here hx rfl (B at_156) rfl k))))) ?_
   obtain ⟨d954, hd954⟩ : ∃ d : UInt64, d = FP.l2d q5.toInt64 := ⟨_, rfl⟩
   refine GoW.sg (mkF m 159 (Sh19 q1 q2 q3 q4 q5 q6 1 4 mi va vb vc vd ve b946) [(.double d954), (.ref b946)]) (fun t k => XS.i2dS X953.here hx rfl (B at_158) rfl (v := d954) ((i2d_w _).trans hd954.symm) k) ?_
   obtain ⟨_, T955, L955, X955, hQ955, st955⟩ := own_virt X953 hx hZ (y := Y4) hown (ww hw 22 rfl) (ww hw 23 rfl) (ww hw 25 rfl) (ww hw 24 rfl) (ww hw 26 rfl) (ww hw 3 rfl) (by decide) 0 (a := b946) (rmO11 l Z a0 hw b946 d954 q5 k953_w0 k953_f0 b947_e0 k947_ke0 T953.heap n0 p953_0 p953_1 p953_2 p953_3 g_b946 g_b947_e0 ne_b946_b947_e0 hf953_0 hd954 hH953) (by decide) (by decide) rfl p953_0 (by decide) (by decide) (g := (mkF m 159 (Sh19 q1 q2 q3 q4 q5 q6 1 4 mi va vb vc vd ve b946) [(.double d954), (.ref b946)])) rfl (by rw [hml]; rfl) (argsL := [(.double d954)]) (rest := []) (lenOf pd_28D29V rfl) rfl (Nat.le_of_eq rfl) (B at_159)
   obtain ⟨k955_w0, k955_f0, rfl, N955q, K955, p955_0, p955_1, p955_2, p955_3, LQ955⟩ := hQ955
   have N955 := Fr.app N953 N955q
   refine GoW.sg (mkF m 162 (Sh19 q1 q2 q3 q4 q5 q6 1 4 mi va vb vc vd ve b946) []) (fun t k => st955 t k) ?_
   obtain ⟨hf955_0, hH955, hR955⟩ := LQ955
   have A955 : ∀ z : Int, cn z k955_w0 = min 1 (cn z q2 + cn z q3 + cn z q4 + cn z q5) := fun z => by have _a := hR955 z; have _b := A953 z; have _c := own_cn z q5; omega
   refine GoW.sg (mkF m 178 (Sh19 q1 q2 q3 q4 q5 q6 1 4 mi va vb vc vd ve b946) [(.ref b946)]) (fun t k => XS.iload X955.here hx rfl (B at_162) rfl (XS.iconst X955.here hx rfl (B at_164) (XS.icmpYes X955.here hx rfl (pc0 := 165) (pc' := 176) rfl (B at_165) rfl (by decide) (by decide) (by decide) (XS.aload X955.here hx rfl (B at_176) rfl rfl k)))) ?_
   obtain ⟨_, T956, L956, X956, hQ956, st956⟩ := own_virt X955 hx hZ (y := Y3) hown (ww hw 13 rfl) (ww hw 14 rfl) (ww hw 16 rfl) (ww hw 15 rfl) (ww hw 17 rfl) (ww hw 3 rfl) (by decide) 0 (a := b946) (rm3_32 l Z a0 hw b946 b947_e0 k947_ke0 k955_f0 k955_w0 T955.heap n0 p955_2 p955_1 p955_3 hf955_0 ) (by decide) (by decide) rfl p955_0 (by decide) (by decide) (g := (mkF m 178 (Sh19 q1 q2 q3 q4 q5 q6 1 4 mi va vb vc vd ve b946) [(.ref b946)])) rfl (by rw [hml]; rfl) (argsL := []) (rest := []) (lenOf pd_2829D rfl) rfl (Nat.le_of_eq rfl) (B at_178)
   obtain ⟨rfl, N956q, e956⟩ := hQ956
   have N956 := Fr.app N955 N956q
   refine GoW.sg (mkF m 181 (Sh19 q1 q2 q3 q4 q5 q6 1 4 mi va vb vc vd ve b946) [(.double k955_f0)]) (fun t k => st956 t k) ?_
   refine GoW.sg (mkF m 205 (Sh10 q1 q2 q3 q4 q5 q6 1 4 mi va vb vc vd ve b946 k955_f0) []) (fun t k => XS.dstore X956.here hx rfl (B at_181) rfl (l' := (Sh10 q1 q2 q3 q4 q5 q6 1 4 mi va vb vc vd ve b946 k955_f0)) rfl (XS.iload X956.here hx rfl (B at_183) rfl (XS.iload X956.here hx rfl (B at_185) rfl (XS.icmpYes X956.here hx rfl (pc0 := 187) (pc' := 205) rfl (B at_187) rfl (by decide) (by decide) (by decide) k)))) ?_
   exact J _ _ _ _ _ _ _ _ _ _ _ _ k955_w0 X956 e956 N956 hf955_0 (fun r1 r2 r3 r4 r5 h1 h2 h3 h4 h5 => by subst hva hvb hvc hvd hve hmi; exact own_fin14 h1 h2 h3 h4 h5 hH955 A955)
  ·rw [vv]
   show GoW p e below s (ValQ (.int (1 : Int32)) n0) room_1.cells room_1.slots (s₁.setTop (mkF m 18 (Sh12 q1 q2 q3 q4 q5 q6 1 5) []))
   refine GoW.sg (mkF m 21 (Sh12 q1 q2 q3 q4 q5 q6 1 5) [(.long (-9223372036854775808))]) (fun t k => X0.ldc2Long hx hown (mvT hZ (ww hw 0 rfl)) (g := (mkF m 18 (Sh12 q1 q2 q3 q4 q5 q6 1 5) [])) rfl (B at_18) t k) ?_
   refine GoW.sg (mkF m 39 (Sh14 q1 q2 q3 q4 q5 q6 1 5 (-9223372036854775808) (Int32.toInt64 q2)) [(.int 5)]) (fun t k => XS.lstore X0.here hx rfl (B at_21) rfl (l' := (Sh13 q1 q2 q3 q4 q5 q6 1 5 (-9223372036854775808))) rfl (XS.iload X0.here hx rfl (B at_23) rfl (XS.ifNo X0.here hx rfl (B at_25) rfl (by decide) (XS.iloadN X0.here hx rfl (B at_28) rfl (XS.i2l X0.here hx rfl (B at_29) rfl (XS.goto X0.here hx rfl (pc0 := 30) (pc' := 35) rfl (B at_30) (by decide) (by decide) (XS.lstore X0.here hx rfl (B at_35) rfl (l' := (Sh14 q1 q2 q3 q4 q5 q6 1 5 (-9223372036854775808) (Int32.toInt64 q2))) rfl (XS.iload X0.here hx rfl (B at_37) rfl k)))))))) ?_
   refine GoW.sg (mkF m 55 (Sh15 q1 q2 q3 q4 q5 q6 1 5 (-9223372036854775808) (Int32.toInt64 q2) (Int32.toInt64 q3)) [(.int 2), (.int 5)]) (fun t k => XS.iconst X0.here hx rfl (B at_39) (XS.icmpNo X0.here hx rfl (B at_40) rfl (by decide) (XS.iloadN X0.here hx rfl (B at_43) rfl (XS.i2l X0.here hx rfl (B at_44) rfl (XS.goto X0.here hx rfl (pc0 := 45) (pc' := 50) rfl (B at_45) (by decide) (by decide) (XS.lstore X0.here hx rfl (B at_50) rfl (l' := (Sh15 q1 q2 q3 q4 q5 q6 1 5 (-9223372036854775808) (Int32.toInt64 q2) (Int32.toInt64 q3))) rfl (XS.iload X0.here hx rfl (B at_52) rfl (XS.iconst X0.here hx rfl (B at_54) k)))))))) ?_
   refine GoW.sg (mkF m 73 (Sh16 q1 q2 q3 q4 q5 q6 1 5 (-9223372036854775808) (Int32.toInt64 q2) (Int32.toInt64 q3) (Int32.toInt64 q4)) []) (fun t k => XS.icmpNo X0.here hx rfl (B at_55) rfl (by decide) (XS.iloadN X0.here hx rfl (B at_58) rfl (XS.i2l X0.here hx rfl (B at_59) rfl (XS.goto X0.here hx rfl (pc0 := 60) (pc' := 65) rfl (B at_60) (by decide) (by decide) (XS.lstore X0.here hx rfl (B at_65) rfl (l' := (Sh16 q1 q2 q3 q4 q5 q6 1 5 (-9223372036854775808) (Int32.toInt64 q2) (Int32.toInt64 q3) (Int32.toInt64 q4))) rfl (XS.iload X0.here hx rfl (B at_67) rfl (XS.iconst X0.here hx rfl (B at_69) (XS.icmpNo X0.here hx rfl (B at_70) rfl (by decide) k)))))))) ?_
   refine GoW.sg (mkF m 91 (Sh17 q1 q2 q3 q4 q5 q6 1 5 (-9223372036854775808) (Int32.toInt64 q2) (Int32.toInt64 q3) (Int32.toInt64 q4) (Int32.toInt64 q5)) [(.int q6)]) (fun t k => XS.iload X0.here hx rfl (B at_73) rfl (XS.i2l X0.here hx rfl (B at_75) rfl (XS.goto X0.here hx rfl (pc0 := 76) (pc' := 81) rfl (B at_76) (by decide) (by decide) (XS.lstore X0.here hx rfl (B at_81) rfl (l' := (Sh17 q1 q2 q3 q4 q5 q6 1 5 (-9223372036854775808) (Int32.toInt64 q2) (Int32.toInt64 q3) (Int32.toInt64 q4) (Int32.toInt64 q5))) rfl (XS.iload X0.here hx rfl (B at_83) rfl (XS.iconst X0.here hx rfl (B at_85) (XS.icmpNo X0.here hx rfl (B at_86) rfl (by decide) (XS.iload X0.here hx rfl (B at_89) rfl k)))))))) ?_
   refine GoW.sg (mkF m 99 (Sh18 q1 q2 q3 q4 q5 q6 1 5 (-9223372036854775808) (Int32.toInt64 q2) (Int32.toInt64 q3) (Int32.toInt64 q4) (Int32.toInt64 q5) (Int32.toInt64 q6)) []) (fun t k => XS.i2l X0.here hx rfl (B at_91) rfl (XS.goto X0.here hx rfl (pc0 := 92) (pc' := 97) rfl (B at_92) (by decide) (by decide) (XS.lstore X0.here hx rfl (B at_97) rfl (l' := (Sh18 q1 q2 q3 q4 q5 q6 1 5 (-9223372036854775808) (Int32.toInt64 q2) (Int32.toInt64 q3) (Int32.toInt64 q4) (Int32.toInt64 q5) (Int32.toInt64 q6))) rfl k))) ?_
   obtain ⟨va, hva⟩ : ∃ z : Int64, z = (Int32.toInt64 q2) := ⟨_, rfl⟩
   obtain ⟨vb, hvb⟩ : ∃ z : Int64, z = (Int32.toInt64 q3) := ⟨_, rfl⟩
   obtain ⟨vc, hvc⟩ : ∃ z : Int64, z = (Int32.toInt64 q4) := ⟨_, rfl⟩
   obtain ⟨vd, hvd⟩ : ∃ z : Int64, z = (Int32.toInt64 q5) := ⟨_, rfl⟩
   obtain ⟨ve, hve⟩ : ∃ z : Int64, z = (Int32.toInt64 q6) := ⟨_, rfl⟩
   obtain ⟨mi, hmi⟩ : ∃ z : Int64, z = (-9223372036854775808 : Int64) := ⟨_, rfl⟩
   refine GoW.st (fun t k => by rw [hva, hvb, hvc, hvd, hve, hmi] at k; exact k) ?_ (u := s₁.setTop (mkF m 99 (Sh18 q1 q2 q3 q4 q5 q6 1 5 mi va vb vc vd ve) []))
   show GoW p e below s (ValQ (.int (1 : Int32)) n0) room_1.cells room_1.slots (s₁.setTop (mkF m 99 (Sh18 q1 q2 q3 q4 q5 q6 1 5 mi va vb vc vd ve) []))
   obtain ⟨T957, h957, X957, e957, E957, A957, D957, -, st957⟩ := newO X0 hx hZ hown (ww hw 1 rfl) (ww hw 2 rfl) (ww hw 3 rfl) e0 (g := (mkF m 99 (Sh18 q1 q2 q3 q4 q5 q6 1 5 mi va vb vc vd ve) [])) rfl (B at_99) (by decide) (by decide)
   obtain ⟨b957, g957⟩ : ∃ z, z = h0.size := ⟨_, rfl⟩
   rw [← g957] at A957 D957 st957
   have g_b957 : n0 ≤ b957 := Nat.le_trans Z0 (Nat.le_of_eq g957.symm)
   have f957_21 := Nat.le_trans Z0 E957.1
   have F957heap : Fld Z h957 b957 HSn "heap" "[D" .null := D957 (Or.inr (ww hw 12 rfl)) (ty := (.array .double)) (by decide)
   have F957size : Fld Z h957 b957 HSn "size" "I" (.int (0 : Int32)) := D957 (Or.inl (ww hw 19 rfl)) (ty := .int) (by decide)
   refine GoW.sg (mkF m 102 (Sh18 q1 q2 q3 q4 q5 q6 1 5 mi va vb vc vd ve) [(.ref b957)]) (fun t k => st957 t k) ?_
   refine GoW.sg (mkF m 105 (Sh18 q1 q2 q3 q4 q5 q6 1 5 mi va vb vc vd ve) [(.int 1), (.ref b957), (.ref b957)]) (fun t k => XS.dup X957.here hx rfl (B at_102) rfl rfl (XS.iload X957.here hx rfl (B at_103) rfl k)) ?_
   obtain ⟨_, T958, L958, X958, hQ958, st958⟩ := own_spec X957 hx hZ (y := Y1) rfl hown (ww hw 4 rfl) (ww hw 5 rfl) (ww hw 3 rfl) (ww hw 6 rfl) (by decide) 1 (a := b957) (rm1_30 l Z a0 hw b957 h957 n0 f957_21 A957 F957heap F957size g_b957 ) (by decide) (by decide) e957 (by decide) (by decide) (g := (mkF m 105 (Sh18 q1 q2 q3 q4 q5 q6 1 5 mi va vb vc vd ve) [(.int 1), (.ref b957), (.ref b957)])) rfl (by rw [hml]; rfl) (argsL := [(.int (1 : Int32))]) (rest := [(.ref b957)]) (lenOf pd_28I29V rfl) rfl (Nat.le_of_eq rfl) (B at_105)
   obtain ⟨b958_e0, k958_ke0, rfl, N958q, K958, p958_0, p958_1, p958_2, p958_3, hz_b958_e0⟩ := hQ958
   have g_b958_e0 : n0 ≤ b958_e0 := Nat.le_trans f957_21 hz_b958_e0
   have ne_b957_b958_e0 : b957 ≠ b958_e0 := Nat.ne_of_lt (Nat.lt_of_lt_of_le A957.lt hz_b958_e0)
   have N958 := Fr.app N0 N958q
   refine GoW.sg (mkF m 108 (Sh18 q1 q2 q3 q4 q5 q6 1 5 mi va vb vc vd ve) [(.ref b957)]) (fun t k => st958 t k) ?_
   refine GoW.sg (mkF m 118 (Sh19 q1 q2 q3 q4 q5 q6 1 5 mi va vb vc vd ve b957) [(.int q2), (.ref b957)]) (fun t k => XS.astore X958.here hx rfl (B at_108) rfl rfl (l' := (Sh19 q1 q2 q3 q4 q5 q6 1 5 mi va vb vc vd ve b957)) rfl (XS.iload X958.here hx rfl (B at_110) rfl (XS.ifNo X958.here hx rfl (B at_112) rfl (by decide) (XS.aload X958.here hx rfl (B at_115) rfl rfl (XS.iloadN X958.here hx rfl (B at_117) rfl k))))) ?_
   obtain ⟨d959, hd959⟩ : ∃ d : UInt64, d = FP.l2d q2.toInt64 := ⟨_, rfl⟩
   refine GoW.sg (mkF m 119 (Sh19 q1 q2 q3 q4 q5 q6 1 5 mi va vb vc vd ve b957) [(.double d959), (.ref b957)]) (fun t k => XS.i2dS X958.here hx rfl (B at_118) rfl (v := d959) ((i2d_w _).trans hd959.symm) k) ?_
   obtain ⟨_, T960, L960, X960, hQ960, st960⟩ := own_virt X958 hx hZ (y := Y4) hown (ww hw 22 rfl) (ww hw 23 rfl) (ww hw 25 rfl) (ww hw 24 rfl) (ww hw 26 rfl) (ww hw 3 rfl) (by decide) 0 (a := b957) (rmO10 l Z a0 hw b957 d959 q2 b958_e0 k958_ke0 T958.heap n0 p958_0 p958_2 p958_1 p958_3 g_b957 g_b958_e0 ne_b957_b958_e0 hd959 trivial) (by decide) (by decide) rfl p958_0 (by decide) (by decide) (g := (mkF m 119 (Sh19 q1 q2 q3 q4 q5 q6 1 5 mi va vb vc vd ve b957) [(.double d959), (.ref b957)])) rfl (by rw [hml]; rfl) (argsL := [(.double d959)]) (rest := []) (lenOf pd_28D29V rfl) rfl (Nat.le_of_eq rfl) (B at_119)
   obtain ⟨k960_w0, k960_f0, rfl, N960q, K960, p960_0, p960_1, p960_2, p960_3, LQ960⟩ := hQ960
   have N960 := Fr.app N958 N960q
   refine GoW.sg (mkF m 122 (Sh19 q1 q2 q3 q4 q5 q6 1 5 mi va vb vc vd ve b957) []) (fun t k => st960 t k) ?_
   obtain ⟨hf960_0, hH960, hR960⟩ := LQ960
   have A960 : ∀ z : Int, cn z k960_w0 = cn z q2 := fun z => by have _a := hR960 z; have _c := own_cn z q2; omega
   refine GoW.sg (mkF m 131 (Sh19 q1 q2 q3 q4 q5 q6 1 5 mi va vb vc vd ve b957) [(.int q3), (.ref b957)]) (fun t k => XS.iload X960.here hx rfl (B at_122) rfl (XS.iconst X960.here hx rfl (B at_124) (XS.icmpNo X960.here hx rfl (B at_125) rfl (by decide) (XS.aload X960.here hx rfl (B at_128) rfl rfl (XS.iloadN X960.here hx rfl (B at_130) rfl k))))) ?_
   obtain ⟨d961, hd961⟩ : ∃ d : UInt64, d = FP.l2d q3.toInt64 := ⟨_, rfl⟩
   refine GoW.sg (mkF m 132 (Sh19 q1 q2 q3 q4 q5 q6 1 5 mi va vb vc vd ve b957) [(.double d961), (.ref b957)]) (fun t k => XS.i2dS X960.here hx rfl (B at_131) rfl (v := d961) ((i2d_w _).trans hd961.symm) k) ?_
   obtain ⟨_, T962, L962, X962, hQ962, st962⟩ := own_virt X960 hx hZ (y := Y4) hown (ww hw 22 rfl) (ww hw 23 rfl) (ww hw 25 rfl) (ww hw 24 rfl) (ww hw 26 rfl) (ww hw 3 rfl) (by decide) 0 (a := b957) (rmO11 l Z a0 hw b957 d961 q3 k960_w0 k960_f0 b958_e0 k958_ke0 T960.heap n0 p960_0 p960_1 p960_2 p960_3 g_b957 g_b958_e0 ne_b957_b958_e0 hf960_0 hd961 hH960) (by decide) (by decide) rfl p960_0 (by decide) (by decide) (g := (mkF m 132 (Sh19 q1 q2 q3 q4 q5 q6 1 5 mi va vb vc vd ve b957) [(.double d961), (.ref b957)])) rfl (by rw [hml]; rfl) (argsL := [(.double d961)]) (rest := []) (lenOf pd_28D29V rfl) rfl (Nat.le_of_eq rfl) (B at_132)
   obtain ⟨k962_w0, k962_f0, rfl, N962q, K962, p962_0, p962_1, p962_2, p962_3, LQ962⟩ := hQ962
   have N962 := Fr.app N960 N962q
   refine GoW.sg (mkF m 135 (Sh19 q1 q2 q3 q4 q5 q6 1 5 mi va vb vc vd ve b957) []) (fun t k => st962 t k) ?_
   obtain ⟨hf962_0, hH962, hR962⟩ := LQ962
   have A962 : ∀ z : Int, cn z k962_w0 = min 1 (cn z q2 + cn z q3) := fun z => by have _a := hR962 z; have _b := A960 z; have _c := own_cn z q3; omega
   refine GoW.sg (mkF m 144 (Sh19 q1 q2 q3 q4 q5 q6 1 5 mi va vb vc vd ve b957) [(.int q4), (.ref b957)]) (fun t k => XS.iload X962.here hx rfl (B at_135) rfl (XS.iconst X962.here hx rfl (B at_137) (XS.icmpNo X962.here hx rfl (B at_138) rfl (by decide) (XS.aload X962.here hx rfl (B at_141) rfl rfl (XS.iloadN X962.here hx rfl (B at_143) rfl k))))) ?_
   obtain ⟨d963, hd963⟩ : ∃ d : UInt64, d = FP.l2d q4.toInt64 := ⟨_, rfl⟩
   refine GoW.sg (mkF m 145 (Sh19 q1 q2 q3 q4 q5 q6 1 5 mi va vb vc vd ve b957) [(.double d963), (.ref b957)]) (fun t k => XS.i2dS X962.here hx rfl (B at_144) rfl (v := d963) ((i2d_w _).trans hd963.symm) k) ?_
   obtain ⟨_, T964, L964, X964, hQ964, st964⟩ := own_virt X962 hx hZ (y := Y4) hown (ww hw 22 rfl) (ww hw 23 rfl) (ww hw 25 rfl) (ww hw 24 rfl) (ww hw 26 rfl) (ww hw 3 rfl) (by decide) 0 (a := b957) (rmO11 l Z a0 hw b957 d963 q4 k962_w0 k962_f0 b958_e0 k958_ke0 T962.heap n0 p962_0 p962_1 p962_2 p962_3 g_b957 g_b958_e0 ne_b957_b958_e0 hf962_0 hd963 hH962) (by decide) (by decide) rfl p962_0 (by decide) (by decide) (g := (mkF m 145 (Sh19 q1 q2 q3 q4 q5 q6 1 5 mi va vb vc vd ve b957) [(.double d963), (.ref b957)])) rfl (by rw [hml]; rfl) (argsL := [(.double d963)]) (rest := []) (lenOf pd_28D29V rfl) rfl (Nat.le_of_eq rfl) (B at_145)
   obtain ⟨k964_w0, k964_f0, rfl, N964q, K964, p964_0, p964_1, p964_2, p964_3, LQ964⟩ := hQ964
   have N964 := Fr.app N962 N964q
   refine GoW.sg (mkF m 148 (Sh19 q1 q2 q3 q4 q5 q6 1 5 mi va vb vc vd ve b957) []) (fun t k => st964 t k) ?_
   obtain ⟨hf964_0, hH964, hR964⟩ := LQ964
   have A964 : ∀ z : Int, cn z k964_w0 = min 1 (cn z q2 + cn z q3 + cn z q4) := fun z => by have _a := hR964 z; have _b := A962 z; have _c := own_cn z q4; omega
   refine GoW.sg (mkF m 158 (Sh19 q1 q2 q3 q4 q5 q6 1 5 mi va vb vc vd ve b957) [(.int q5), (.ref b957)]) (fun t k => XS.iload X964.here hx rfl (B at_148) rfl (XS.iconst X964.here hx rfl (B at_150) (XS.icmpNo X964.here hx rfl (B at_151) rfl (by decide) (XS.aload X964.here hx rfl (B at_154) rfl rfl (XS.iload X964.here hx rfl (B at_156) rfl k))))) ?_
   obtain ⟨d965, hd965⟩ : ∃ d : UInt64, d = FP.l2d q5.toInt64 := ⟨_, rfl⟩
   refine GoW.sg (mkF m 159 (Sh19 q1 q2 q3 q4 q5 q6 1 5 mi va vb vc vd ve b957) [(.double d965), (.ref b957)]) (fun t k => XS.i2dS X964.here hx rfl (B at_158) rfl (v := d965) ((i2d_w _).trans hd965.symm) k) ?_
   obtain ⟨_, T966, L966, X966, hQ966, st966⟩ := own_virt X964 hx hZ (y := Y4) hown (ww hw 22 rfl) (ww hw 23 rfl) (ww hw 25 rfl) (ww hw 24 rfl) (ww hw 26 rfl) (ww hw 3 rfl) (by decide) 0 (a := b957) (rmO11 l Z a0 hw b957 d965 q5 k964_w0 k964_f0 b958_e0 k958_ke0 T964.heap n0 p964_0 p964_1 p964_2 p964_3 g_b957 g_b958_e0 ne_b957_b958_e0 hf964_0 hd965 hH964) (by decide) (by decide) rfl p964_0 (by decide) (by decide) (g := (mkF m 159 (Sh19 q1 q2 q3 q4 q5 q6 1 5 mi va vb vc vd ve b957) [(.double d965), (.ref b957)])) rfl (by rw [hml]; rfl) (argsL := [(.double d965)]) (rest := []) (lenOf pd_28D29V rfl) rfl (Nat.le_of_eq rfl) (B at_159)
   obtain ⟨k966_w0, k966_f0, rfl, N966q, K966, p966_0, p966_1, p966_2, p966_3, LQ966⟩ := hQ966
   have N966 := Fr.app N964 N966q
   refine GoW.sg (mkF m 162 (Sh19 q1 q2 q3 q4 q5 q6 1 5 mi va vb vc vd ve b957) []) (fun t k => st966 t k) ?_
   obtain ⟨hf966_0, hH966, hR966⟩ := LQ966
   have A966 : ∀ z : Int, cn z k966_w0 = min 1 (cn z q2 + cn z q3 + cn z q4 + cn z q5) := fun z => by have _a := hR966 z; have _b := A964 z; have _c := own_cn z q5; omega
   refine GoW.sg (mkF m 172 (Sh19 q1 q2 q3 q4 q5 q6 1 5 mi va vb vc vd ve b957) [(.int q6), (.ref b957)]) (fun t k => XS.iload X966.here hx rfl (B at_162) rfl (XS.iconst X966.here hx rfl (B at_164) (XS.icmpNo X966.here hx rfl (B at_165) rfl (by decide) (XS.aload X966.here hx rfl (B at_168) rfl rfl (XS.iload X966.here hx rfl (B at_170) rfl k))))) ?_
   obtain ⟨d967, hd967⟩ : ∃ d : UInt64, d = FP.l2d q6.toInt64 := ⟨_, rfl⟩
   refine GoW.sg (mkF m 173 (Sh19 q1 q2 q3 q4 q5 q6 1 5 mi va vb vc vd ve b957) [(.double d967), (.ref b957)]) (fun t k => XS.i2dS X966.here hx rfl (B at_172) rfl (v := d967) ((i2d_w _).trans hd967.symm) k) ?_
   obtain ⟨_, T968, L968, X968, hQ968, st968⟩ := own_virt X966 hx hZ (y := Y4) hown (ww hw 22 rfl) (ww hw 23 rfl) (ww hw 25 rfl) (ww hw 24 rfl) (ww hw 26 rfl) (ww hw 3 rfl) (by decide) 0 (a := b957) (rmO11 l Z a0 hw b957 d967 q6 k966_w0 k966_f0 b958_e0 k958_ke0 T966.heap n0 p966_0 p966_1 p966_2 p966_3 g_b957 g_b958_e0 ne_b957_b958_e0 hf966_0 hd967 hH966) (by decide) (by decide) rfl p966_0 (by decide) (by decide) (g := (mkF m 173 (Sh19 q1 q2 q3 q4 q5 q6 1 5 mi va vb vc vd ve b957) [(.double d967), (.ref b957)])) rfl (by rw [hml]; rfl) (argsL := [(.double d967)]) (rest := []) (lenOf pd_28D29V rfl) rfl (Nat.le_of_eq rfl) (B at_173)
   obtain ⟨k968_w0, k968_f0, rfl, N968q, K968, p968_0, p968_1, p968_2, p968_3, LQ968⟩ := hQ968
   have N968 := Fr.app N966 N968q
   refine GoW.sg (mkF m 176 (Sh19 q1 q2 q3 q4 q5 q6 1 5 mi va vb vc vd ve b957) []) (fun t k => st968 t k) ?_
   obtain ⟨hf968_0, hH968, hR968⟩ := LQ968
   have A968 : ∀ z : Int, cn z k968_w0 = min 1 (cn z q2 + cn z q3 + cn z q4 + cn z q5 + cn z q6) := fun z => by have _a := hR968 z; have _b := A966 z; have _c := own_cn z q6; omega
   refine GoW.sg (mkF m 178 (Sh19 q1 q2 q3 q4 q5 q6 1 5 mi va vb vc vd ve b957) [(.ref b957)]) (fun t k => XS.aload X968.here hx rfl (B at_176) rfl rfl k) ?_
   obtain ⟨_, T969, L969, X969, hQ969, st969⟩ := own_virt X968 hx hZ (y := Y3) hown (ww hw 13 rfl) (ww hw 14 rfl) (ww hw 16 rfl) (ww hw 15 rfl) (ww hw 17 rfl) (ww hw 3 rfl) (by decide) 0 (a := b957) (rm3_32 l Z a0 hw b957 b958_e0 k958_ke0 k968_f0 k968_w0 T968.heap n0 p968_2 p968_1 p968_3 hf968_0 ) (by decide) (by decide) rfl p968_0 (by decide) (by decide) (g := (mkF m 178 (Sh19 q1 q2 q3 q4 q5 q6 1 5 mi va vb vc vd ve b957) [(.ref b957)])) rfl (by rw [hml]; rfl) (argsL := []) (rest := []) (lenOf pd_2829D rfl) rfl (Nat.le_of_eq rfl) (B at_178)
   obtain ⟨rfl, N969q, e969⟩ := hQ969
   have N969 := Fr.app N968 N969q
   refine GoW.sg (mkF m 181 (Sh19 q1 q2 q3 q4 q5 q6 1 5 mi va vb vc vd ve b957) [(.double k968_f0)]) (fun t k => st969 t k) ?_
   refine GoW.sg (mkF m 205 (Sh10 q1 q2 q3 q4 q5 q6 1 5 mi va vb vc vd ve b957 k968_f0) []) (fun t k => XS.dstore X969.here hx rfl (B at_181) rfl (l' := (Sh10 q1 q2 q3 q4 q5 q6 1 5 mi va vb vc vd ve b957 k968_f0)) rfl (XS.iload X969.here hx rfl (B at_183) rfl (XS.iload X969.here hx rfl (B at_185) rfl (XS.icmpYes X969.here hx rfl (pc0 := 187) (pc' := 205) rfl (B at_187) rfl (by decide) (by decide) (by decide) k)))) ?_
   exact J _ _ _ _ _ _ _ _ _ _ _ _ k968_w0 X969 e969 N969 hf968_0 (fun r1 r2 r3 r4 r5 h1 h2 h3 h4 h5 => by subst hva hvb hvc hvd hve hmi; exact own_fin15 h1 h2 h3 h4 h5 hH968 A968)
 ·rw [vv]
  show GoW p e below s (ValQ (.int (1 : Int32)) n0) room_1.cells room_1.slots (s₁.setTop (mkF m 7 (Sh9 q1 q2 q3 q4 q5 q6 2) []))
  refine GoW.sg (mkF m 10 (Sh9 q1 q2 q3 q4 q5 q6 2) [(.int (q1.toUInt32 >>> ((2 : Int32) &&& 31).toUInt32).toInt32)]) (fun t k => XS.iloadN X0.here hx rfl (B at_7) rfl (XS.iconst X0.here hx rfl (B at_8) (XS.iushr X0.here hx rfl (B at_9) rfl k))) ?_
  have J : ∀ (Tj : State) (Lj : List Loc) (hj : Heap) (nn : Int32) (mi va vb vc vd ve : Int64) (bb : Addr) (f0 : UInt64) (w0 : Int32), Stand p l e room_1 s m #[(.int q1), (.int q2), (.int q3), (.int q4), (.int q5), (.int q6)] below meth c Tj Lj 2 4 → Tj.heap = hj → Fr n0 Lj → f0 = FP.l2d (Int32.toInt64 w0) → (∀ r1 r2 r3 r4 r5 : Int64, r1 = (F6 mi va (2 : Int32) va vb vc vd ve) → r2 = (F6 r1 vb (2 : Int32) va vb vc vd ve) → r3 = (F6 r2 vc (2 : Int32) va vb vc vd ve) → r4 = (F6 r3 vd (2 : Int32) va vb vc vd ve) → r5 = (F6 r4 ve (2 : Int32) va vb vc vd ve) → r5 = (Int32.toInt64 w0)) → GoW p e below s (ValQ (.int (1 : Int32)) n0) room_1.cells room_1.slots (Tj.setTop (mkF m 205 (Sh10 q1 q2 q3 q4 q5 q6 2 nn mi va vb vc vd ve bb f0) [])) := by
   intro Tj Lj hj nn mi va vb vc vd ve bb f0 w0 Xj ej Nj hf0 hF
   refine GoW.sg (mkF m 221 (Sh11 q1 q2 q3 q4 q5 q6 2 nn mi va vb vc vd ve bb f0 mi) [(.long vc), (.long vb), (.long va), (.int 2), (.long va), (.long mi)]) (fun t k => XS.lload Xj.here hx rfl (B at_205) rfl (XS.lstore Xj.here hx rfl (B at_207) rfl (l' := (Sh11 q1 q2 q3 q4 q5 q6 2 nn mi va vb vc vd ve bb f0 mi)) rfl (XS.lload Xj.here hx rfl (B at_209) rfl (XS.lload Xj.here hx rfl (B at_211) rfl (XS.iload Xj.here hx rfl (B at_213) rfl (XS.lload Xj.here hx rfl (B at_215) rfl (XS.lload Xj.here hx rfl (B at_217) rfl (XS.lload Xj.here hx rfl (B at_219) rfl k)))))))) ?_
   refine GoW.sg (mkF m 225 (Sh11 q1 q2 q3 q4 q5 q6 2 nn mi va vb vc vd ve bb f0 mi) [(.long ve), (.long vd), (.long vc), (.long vb), (.long va), (.int 2), (.long va), (.long mi)]) (fun t k => XS.lload Xj.here hx rfl (B at_221) rfl (XS.lload Xj.here hx rfl (B at_223) rfl k)) ?_
   obtain ⟨_, T970, L970, X970, hQ970, st970⟩ := own_callS Xj hx hZ hown (y := Y6) (ww hw 31 rfl) (ww hw 32 rfl) (ww hw 33 rfl) (ww hw 34 rfl) (by decide) 0 (rm6 l Z a0 hw mi va (2 : Int32) va vb vc vd ve hj n0) (by decide) (by decide) ej (by decide) (by decide) (g := (mkF m 225 (Sh11 q1 q2 q3 q4 q5 q6 2 nn mi va vb vc vd ve bb f0 mi) [(.long ve), (.long vd), (.long vc), (.long vb), (.long va), (.int 2), (.long va), (.long mi)])) rfl (by rw [hml]; rfl) (argsL := [(.long mi), (.long va), (.int (2 : Int32)), (.long va), (.long vb), (.long vc), (.long vd), (.long ve)]) (rest := []) (lenOf pd_28JJIJJJJJ29J rfl) rfl (Nat.le_of_eq rfl) (B at_225)
   obtain ⟨rfl, N970q, e970⟩ := hQ970
   have N970 := Fr.app Nj N970q
   refine GoW.sg (mkF m 228 (Sh11 q1 q2 q3 q4 q5 q6 2 nn mi va vb vc vd ve bb f0 mi) [(.long (F6 mi va (2 : Int32) va vb vc vd ve))]) (fun t k => st970 t k) ?_
   refine GoW.sg (mkF m 230 (Sh11 q1 q2 q3 q4 q5 q6 2 nn mi va vb vc vd ve bb f0 (F6 mi va (2 : Int32) va vb vc vd ve)) []) (fun t k => XS.lstore X970.here hx rfl (B at_228) rfl (l' := (Sh11 q1 q2 q3 q4 q5 q6 2 nn mi va vb vc vd ve bb f0 (F6 mi va (2 : Int32) va vb vc vd ve))) rfl k) ?_
   obtain ⟨r1, hr1⟩ : ∃ z : Int64, z = (F6 mi va (2 : Int32) va vb vc vd ve) := ⟨_, rfl⟩
   rw [← hr1]
   show GoW p e below s (ValQ (.int (1 : Int32)) n0) room_1.cells room_1.slots (T970.setTop (mkF m 230 (Sh11 q1 q2 q3 q4 q5 q6 2 nn mi va vb vc vd ve bb f0 r1) []))
   refine GoW.sg (mkF m 246 (Sh11 q1 q2 q3 q4 q5 q6 2 nn mi va vb vc vd ve bb f0 r1) [(.long ve), (.long vd), (.long vc), (.long vb), (.long va), (.int 2), (.long vb), (.long r1)]) (fun t k => XS.lload X970.here hx rfl (B at_230) rfl (XS.lload X970.here hx rfl (B at_232) rfl (XS.iload X970.here hx rfl (B at_234) rfl (XS.lload X970.here hx rfl (B at_236) rfl (XS.lload X970.here hx rfl (B at_238) rfl (XS.lload X970.here hx rfl (B at_240) rfl (XS.lload X970.here hx rfl (B at_242) rfl (XS.lload X970.here hx rfl (B at_244) rfl k)))))))) ?_
   obtain ⟨_, T971, L971, X971, hQ971, st971⟩ := own_callS X970 hx hZ hown (y := Y6) (ww hw 31 rfl) (ww hw 32 rfl) (ww hw 33 rfl) (ww hw 34 rfl) (by decide) 0 (rm6 l Z a0 hw r1 vb (2 : Int32) va vb vc vd ve hj n0) (by decide) (by decide) e970 (by decide) (by decide) (g := (mkF m 246 (Sh11 q1 q2 q3 q4 q5 q6 2 nn mi va vb vc vd ve bb f0 r1) [(.long ve), (.long vd), (.long vc), (.long vb), (.long va), (.int 2), (.long vb), (.long r1)])) rfl (by rw [hml]; rfl) (argsL := [(.long r1), (.long vb), (.int (2 : Int32)), (.long va), (.long vb), (.long vc), (.long vd), (.long ve)]) (rest := []) (lenOf pd_28JJIJJJJJ29J rfl) rfl (Nat.le_of_eq rfl) (B at_246)
   obtain ⟨rfl, N971q, e971⟩ := hQ971
   have N971 := Fr.app N970 N971q
   refine GoW.sg (mkF m 249 (Sh11 q1 q2 q3 q4 q5 q6 2 nn mi va vb vc vd ve bb f0 r1) [(.long (F6 r1 vb (2 : Int32) va vb vc vd ve))]) (fun t k => st971 t k) ?_
   refine GoW.sg (mkF m 251 (Sh11 q1 q2 q3 q4 q5 q6 2 nn mi va vb vc vd ve bb f0 (F6 r1 vb (2 : Int32) va vb vc vd ve)) []) (fun t k => XS.lstore X971.here hx rfl (B at_249) rfl (l' := (Sh11 q1 q2 q3 q4 q5 q6 2 nn mi va vb vc vd ve bb f0 (F6 r1 vb (2 : Int32) va vb vc vd ve))) rfl k) ?_
   obtain ⟨r2, hr2⟩ : ∃ z : Int64, z = (F6 r1 vb (2 : Int32) va vb vc vd ve) := ⟨_, rfl⟩
   rw [← hr2]
   show GoW p e below s (ValQ (.int (1 : Int32)) n0) room_1.cells room_1.slots (T971.setTop (mkF m 251 (Sh11 q1 q2 q3 q4 q5 q6 2 nn mi va vb vc vd ve bb f0 r2) []))
   refine GoW.sg (mkF m 267 (Sh11 q1 q2 q3 q4 q5 q6 2 nn mi va vb vc vd ve bb f0 r2) [(.long ve), (.long vd), (.long vc), (.long vb), (.long va), (.int 2), (.long vc), (.long r2)]) (fun t k => XS.lload X971.here hx rfl (B at_251) rfl (XS.lload X971.here hx rfl (B at_253) rfl (XS.iload X971.here hx rfl (B at_255) rfl (XS.lload X971.here hx rfl (B at_257) rfl (XS.lload X971.here hx rfl (B at_259) rfl (XS.lload X971.here hx rfl (B at_261) rfl (XS.lload X971.here hx rfl (B at_263) rfl (XS.lload X971.here hx rfl (B at_265) rfl k)))))))) ?_
   obtain ⟨_, T972, L972, X972, hQ972, st972⟩ := own_callS X971 hx hZ hown (y := Y6) (ww hw 31 rfl) (ww hw 32 rfl) (ww hw 33 rfl) (ww hw 34 rfl) (by decide) 0 (rm6 l Z a0 hw r2 vc (2 : Int32) va vb vc vd ve hj n0) (by decide) (by decide) e971 (by decide) (by decide) (g := (mkF m 267 (Sh11 q1 q2 q3 q4 q5 q6 2 nn mi va vb vc vd ve bb f0 r2) [(.long ve), (.long vd), (.long vc), (.long vb), (.long va), (.int 2), (.long vc), (.long r2)])) rfl (by rw [hml]; rfl) (argsL := [(.long r2), (.long vc), (.int (2 : Int32)), (.long va), (.long vb), (.long vc), (.long vd), (.long ve)]) (rest := []) (lenOf pd_28JJIJJJJJ29J rfl) rfl (Nat.le_of_eq rfl) (B at_267)
   obtain ⟨rfl, N972q, e972⟩ := hQ972
   have N972 := Fr.app N971 N972q
   refine GoW.sg (mkF m 270 (Sh11 q1 q2 q3 q4 q5 q6 2 nn mi va vb vc vd ve bb f0 r2) [(.long (F6 r2 vc (2 : Int32) va vb vc vd ve))]) (fun t k => st972 t k) ?_
   refine GoW.sg (mkF m 272 (Sh11 q1 q2 q3 q4 q5 q6 2 nn mi va vb vc vd ve bb f0 (F6 r2 vc (2 : Int32) va vb vc vd ve)) []) (fun t k => XS.lstore X972.here hx rfl (B at_270) rfl (l' := (Sh11 q1 q2 q3 q4 q5 q6 2 nn mi va vb vc vd ve bb f0 (F6 r2 vc (2 : Int32) va vb vc vd ve))) rfl k) ?_
   obtain ⟨r3, hr3⟩ : ∃ z : Int64, z = (F6 r2 vc (2 : Int32) va vb vc vd ve) := ⟨_, rfl⟩
   rw [← hr3]
   show GoW p e below s (ValQ (.int (1 : Int32)) n0) room_1.cells room_1.slots (T972.setTop (mkF m 272 (Sh11 q1 q2 q3 q4 q5 q6 2 nn mi va vb vc vd ve bb f0 r3) []))
   refine GoW.sg (mkF m 288 (Sh11 q1 q2 q3 q4 q5 q6 2 nn mi va vb vc vd ve bb f0 r3) [(.long ve), (.long vd), (.long vc), (.long vb), (.long va), (.int 2), (.long vd), (.long r3)]) (fun t k => XS.lload X972.here hx rfl (B at_272) rfl (XS.lload X972.here hx rfl (B at_274) rfl (XS.iload X972.here hx rfl (B at_276) rfl (XS.lload X972.here hx rfl (B at_278) rfl (XS.lload X972.here hx rfl (B at_280) rfl (XS.lload X972.here hx rfl (B at_282) rfl (XS.lload X972.here hx rfl (B at_284) rfl (XS.lload X972.here hx rfl (B at_286) rfl k)))))))) ?_
   obtain ⟨_, T973, L973, X973, hQ973, st973⟩ := own_callS X972 hx hZ hown (y := Y6) (ww hw 31 rfl) (ww hw 32 rfl) (ww hw 33 rfl) (ww hw 34 rfl) (by decide) 0 (rm6 l Z a0 hw r3 vd (2 : Int32) va vb vc vd ve hj n0) (by decide) (by decide) e972 (by decide) (by decide) (g := (mkF m 288 (Sh11 q1 q2 q3 q4 q5 q6 2 nn mi va vb vc vd ve bb f0 r3) [(.long ve), (.long vd), (.long vc), (.long vb), (.long va), (.int 2), (.long vd), (.long r3)])) rfl (by rw [hml]; rfl) (argsL := [(.long r3), (.long vd), (.int (2 : Int32)), (.long va), (.long vb), (.long vc), (.long vd), (.long ve)]) (rest := []) (lenOf pd_28JJIJJJJJ29J rfl) rfl (Nat.le_of_eq rfl) (B at_288)
   obtain ⟨rfl, N973q, e973⟩ := hQ973
   have N973 := Fr.app N972 N973q
   refine GoW.sg (mkF m 291 (Sh11 q1 q2 q3 q4 q5 q6 2 nn mi va vb vc vd ve bb f0 r3) [(.long (F6 r3 vd (2 : Int32) va vb vc vd ve))]) (fun t k => st973 t k) ?_
   refine GoW.sg (mkF m 293 (Sh11 q1 q2 q3 q4 q5 q6 2 nn mi va vb vc vd ve bb f0 (F6 r3 vd (2 : Int32) va vb vc vd ve)) []) (fun t k => XS.lstore X973.here hx rfl (B at_291) rfl (l' := (Sh11 q1 q2 q3 q4 q5 q6 2 nn mi va vb vc vd ve bb f0 (F6 r3 vd (2 : Int32) va vb vc vd ve))) rfl k) ?_
   obtain ⟨r4, hr4⟩ : ∃ z : Int64, z = (F6 r3 vd (2 : Int32) va vb vc vd ve) := ⟨_, rfl⟩
   rw [← hr4]
   show GoW p e below s (ValQ (.int (1 : Int32)) n0) room_1.cells room_1.slots (T973.setTop (mkF m 293 (Sh11 q1 q2 q3 q4 q5 q6 2 nn mi va vb vc vd ve bb f0 r4) []))
   refine GoW.sg (mkF m 309 (Sh11 q1 q2 q3 q4 q5 q6 2 nn mi va vb vc vd ve bb f0 r4) [(.long ve), (.long vd), (.long vc), (.long vb), (.long va), (.int 2), (.long ve), (.long r4)]) (fun t k => XS.lload X973.here hx rfl (B at_293) rfl (XS.lload X973.here hx rfl (B at_295) rfl (XS.iload X973.here hx rfl (B at_297) rfl (XS.lload X973.here hx rfl (B at_299) rfl (XS.lload X973.here hx rfl (B at_301) rfl (XS.lload X973.here hx rfl (B at_303) rfl (XS.lload X973.here hx rfl (B at_305) rfl (XS.lload X973.here hx rfl (B at_307) rfl k)))))))) ?_
   obtain ⟨_, T974, L974, X974, hQ974, st974⟩ := own_callS X973 hx hZ hown (y := Y6) (ww hw 31 rfl) (ww hw 32 rfl) (ww hw 33 rfl) (ww hw 34 rfl) (by decide) 0 (rm6 l Z a0 hw r4 ve (2 : Int32) va vb vc vd ve hj n0) (by decide) (by decide) e973 (by decide) (by decide) (g := (mkF m 309 (Sh11 q1 q2 q3 q4 q5 q6 2 nn mi va vb vc vd ve bb f0 r4) [(.long ve), (.long vd), (.long vc), (.long vb), (.long va), (.int 2), (.long ve), (.long r4)])) rfl (by rw [hml]; rfl) (argsL := [(.long r4), (.long ve), (.int (2 : Int32)), (.long va), (.long vb), (.long vc), (.long vd), (.long ve)]) (rest := []) (lenOf pd_28JJIJJJJJ29J rfl) rfl (Nat.le_of_eq rfl) (B at_309)
   obtain ⟨rfl, N974q, e974⟩ := hQ974
   have N974 := Fr.app N973 N974q
   refine GoW.sg (mkF m 312 (Sh11 q1 q2 q3 q4 q5 q6 2 nn mi va vb vc vd ve bb f0 r4) [(.long (F6 r4 ve (2 : Int32) va vb vc vd ve))]) (fun t k => st974 t k) ?_
   refine GoW.sg (mkF m 314 (Sh11 q1 q2 q3 q4 q5 q6 2 nn mi va vb vc vd ve bb f0 (F6 r4 ve (2 : Int32) va vb vc vd ve)) []) (fun t k => XS.lstore X974.here hx rfl (B at_312) rfl (l' := (Sh11 q1 q2 q3 q4 q5 q6 2 nn mi va vb vc vd ve bb f0 (F6 r4 ve (2 : Int32) va vb vc vd ve))) rfl k) ?_
   obtain ⟨r5, hr5⟩ : ∃ z : Int64, z = (F6 r4 ve (2 : Int32) va vb vc vd ve) := ⟨_, rfl⟩
   rw [← hr5]
   show GoW p e below s (ValQ (.int (1 : Int32)) n0) room_1.cells room_1.slots (T974.setTop (mkF m 314 (Sh11 q1 q2 q3 q4 q5 q6 2 nn mi va vb vc vd ve bb f0 r5) []))
   refine GoW.sg (mkF m 318 (Sh11 q1 q2 q3 q4 q5 q6 2 nn mi va vb vc vd ve bb f0 r5) [(.long r5), (.double f0)]) (fun t k => XS.dload X974.here hx rfl (B at_314) rfl (XS.lload X974.here hx rfl (B at_316) rfl k)) ?_
   have hfin := hF r1 r2 r3 r4 r5 hr1 hr2 hr3 hr4 hr5
   obtain ⟨d975, hd975⟩ : ∃ d : UInt64, d = FP.l2d r5 := ⟨_, rfl⟩
   refine GoW.sg (mkF m 328 (Sh11 q1 q2 q3 q4 q5 q6 2 nn mi va vb vc vd ve bb f0 r5) [(.int 1)]) (fun t k => XS.l2dS X974.here hx rfl (B at_318) rfl (v := d975) hd975.symm (XS.dcmpS X974.here hx rfl (B at_319) rfl (v := (0 : Int32)) (by rw [hf0, hd975, hfin, dcmpV_w (own_b53 _) (own_b53 _)]; exact own_lc _) (XS.ifNo X974.here hx rfl (B at_320) rfl (by decide) (XS.iconst X974.here hx rfl (B at_323) (XS.goto X974.here hx rfl (pc0 := 324) (pc' := 328) rfl (B at_324) (by decide) (by decide) k))))) ?_
   refine GoW.retN X974 hx (t := .boolean) Bd.returns (by simp) (B at_328) Bd.notSynchronized ?_ (by decide) (by decide)
   exact ⟨rfl, N974⟩
  refine GoW.sg (mkF m 15 (Sh9 q1 q2 q3 q4 q5 q6 2) [(.int 6), (.int ((q1.toUInt32 >>> ((2 : Int32) &&& 31).toUInt32).toInt32 &&& (7 : Int32)))]) (fun t k => XS.bipush X0.here hx rfl (B at_10) (XS.iand X0.here hx rfl (B at_12) rfl (XS.bipush X0.here hx rfl (B at_13) k))) ?_
  refine GoW.sg (mkF m 16 (Sh9 q1 q2 q3 q4 q5 q6 2) [(.int (((q1.toUInt32 >>> ((2 : Int32) &&& 31).toUInt32).toInt32 &&& (7 : Int32)) % (6 : Int32)))]) (fun t k => iremM X0 hx rfl (B at_15) rfl (by decide) k) ?_
  refine GoW.sg (mkF m 18 (Sh12 q1 q2 q3 q4 q5 q6 2 (((q1.toUInt32 >>> ((2 : Int32) &&& 31).toUInt32).toInt32 &&& (7 : Int32)) % (6 : Int32))) []) (fun t k => XS.istore X0.here hx rfl (B at_16) rfl (l' := (Sh12 q1 q2 q3 q4 q5 q6 2 (((q1.toUInt32 >>> ((2 : Int32) &&& 31).toUInt32).toInt32 &&& (7 : Int32)) % (6 : Int32)))) rfl k) ?_
  rcases own_n6 (q1.toUInt32 >>> ((2 : Int32) &&& 31).toUInt32).toInt32 with vv | vv | vv | vv | vv | vv
  ·rw [vv]
   show GoW p e below s (ValQ (.int (1 : Int32)) n0) room_1.cells room_1.slots (s₁.setTop (mkF m 18 (Sh12 q1 q2 q3 q4 q5 q6 2 0) []))
   refine GoW.sg (mkF m 21 (Sh12 q1 q2 q3 q4 q5 q6 2 0) [(.long (-9223372036854775808))]) (fun t k => X0.ldc2Long hx hown (mvT hZ (ww hw 0 rfl)) (g := (mkF m 18 (Sh12 q1 q2 q3 q4 q5 q6 2 0) [])) rfl (B at_18) t k) ?_
   refine GoW.sg (mkF m 48 (Sh14 q1 q2 q3 q4 q5 q6 2 0 (-9223372036854775808) (-9223372036854775808)) []) (fun t k => XS.lstore X0.here hx rfl (B at_21) rfl (l' := (Sh13 q1 q2 q3 q4 q5 q6 2 0 (-9223372036854775808))) rfl (XS.iload X0.here hx rfl (B at_23) rfl (XS.ifYes X0.here hx rfl (pc0 := 25) (pc' := 33) rfl (B at_25) rfl (by decide) (by decide) (by decide) (XS.lload X0.here hx rfl (B at_33) rfl (XS.lstore X0.here hx rfl (B at_35) rfl (l' := (Sh14 q1 q2 q3 q4 q5 q6 2 0 (-9223372036854775808) (-9223372036854775808))) rfl (XS.iload X0.here hx rfl (B at_37) rfl (XS.iconst X0.here hx rfl (B at_39) (XS.icmpYes X0.here hx rfl (pc0 := 40) (pc' := 48) rfl (B at_40) rfl (by decide) (by decide) (by decide) k)))))))) ?_
   refine GoW.sg (mkF m 69 (Sh16 q1 q2 q3 q4 q5 q6 2 0 (-9223372036854775808) (-9223372036854775808) (-9223372036854775808) (-9223372036854775808)) [(.int 0)]) (fun t k => XS.lload X0.here hx rfl (B at_48) rfl (XS.lstore X0.here hx rfl (B at_50) rfl (l' := (Sh15 q1 q2 q3 q4 q5 q6 2 0 (-9223372036854775808) (-9223372036854775808) (-9223372036854775808))) rfl (XS.iload X0.here hx rfl (B at_52) rfl (XS.iconst X0.here hx rfl (B at_54) (XS.icmpYes X0.here hx rfl (pc0 := 55) (pc' := 63) rfl (B at_55) rfl (by decide) (by decide) (by decide) (XS.lload X0.here hx rfl (B at_63) rfl (XS.lstore X0.here hx rfl (B at_65) rfl (l' := (Sh16 q1 q2 q3 q4 q5 q6 2 0 (-9223372036854775808) (-9223372036854775808) (-9223372036854775808) (-9223372036854775808))) rfl (XS.iload X0.here hx rfl (B at_67) rfl k)))))))) ?_
   refine GoW.sg (mkF m 97 (Sh17 q1 q2 q3 q4 q5 q6 2 0 (-9223372036854775808) (-9223372036854775808) (-9223372036854775808) (-9223372036854775808) (-9223372036854775808)) [(.long (-9223372036854775808))]) (fun t k => XS.iconst X0.here hx rfl (B at_69) (XS.icmpYes X0.here hx rfl (pc0 := 70) (pc' := 79) rfl (B at_70) rfl (by decide) (by decide) (by decide) (XS.lload X0.here hx rfl (B at_79) rfl (XS.lstore X0.here hx rfl (B at_81) rfl (l' := (Sh17 q1 q2 q3 q4 q5 q6 2 0 (-9223372036854775808) (-9223372036854775808) (-9223372036854775808) (-9223372036854775808) (-9223372036854775808))) rfl (XS.iload X0.here hx rfl (B at_83) rfl (XS.iconst X0.here hx rfl (B at_85) (XS.icmpYes X0.here hx rfl (pc0 := 86) (pc' := 95) rfl (B at_86) rfl (by decide) (by decide) (by decide) (XS.lload X0.here hx rfl (B at_95) rfl k)))))))) ?_
   refine GoW.sg (mkF m 99 (Sh18 q1 q2 q3 q4 q5 q6 2 0 (-9223372036854775808) (-9223372036854775808) (-9223372036854775808) (-9223372036854775808) (-9223372036854775808) (-9223372036854775808)) []) (fun t k => XS.lstore X0.here hx rfl (B at_97) rfl (l' := (Sh18 q1 q2 q3 q4 q5 q6 2 0 (-9223372036854775808) (-9223372036854775808) (-9223372036854775808) (-9223372036854775808) (-9223372036854775808) (-9223372036854775808))) rfl k) ?_
   obtain ⟨va, hva⟩ : ∃ z : Int64, z = (-9223372036854775808 : Int64) := ⟨_, rfl⟩
   obtain ⟨vb, hvb⟩ : ∃ z : Int64, z = (-9223372036854775808 : Int64) := ⟨_, rfl⟩
   obtain ⟨vc, hvc⟩ : ∃ z : Int64, z = (-9223372036854775808 : Int64) := ⟨_, rfl⟩
   obtain ⟨vd, hvd⟩ : ∃ z : Int64, z = (-9223372036854775808 : Int64) := ⟨_, rfl⟩
   obtain ⟨ve, hve⟩ : ∃ z : Int64, z = (-9223372036854775808 : Int64) := ⟨_, rfl⟩
   obtain ⟨mi, hmi⟩ : ∃ z : Int64, z = (-9223372036854775808 : Int64) := ⟨_, rfl⟩
   refine GoW.st (fun t k => by rw [hva, hvb, hvc, hvd, hve, hmi] at k; exact k) ?_ (u := s₁.setTop (mkF m 99 (Sh18 q1 q2 q3 q4 q5 q6 2 0 mi va vb vc vd ve) []))
   show GoW p e below s (ValQ (.int (1 : Int32)) n0) room_1.cells room_1.slots (s₁.setTop (mkF m 99 (Sh18 q1 q2 q3 q4 q5 q6 2 0 mi va vb vc vd ve) []))
   obtain ⟨T976, h976, X976, e976, E976, A976, D976, -, st976⟩ := newO X0 hx hZ hown (ww hw 1 rfl) (ww hw 2 rfl) (ww hw 3 rfl) e0 (g := (mkF m 99 (Sh18 q1 q2 q3 q4 q5 q6 2 0 mi va vb vc vd ve) [])) rfl (B at_99) (by decide) (by decide)
   obtain ⟨b976, g976⟩ : ∃ z, z = h0.size := ⟨_, rfl⟩
   rw [← g976] at A976 D976 st976
   have g_b976 : n0 ≤ b976 := Nat.le_trans Z0 (Nat.le_of_eq g976.symm)
   have f976_28 := Nat.le_trans Z0 E976.1
   have F976heap : Fld Z h976 b976 HSn "heap" "[D" .null := D976 (Or.inr (ww hw 12 rfl)) (ty := (.array .double)) (by decide)
   have F976size : Fld Z h976 b976 HSn "size" "I" (.int (0 : Int32)) := D976 (Or.inl (ww hw 19 rfl)) (ty := .int) (by decide)
   refine GoW.sg (mkF m 102 (Sh18 q1 q2 q3 q4 q5 q6 2 0 mi va vb vc vd ve) [(.ref b976)]) (fun t k => st976 t k) ?_
   refine GoW.sg (mkF m 105 (Sh18 q1 q2 q3 q4 q5 q6 2 0 mi va vb vc vd ve) [(.int 2), (.ref b976), (.ref b976)]) (fun t k => XS.dup X976.here hx rfl (B at_102) rfl rfl (XS.iload X976.here hx rfl (B at_103) rfl k)) ?_
   obtain ⟨_, T983, L983, X983, hQ983, st983⟩ := own_spec X976 hx hZ (y := Y1) rfl hown (ww hw 4 rfl) (ww hw 5 rfl) (ww hw 3 rfl) (ww hw 6 rfl) (by decide) 1 (a := b976) (rm1_33 l Z a0 hw b976 h976 n0 f976_28 A976 F976heap F976size g_b976 ) (by decide) (by decide) e976 (by decide) (by decide) (g := (mkF m 105 (Sh18 q1 q2 q3 q4 q5 q6 2 0 mi va vb vc vd ve) [(.int 2), (.ref b976), (.ref b976)])) rfl (by rw [hml]; rfl) (argsL := [(.int (2 : Int32))]) (rest := [(.ref b976)]) (lenOf pd_28I29V rfl) rfl (Nat.le_of_eq rfl) (B at_105)
   obtain ⟨b983_e0, k983_ke0, rfl, N983q, K983, p983_0, p983_1, p983_2, p983_3, hz_b983_e0⟩ := hQ983
   have N983 := Fr.app N0 N983q
   refine GoW.sg (mkF m 108 (Sh18 q1 q2 q3 q4 q5 q6 2 0 mi va vb vc vd ve) [(.ref b976)]) (fun t k => st983 t k) ?_
   refine GoW.sg (mkF m 138 (Sh19 q1 q2 q3 q4 q5 q6 2 0 mi va vb vc vd ve b976) [(.int 2), (.int 0)]) (fun t k => XS.astore X983.here hx rfl (B at_108) rfl rfl (l' := (Sh19 q1 q2 q3 q4 q5 q6 2 0 mi va vb vc vd ve b976)) rfl (XS.iload X983.here hx rfl (B at_110) rfl (XS.ifYes X983.here hx rfl (pc0 := 112) (pc' := 122) rfl (B at_112) rfl (by decide) (by decide) (by decide) (XS.iload X983.here hx rfl (B at_122) rfl (XS.iconst X983.here hx rfl (B at_124) (XS.icmpYes X983.here hx rfl (pc0 := 125) (pc' := 135) rfl (B at_125) rfl (by decide) (by decide) (by decide) (XS.iload X983.here hx rfl (B at_135) rfl (XS.iconst X983.here hx rfl (B at_137) k)))))))) ?_
   refine GoW.sg (mkF m 178 (Sh19 q1 q2 q3 q4 q5 q6 2 0 mi va vb vc vd ve b976) [(.ref b976)]) (fun t k => XS.icmpYes X983.here hx rfl (pc0 := 138) (pc' := 148) rfl (B at_138) rfl (by decide) (by decide) (by decide) (XS.iload X983.here hx rfl (B at_148) rfl (XS.iconst X983.here hx rfl (B at_150) (XS.icmpYes X983.here hx rfl (pc0 := 151) (pc' := 162) rfl (B at_151) rfl (by decide) (by decide) (by decide) (XS.iload X983.here hx rfl (B at_162) rfl (XS.iconst X983.here hx rfl (B at_164) (XS.icmpYes X983.here hx rfl (pc0 := 165) (pc' := 176) rfl (B at_165) rfl (by decide) (by decide) (by decide) (XS.aload X983.here hx rfl (B at_176) rfl rfl k)))))))) ?_
   obtain ⟨_, T990, L990, X990, hQ990, st990⟩ := own_virt X983 hx hZ (y := Y3) hown (ww hw 13 rfl) (ww hw 14 rfl) (ww hw 16 rfl) (ww hw 15 rfl) (ww hw 17 rfl) (ww hw 3 rfl) (by decide) 0 (a := b976) (rm3_34 l Z a0 hw b976 b983_e0 k983_ke0 T983.heap n0 p983_1 p983_2 p983_3 ) (by decide) (by decide) rfl p983_0 (by decide) (by decide) (g := (mkF m 178 (Sh19 q1 q2 q3 q4 q5 q6 2 0 mi va vb vc vd ve b976) [(.ref b976)])) rfl (by rw [hml]; rfl) (argsL := []) (rest := []) (lenOf pd_2829D rfl) rfl (Nat.le_of_eq rfl) (B at_178)
   obtain ⟨rfl, N990q, e990⟩ := hQ990
   have N990 := Fr.app N983 N990q
   refine GoW.sg (mkF m 181 (Sh19 q1 q2 q3 q4 q5 q6 2 0 mi va vb vc vd ve b976) [(.double 18442240474082181120)]) (fun t k => st990 t k) ?_
   refine GoW.sg (mkF m 192 (Sh10 q1 q2 q3 q4 q5 q6 2 0 mi va vb vc vd ve b976 18442240474082181120) [(.double 18442240474082181120)]) (fun t k => XS.dstore X990.here hx rfl (B at_181) rfl (l' := (Sh10 q1 q2 q3 q4 q5 q6 2 0 mi va vb vc vd ve b976 18442240474082181120)) rfl (XS.iload X990.here hx rfl (B at_183) rfl (XS.iload X990.here hx rfl (B at_185) rfl (XS.icmpNo X990.here hx rfl (B at_187) rfl (by decide) (XS.dload X990.here hx rfl (B at_190) rfl k))))) ?_
   refine GoW.sg (mkF m 195 (Sh10 q1 q2 q3 q4 q5 q6 2 0 mi va vb vc vd ve b976 18442240474082181120) [(.double 18442240474082181120), (.double 18442240474082181120)]) (fun t k => X990.ldc2DoubleC hx hown (mvT hZ (ww hw 21 rfl)) (g := (mkF m 192 (Sh10 q1 q2 q3 q4 q5 q6 2 0 mi va vb vc vd ve b976 18442240474082181120) [(.double 18442240474082181120)])) rfl (B at_192) t k) ?_
   refine GoW.sg (mkF m 204 (Sh10 q1 q2 q3 q4 q5 q6 2 0 mi va vb vc vd ve b976 18442240474082181120) [(.int 1)]) (fun t k => XS.dcmpS X990.here hx rfl (B at_195) rfl (v := (0 : Int32)) (by decide +kernel) (XS.ifNo X990.here hx rfl (B at_196) rfl (by decide) (XS.iconst X990.here hx rfl (B at_199) (XS.goto X990.here hx rfl (pc0 := 200) (pc' := 204) rfl (B at_200) (by decide) (by decide) k)))) ?_
   refine GoW.retN X990 hx (t := .boolean) Bd.returns (by simp) (B at_204) Bd.notSynchronized ?_ (by decide) (by decide)
   exact ⟨rfl, N990⟩
  ·rw [vv]
   show GoW p e below s (ValQ (.int (1 : Int32)) n0) room_1.cells room_1.slots (s₁.setTop (mkF m 18 (Sh12 q1 q2 q3 q4 q5 q6 2 1) []))
   refine GoW.sg (mkF m 21 (Sh12 q1 q2 q3 q4 q5 q6 2 1) [(.long (-9223372036854775808))]) (fun t k => X0.ldc2Long hx hown (mvT hZ (ww hw 0 rfl)) (g := (mkF m 18 (Sh12 q1 q2 q3 q4 q5 q6 2 1) [])) rfl (B at_18) t k) ?_
   refine GoW.sg (mkF m 39 (Sh14 q1 q2 q3 q4 q5 q6 2 1 (-9223372036854775808) (Int32.toInt64 q2)) [(.int 1)]) (fun t k => XS.lstore X0.here hx rfl (B at_21) rfl (l' := (Sh13 q1 q2 q3 q4 q5 q6 2 1 (-9223372036854775808))) rfl (XS.iload X0.here hx rfl (B at_23) rfl (XS.ifNo X0.here hx rfl (B at_25) rfl (by decide) (XS.iloadN X0.here hx rfl (B at_28) rfl (XS.i2l X0.here hx rfl (B at_29) rfl (XS.goto X0.here hx rfl (pc0 := 30) (pc' := 35) rfl (B at_30) (by decide) (by decide) (XS.lstore X0.here hx rfl (B at_35) rfl (l' := (Sh14 q1 q2 q3 q4 q5 q6 2 1 (-9223372036854775808) (Int32.toInt64 q2))) rfl (XS.iload X0.here hx rfl (B at_37) rfl k)))))))) ?_
   refine GoW.sg (mkF m 65 (Sh15 q1 q2 q3 q4 q5 q6 2 1 (-9223372036854775808) (Int32.toInt64 q2) (-9223372036854775808)) [(.long (-9223372036854775808))]) (fun t k => XS.iconst X0.here hx rfl (B at_39) (XS.icmpYes X0.here hx rfl (pc0 := 40) (pc' := 48) rfl (B at_40) rfl (by decide) (by decide) (by decide) (XS.lload X0.here hx rfl (B at_48) rfl (XS.lstore X0.here hx rfl (B at_50) rfl (l' := (Sh15 q1 q2 q3 q4 q5 q6 2 1 (-9223372036854775808) (Int32.toInt64 q2) (-9223372036854775808))) rfl (XS.iload X0.here hx rfl (B at_52) rfl (XS.iconst X0.here hx rfl (B at_54) (XS.icmpYes X0.here hx rfl (pc0 := 55) (pc' := 63) rfl (B at_55) rfl (by decide) (by decide) (by decide) (XS.lload X0.here hx rfl (B at_63) rfl k)))))))) ?_
   refine GoW.sg (mkF m 86 (Sh17 q1 q2 q3 q4 q5 q6 2 1 (-9223372036854775808) (Int32.toInt64 q2) (-9223372036854775808) (-9223372036854775808) (-9223372036854775808)) [(.int 4), (.int 1)]) (fun t k => XS.lstore X0.here hx rfl (B at_65) rfl (l' := (Sh16 q1 q2 q3 q4 q5 q6 2 1 (-9223372036854775808) (Int32.toInt64 q2) (-9223372036854775808) (-9223372036854775808))) rfl (XS.iload X0.here hx rfl (B at_67) rfl (XS.iconst X0.here hx rfl (B at_69) (XS.icmpYes X0.here hx rfl (pc0 := 70) (pc' := 79) rfl (B at_70) rfl (by decide) (by decide) (by decide) (XS.lload X0.here hx rfl (B at_79) rfl (XS.lstore X0.here hx rfl (B at_81) rfl (l' := (Sh17 q1 q2 q3 q4 q5 q6 2 1 (-9223372036854775808) (Int32.toInt64 q2) (-9223372036854775808) (-9223372036854775808) (-9223372036854775808))) rfl (XS.iload X0.here hx rfl (B at_83) rfl (XS.iconst X0.here hx rfl (B at_85) k)))))))) ?_
   refine GoW.sg (mkF m 99 (Sh18 q1 q2 q3 q4 q5 q6 2 1 (-9223372036854775808) (Int32.toInt64 q2) (-9223372036854775808) (-9223372036854775808) (-9223372036854775808) (-9223372036854775808)) []) (fun t k => XS.icmpYes X0.here hx rfl (pc0 := 86) (pc' := 95) rfl (B at_86) rfl (by decide) (by decide) (by decide) (XS.lload X0.here hx rfl (B at_95) rfl (XS.lstore X0.here hx rfl (B at_97) rfl (l' := (Sh18 q1 q2 q3 q4 q5 q6 2 1 (-9223372036854775808) (Int32.toInt64 q2) (-9223372036854775808) (-9223372036854775808) (-9223372036854775808) (-9223372036854775808))) rfl k))) ?_
   obtain ⟨va, hva⟩ : ∃ z : Int64, z = (Int32.toInt64 q2) := ⟨_, rfl⟩
   obtain ⟨vb, hvb⟩ : ∃ z : Int64, z = (-9223372036854775808 : Int64) := ⟨_, rfl⟩
   obtain ⟨vc, hvc⟩ : ∃ z : Int64, z = (-9223372036854775808 : Int64) := ⟨_, rfl⟩
   obtain ⟨vd, hvd⟩ : ∃ z : Int64, z = (-9223372036854775808 : Int64) := ⟨_, rfl⟩
   obtain ⟨ve, hve⟩ : ∃ z : Int64, z = (-9223372036854775808 : Int64) := ⟨_, rfl⟩
   obtain ⟨mi, hmi⟩ : ∃ z : Int64, z = (-9223372036854775808 : Int64) := ⟨_, rfl⟩
   refine GoW.st (fun t k => by rw [hva, hvb, hvc, hvd, hve, hmi] at k; exact k) ?_ (u := s₁.setTop (mkF m 99 (Sh18 q1 q2 q3 q4 q5 q6 2 1 mi va vb vc vd ve) []))
   show GoW p e below s (ValQ (.int (1 : Int32)) n0) room_1.cells room_1.slots (s₁.setTop (mkF m 99 (Sh18 q1 q2 q3 q4 q5 q6 2 1 mi va vb vc vd ve) []))
   obtain ⟨T991, h991, X991, e991, E991, A991, D991, -, st991⟩ := newO X0 hx hZ hown (ww hw 1 rfl) (ww hw 2 rfl) (ww hw 3 rfl) e0 (g := (mkF m 99 (Sh18 q1 q2 q3 q4 q5 q6 2 1 mi va vb vc vd ve) [])) rfl (B at_99) (by decide) (by decide)
   obtain ⟨b991, g991⟩ : ∃ z, z = h0.size := ⟨_, rfl⟩
   rw [← g991] at A991 D991 st991
   have g_b991 : n0 ≤ b991 := Nat.le_trans Z0 (Nat.le_of_eq g991.symm)
   have f991_30 := Nat.le_trans Z0 E991.1
   have F991heap : Fld Z h991 b991 HSn "heap" "[D" .null := D991 (Or.inr (ww hw 12 rfl)) (ty := (.array .double)) (by decide)
   have F991size : Fld Z h991 b991 HSn "size" "I" (.int (0 : Int32)) := D991 (Or.inl (ww hw 19 rfl)) (ty := .int) (by decide)
   refine GoW.sg (mkF m 102 (Sh18 q1 q2 q3 q4 q5 q6 2 1 mi va vb vc vd ve) [(.ref b991)]) (fun t k => st991 t k) ?_
   refine GoW.sg (mkF m 105 (Sh18 q1 q2 q3 q4 q5 q6 2 1 mi va vb vc vd ve) [(.int 2), (.ref b991), (.ref b991)]) (fun t k => XS.dup X991.here hx rfl (B at_102) rfl rfl (XS.iload X991.here hx rfl (B at_103) rfl k)) ?_
   obtain ⟨_, T992, L992, X992, hQ992, st992⟩ := own_spec X991 hx hZ (y := Y1) rfl hown (ww hw 4 rfl) (ww hw 5 rfl) (ww hw 3 rfl) (ww hw 6 rfl) (by decide) 1 (a := b991) (rm1_33 l Z a0 hw b991 h991 n0 f991_30 A991 F991heap F991size g_b991 ) (by decide) (by decide) e991 (by decide) (by decide) (g := (mkF m 105 (Sh18 q1 q2 q3 q4 q5 q6 2 1 mi va vb vc vd ve) [(.int 2), (.ref b991), (.ref b991)])) rfl (by rw [hml]; rfl) (argsL := [(.int (2 : Int32))]) (rest := [(.ref b991)]) (lenOf pd_28I29V rfl) rfl (Nat.le_of_eq rfl) (B at_105)
   obtain ⟨b992_e0, k992_ke0, rfl, N992q, K992, p992_0, p992_1, p992_2, p992_3, hz_b992_e0⟩ := hQ992
   have g_b992_e0 : n0 ≤ b992_e0 := Nat.le_trans f991_30 hz_b992_e0
   have ne_b991_b992_e0 : b991 ≠ b992_e0 := Nat.ne_of_lt (Nat.lt_of_lt_of_le A991.lt hz_b992_e0)
   have N992 := Fr.app N0 N992q
   refine GoW.sg (mkF m 108 (Sh18 q1 q2 q3 q4 q5 q6 2 1 mi va vb vc vd ve) [(.ref b991)]) (fun t k => st992 t k) ?_
   refine GoW.sg (mkF m 118 (Sh19 q1 q2 q3 q4 q5 q6 2 1 mi va vb vc vd ve b991) [(.int q2), (.ref b991)]) (fun t k => XS.astore X992.here hx rfl (B at_108) rfl rfl (l' := (Sh19 q1 q2 q3 q4 q5 q6 2 1 mi va vb vc vd ve b991)) rfl (XS.iload X992.here hx rfl (B at_110) rfl (XS.ifNo X992.here hx rfl (B at_112) rfl (by decide) (XS.aload X992.here hx rfl (B at_115) rfl rfl (XS.iloadN X992.here hx rfl (B at_117) rfl k))))) ?_
   obtain ⟨d993, hd993⟩ : ∃ d : UInt64, d = FP.l2d q2.toInt64 := ⟨_, rfl⟩
   refine GoW.sg (mkF m 119 (Sh19 q1 q2 q3 q4 q5 q6 2 1 mi va vb vc vd ve b991) [(.double d993), (.ref b991)]) (fun t k => XS.i2dS X992.here hx rfl (B at_118) rfl (v := d993) ((i2d_w _).trans hd993.symm) k) ?_
   obtain ⟨_, T994, L994, X994, hQ994, st994⟩ := own_virt X992 hx hZ (y := Y4) hown (ww hw 22 rfl) (ww hw 23 rfl) (ww hw 25 rfl) (ww hw 24 rfl) (ww hw 26 rfl) (ww hw 3 rfl) (by decide) 0 (a := b991) (rmO20 l Z a0 hw b991 d993 q2 b992_e0 k992_ke0 T992.heap n0 p992_0 p992_2 p992_1 p992_3 g_b991 g_b992_e0 ne_b991_b992_e0 hd993 trivial) (by decide) (by decide) rfl p992_0 (by decide) (by decide) (g := (mkF m 119 (Sh19 q1 q2 q3 q4 q5 q6 2 1 mi va vb vc vd ve b991) [(.double d993), (.ref b991)])) rfl (by rw [hml]; rfl) (argsL := [(.double d993)]) (rest := []) (lenOf pd_28D29V rfl) rfl (Nat.le_of_eq rfl) (B at_119)
   obtain ⟨k994_w0, k994_f0, rfl, N994q, K994, p994_0, p994_1, p994_2, p994_3, LQ994⟩ := hQ994
   have N994 := Fr.app N992 N994q
   refine GoW.sg (mkF m 122 (Sh19 q1 q2 q3 q4 q5 q6 2 1 mi va vb vc vd ve b991) []) (fun t k => st994 t k) ?_
   obtain ⟨hf994_0, hH994, hR994⟩ := LQ994
   have A994 : ∀ z : Int, cn z k994_w0 = cn z q2 := fun z => by have _a := hR994 z; have _c := own_cn z q2; omega
   refine GoW.sg (mkF m 151 (Sh19 q1 q2 q3 q4 q5 q6 2 1 mi va vb vc vd ve b991) [(.int 3), (.int 1)]) (fun t k => XS.iload X994.here hx rfl (B at_122) rfl (XS.iconst X994.here hx rfl (B at_124) (XS.icmpYes X994.here hx rfl (pc0 := 125) (pc' := 135) rfl (B at_125) rfl (by decide) (by decide) (by decide) (XS.iload X994.here hx rfl (B at_135) rfl (XS.iconst X994.here hx rfl (B at_137) (XS.icmpYes X994.here hx rfl (pc0 := 138) (pc' := 148) rfl (B at_138) rfl (by decide) (by decide) (by decide) (XS.iload X994.here hx rfl (B at_148) rfl (XS.iconst X994.here hx rfl (B at_150) k)))))))) ?_
   refine GoW.sg (mkF m 178 (Sh19 q1 q2 q3 q4 q5 q6 2 1 mi va vb vc vd ve b991) [(.ref b991)]) (fun t k => XS.icmpYes X994.here hx rfl (pc0 := 151) (pc' := 162) rfl (B at_151) rfl (by decide) (by decide) (by decide) (XS.iload X994.here hx rfl (B at_162) rfl (XS.iconst X994.here hx rfl (B at_164) (XS.icmpYes X994.here hx rfl (pc0 := 165) (pc' := 176) rfl (B at_165) rfl (by decide) (by decide) (by decide) (XS.aload X994.here hx rfl (B at_176) rfl rfl k))))) ?_
   obtain ⟨_, T1001, L1001, X1001, hQ1001, st1001⟩ := own_virt X994 hx hZ (y := Y3) hown (ww hw 13 rfl) (ww hw 14 rfl) (ww hw 16 rfl) (ww hw 15 rfl) (ww hw 17 rfl) (ww hw 3 rfl) (by decide) 0 (a := b991) (rm3_35 l Z a0 hw b991 b992_e0 k992_ke0 k994_f0 k994_w0 T994.heap n0 p994_2 p994_1 p994_3 hf994_0 ) (by decide) (by decide) rfl p994_0 (by decide) (by decide) (g := (mkF m 178 (Sh19 q1 q2 q3 q4 q5 q6 2 1 mi va vb vc vd ve b991) [(.ref b991)])) rfl (by rw [hml]; rfl) (argsL := []) (rest := []) (lenOf pd_2829D rfl) rfl (Nat.le_of_eq rfl) (B at_178)
   obtain ⟨rfl, N1001q, e1001⟩ := hQ1001
   have N1001 := Fr.app N994 N1001q
   refine GoW.sg (mkF m 181 (Sh19 q1 q2 q3 q4 q5 q6 2 1 mi va vb vc vd ve b991) [(.double 18442240474082181120)]) (fun t k => st1001 t k) ?_
   refine GoW.sg (mkF m 192 (Sh10 q1 q2 q3 q4 q5 q6 2 1 mi va vb vc vd ve b991 18442240474082181120) [(.double 18442240474082181120)]) (fun t k => XS.dstore X1001.here hx rfl (B at_181) rfl (l' := (Sh10 q1 q2 q3 q4 q5 q6 2 1 mi va vb vc vd ve b991 18442240474082181120)) rfl (XS.iload X1001.here hx rfl (B at_183) rfl (XS.iload X1001.here hx rfl (B at_185) rfl (XS.icmpNo X1001.here hx rfl (B at_187) rfl (by decide) (XS.dload X1001.here hx rfl (B at_190) rfl k))))) ?_
   refine GoW.sg (mkF m 195 (Sh10 q1 q2 q3 q4 q5 q6 2 1 mi va vb vc vd ve b991 18442240474082181120) [(.double 18442240474082181120), (.double 18442240474082181120)]) (fun t k => X1001.ldc2DoubleC hx hown (mvT hZ (ww hw 21 rfl)) (g := (mkF m 192 (Sh10 q1 q2 q3 q4 q5 q6 2 1 mi va vb vc vd ve b991 18442240474082181120) [(.double 18442240474082181120)])) rfl (B at_192) t k) ?_
   refine GoW.sg (mkF m 204 (Sh10 q1 q2 q3 q4 q5 q6 2 1 mi va vb vc vd ve b991 18442240474082181120) [(.int 1)]) (fun t k => XS.dcmpS X1001.here hx rfl (B at_195) rfl (v := (0 : Int32)) (by decide +kernel) (XS.ifNo X1001.here hx rfl (B at_196) rfl (by decide) (XS.iconst X1001.here hx rfl (B at_199) (XS.goto X1001.here hx rfl (pc0 := 200) (pc' := 204) rfl (B at_200) (by decide) (by decide) k)))) ?_
   refine GoW.retN X1001 hx (t := .boolean) Bd.returns (by simp) (B at_204) Bd.notSynchronized ?_ (by decide) (by decide)
   exact ⟨rfl, N1001⟩
  ·rw [vv]
   show GoW p e below s (ValQ (.int (1 : Int32)) n0) room_1.cells room_1.slots (s₁.setTop (mkF m 18 (Sh12 q1 q2 q3 q4 q5 q6 2 2) []))
   refine GoW.sg (mkF m 21 (Sh12 q1 q2 q3 q4 q5 q6 2 2) [(.long (-9223372036854775808))]) (fun t k => X0.ldc2Long hx hown (mvT hZ (ww hw 0 rfl)) (g := (mkF m 18 (Sh12 q1 q2 q3 q4 q5 q6 2 2) [])) rfl (B at_18) t k) ?_
   refine GoW.sg (mkF m 39 (Sh14 q1 q2 q3 q4 q5 q6 2 2 (-9223372036854775808) (Int32.toInt64 q2)) [(.int 2)]) (fun t k => XS.lstore X0.here hx rfl (B at_21) rfl (l' := (Sh13 q1 q2 q3 q4 q5 q6 2 2 (-9223372036854775808))) rfl (XS.iload X0.here hx rfl (B at_23) rfl (XS.ifNo X0.here hx rfl (B at_25) rfl (by decide) (XS.iloadN X0.here hx rfl (B at_28) rfl (XS.i2l X0.here hx rfl (B at_29) rfl (XS.goto X0.here hx rfl (pc0 := 30) (pc' := 35) rfl (B at_30) (by decide) (by decide) (XS.lstore X0.here hx rfl (B at_35) rfl (l' := (Sh14 q1 q2 q3 q4 q5 q6 2 2 (-9223372036854775808) (Int32.toInt64 q2))) rfl (XS.iload X0.here hx rfl (B at_37) rfl k)))))))) ?_
   refine GoW.sg (mkF m 55 (Sh15 q1 q2 q3 q4 q5 q6 2 2 (-9223372036854775808) (Int32.toInt64 q2) (Int32.toInt64 q3)) [(.int 2), (.int 2)]) (fun t k => XS.iconst X0.here hx rfl (B at_39) (XS.icmpNo X0.here hx rfl (B at_40) rfl (by decide) (XS.iloadN X0.here hx rfl (B at_43) rfl (XS.i2l X0.here hx rfl (B at_44) rfl (XS.goto X0.here hx rfl (pc0 := 45) (pc' := 50) rfl (B at_45) (by decide) (by decide) (XS.lstore X0.here hx rfl (B at_50) rfl (l' := (Sh15 q1 q2 q3 q4 q5 q6 2 2 (-9223372036854775808) (Int32.toInt64 q2) (Int32.toInt64 q3))) rfl (XS.iload X0.here hx rfl (B at_52) rfl (XS.iconst X0.here hx rfl (B at_54) k)))))))) ?_
   refine GoW.sg (mkF m 83 (Sh17 q1 q2 q3 q4 q5 q6 2 2 (-9223372036854775808) (Int32.toInt64 q2) (Int32.toInt64 q3) (-9223372036854775808) (-9223372036854775808)) []) (fun t k => XS.icmpYes X0.here hx rfl (pc0 := 55) (pc' := 63) rfl (B at_55) rfl (by decide) (by decide) (by decide) (XS.lload X0.here hx rfl (B at_63) rfl (XS.lstore X0.here hx rfl (B at_65) rfl (l' := (Sh16 q1 q2 q3 q4 q5 q6 2 2 (-9223372036854775808) (Int32.toInt64 q2) (Int32.toInt64 q3) (-9223372036854775808))) rfl (XS.iload X0.here hx rfl (B at_67) rfl (XS.iconst X0.here hx rfl (B at_69) (XS.icmpYes X0.here hx rfl (pc0 := 70) (pc' := 79) rfl (B at_70) rfl (by decide) (by decide) (by decide) (XS.lload X0.here hx rfl (B at_79) rfl (XS.lstore X0.here hx rfl (B at_81) rfl (l' := (Sh17 q1 q2 q3 q4 q5 q6 2 2 (-9223372036854775808) (Int32.toInt64 q2) (Int32.toInt64 q3) (-9223372036854775808) (-9223372036854775808))) rfl k)))))))) ?_
   refine GoW.sg (mkF m 99 (Sh18 q1 q2 q3 q4 q5 q6 2 2 (-9223372036854775808) (Int32.toInt64 q2) (Int32.toInt64 q3) (-9223372036854775808) (-9223372036854775808) (-9223372036854775808)) []) (fun t k => XS.iload X0.here hx rfl (B at_83) rfl (XS.iconst X0.here hx rfl (B at_85) (XS.icmpYes X0.here hx rfl (pc0 := 86) (pc' := 95) rfl (B at_86) rfl (by decide) (by decide) (by decide) (XS.lload X0.here hx rfl (B at_95) rfl (XS.lstore X0.here hx rfl (B at_97) rfl (l' := (Sh18 q1 q2 q3 q4 q5 q6 2 2 (-9223372036854775808) (Int32.toInt64 q2) (Int32.toInt64 q3) (-9223372036854775808) (-9223372036854775808) (-9223372036854775808))) rfl k))))) ?_
   obtain ⟨va, hva⟩ : ∃ z : Int64, z = (Int32.toInt64 q2) := ⟨_, rfl⟩
   obtain ⟨vb, hvb⟩ : ∃ z : Int64, z = (Int32.toInt64 q3) := ⟨_, rfl⟩
   obtain ⟨vc, hvc⟩ : ∃ z : Int64, z = (-9223372036854775808 : Int64) := ⟨_, rfl⟩
   obtain ⟨vd, hvd⟩ : ∃ z : Int64, z = (-9223372036854775808 : Int64) := ⟨_, rfl⟩
   obtain ⟨ve, hve⟩ : ∃ z : Int64, z = (-9223372036854775808 : Int64) := ⟨_, rfl⟩
   obtain ⟨mi, hmi⟩ : ∃ z : Int64, z = (-9223372036854775808 : Int64) := ⟨_, rfl⟩
   refine GoW.st (fun t k => by rw [hva, hvb, hvc, hvd, hve, hmi] at k; exact k) ?_ (u := s₁.setTop (mkF m 99 (Sh18 q1 q2 q3 q4 q5 q6 2 2 mi va vb vc vd ve) []))
   show GoW p e below s (ValQ (.int (1 : Int32)) n0) room_1.cells room_1.slots (s₁.setTop (mkF m 99 (Sh18 q1 q2 q3 q4 q5 q6 2 2 mi va vb vc vd ve) []))
   obtain ⟨T1002, h1002, X1002, e1002, E1002, A1002, D1002, -, st1002⟩ := newO X0 hx hZ hown (ww hw 1 rfl) (ww hw 2 rfl) (ww hw 3 rfl) e0 (g := (mkF m 99 (Sh18 q1 q2 q3 q4 q5 q6 2 2 mi va vb vc vd ve) [])) rfl (B at_99) (by decide) (by decide)
   obtain ⟨b1002, g1002⟩ : ∃ z, z = h0.size := ⟨_, rfl⟩
   rw [← g1002] at A1002 D1002 st1002
   have g_b1002 : n0 ≤ b1002 := Nat.le_trans Z0 (Nat.le_of_eq g1002.symm)
   have f1002_33 := Nat.le_trans Z0 E1002.1
   have F1002heap : Fld Z h1002 b1002 HSn "heap" "[D" .null := D1002 (Or.inr (ww hw 12 rfl)) (ty := (.array .double)) (by decide)
   have F1002size : Fld Z h1002 b1002 HSn "size" "I" (.int (0 : Int32)) := D1002 (Or.inl (ww hw 19 rfl)) (ty := .int) (by decide)
   refine GoW.sg (mkF m 102 (Sh18 q1 q2 q3 q4 q5 q6 2 2 mi va vb vc vd ve) [(.ref b1002)]) (fun t k => st1002 t k) ?_
   refine GoW.sg (mkF m 105 (Sh18 q1 q2 q3 q4 q5 q6 2 2 mi va vb vc vd ve) [(.int 2), (.ref b1002), (.ref b1002)]) (fun t k => XS.dup X1002.here hx rfl (B at_102) rfl rfl (XS.iload X1002.here hx rfl (B at_103) rfl k)) ?_
   obtain ⟨_, T1003, L1003, X1003, hQ1003, st1003⟩ := own_spec X1002 hx hZ (y := Y1) rfl hown (ww hw 4 rfl) (ww hw 5 rfl) (ww hw 3 rfl) (ww hw 6 rfl) (by decide) 1 (a := b1002) (rm1_33 l Z a0 hw b1002 h1002 n0 f1002_33 A1002 F1002heap F1002size g_b1002 ) (by decide) (by decide) e1002 (by decide) (by decide) (g := (mkF m 105 (Sh18 q1 q2 q3 q4 q5 q6 2 2 mi va vb vc vd ve) [(.int 2), (.ref b1002), (.ref b1002)])) rfl (by rw [hml]; rfl) (argsL := [(.int (2 : Int32))]) (rest := [(.ref b1002)]) (lenOf pd_28I29V rfl) rfl (Nat.le_of_eq rfl) (B at_105)
   obtain ⟨b1003_e0, k1003_ke0, rfl, N1003q, K1003, p1003_0, p1003_1, p1003_2, p1003_3, hz_b1003_e0⟩ := hQ1003
   have g_b1003_e0 : n0 ≤ b1003_e0 := Nat.le_trans f1002_33 hz_b1003_e0
   have ne_b1002_b1003_e0 : b1002 ≠ b1003_e0 := Nat.ne_of_lt (Nat.lt_of_lt_of_le A1002.lt hz_b1003_e0)
   have N1003 := Fr.app N0 N1003q
   refine GoW.sg (mkF m 108 (Sh18 q1 q2 q3 q4 q5 q6 2 2 mi va vb vc vd ve) [(.ref b1002)]) (fun t k => st1003 t k) ?_
   refine GoW.sg (mkF m 118 (Sh19 q1 q2 q3 q4 q5 q6 2 2 mi va vb vc vd ve b1002) [(.int q2), (.ref b1002)]) (fun t k => XS.astore X1003.here hx rfl (B at_108) rfl rfl (l' := (Sh19 q1 q2 q3 q4 q5 q6 2 2 mi va vb vc vd ve b1002)) rfl (XS.iload X1003.here hx rfl (B at_110) rfl (XS.ifNo X1003.here hx rfl (B at_112) rfl (by decide) (XS.aload X1003.here hx rfl (B at_115) rfl rfl (XS.iloadN X1003.here hx rfl (B at_117) rfl k))))) ?_
   obtain ⟨d1004, hd1004⟩ : ∃ d : UInt64, d = FP.l2d q2.toInt64 := ⟨_, rfl⟩
   refine GoW.sg (mkF m 119 (Sh19 q1 q2 q3 q4 q5 q6 2 2 mi va vb vc vd ve b1002) [(.double d1004), (.ref b1002)]) (fun t k => XS.i2dS X1003.here hx rfl (B at_118) rfl (v := d1004) ((i2d_w _).trans hd1004.symm) k) ?_
   obtain ⟨_, T1005, L1005, X1005, hQ1005, st1005⟩ := own_virt X1003 hx hZ (y := Y4) hown (ww hw 22 rfl) (ww hw 23 rfl) (ww hw 25 rfl) (ww hw 24 rfl) (ww hw 26 rfl) (ww hw 3 rfl) (by decide) 0 (a := b1002) (rmO20 l Z a0 hw b1002 d1004 q2 b1003_e0 k1003_ke0 T1003.heap n0 p1003_0 p1003_2 p1003_1 p1003_3 g_b1002 g_b1003_e0 ne_b1002_b1003_e0 hd1004 trivial) (by decide) (by decide) rfl p1003_0 (by decide) (by decide) (g := (mkF m 119 (Sh19 q1 q2 q3 q4 q5 q6 2 2 mi va vb vc vd ve b1002) [(.double d1004), (.ref b1002)])) rfl (by rw [hml]; rfl) (argsL := [(.double d1004)]) (rest := []) (lenOf pd_28D29V rfl) rfl (Nat.le_of_eq rfl) (B at_119)
   obtain ⟨k1005_w0, k1005_f0, rfl, N1005q, K1005, p1005_0, p1005_1, p1005_2, p1005_3, LQ1005⟩ := hQ1005
   have N1005 := Fr.app N1003 N1005q
   refine GoW.sg (mkF m 122 (Sh19 q1 q2 q3 q4 q5 q6 2 2 mi va vb vc vd ve b1002) []) (fun t k => st1005 t k) ?_
   obtain ⟨hf1005_0, hH1005, hR1005⟩ := LQ1005
   have A1005 : ∀ z : Int, cn z k1005_w0 = cn z q2 := fun z => by have _a := hR1005 z; have _c := own_cn z q2; omega
   refine GoW.sg (mkF m 131 (Sh19 q1 q2 q3 q4 q5 q6 2 2 mi va vb vc vd ve b1002) [(.int q3), (.ref b1002)]) (fun t k => XS.iload X1005.here hx rfl (B at_122) rfl (XS.iconst X1005.here hx rfl (B at_124) (XS.icmpNo X1005.here hx rfl (B at_125) rfl (by decide) (XS.aload X1005.here hx rfl (B at_128) rfl rfl (XS.iloadN X1005.here hx rfl (B at_130) rfl k))))) ?_
   obtain ⟨d1006, hd1006⟩ : ∃ d : UInt64, d = FP.l2d q3.toInt64 := ⟨_, rfl⟩
   refine GoW.sg (mkF m 132 (Sh19 q1 q2 q3 q4 q5 q6 2 2 mi va vb vc vd ve b1002) [(.double d1006), (.ref b1002)]) (fun t k => XS.i2dS X1005.here hx rfl (B at_131) rfl (v := d1006) ((i2d_w _).trans hd1006.symm) k) ?_
   obtain ⟨_, T1007, L1007, X1007, hQ1007, st1007⟩ := own_virt X1005 hx hZ (y := Y4) hown (ww hw 22 rfl) (ww hw 23 rfl) (ww hw 25 rfl) (ww hw 24 rfl) (ww hw 26 rfl) (ww hw 3 rfl) (by decide) 0 (a := b1002) (rmO21 l Z a0 hw b1002 d1006 q3 k1005_w0 k1005_f0 b1003_e0 k1003_ke0 T1005.heap n0 p1005_0 p1005_1 p1005_2 p1005_3 g_b1002 g_b1003_e0 ne_b1002_b1003_e0 hf1005_0 hd1006 hH1005) (by decide) (by decide) rfl p1005_0 (by decide) (by decide) (g := (mkF m 132 (Sh19 q1 q2 q3 q4 q5 q6 2 2 mi va vb vc vd ve b1002) [(.double d1006), (.ref b1002)])) rfl (by rw [hml]; rfl) (argsL := [(.double d1006)]) (rest := []) (lenOf pd_28D29V rfl) rfl (Nat.le_of_eq rfl) (B at_132)
   obtain ⟨k1007_w0, k1007_w1, k1007_f0, k1007_f1, rfl, N1007q, K1007, p1007_0, p1007_1, p1007_2, p1007_3, LQ1007⟩ := hQ1007
   have N1007 := Fr.app N1005 N1007q
   refine GoW.sg (mkF m 135 (Sh19 q1 q2 q3 q4 q5 q6 2 2 mi va vb vc vd ve b1002) []) (fun t k => st1007 t k) ?_
   obtain ⟨hf1007_0, hf1007_1, hH1007, hR1007⟩ := LQ1007
   have A1007 : ∀ z : Int, cn z k1007_w0 + cn z k1007_w1 = cn z q2 + cn z q3 := fun z => by have _a := hR1007 z; have _b := A1005 z; have _c := own_cn z q3; omega
   refine GoW.sg (mkF m 165 (Sh19 q1 q2 q3 q4 q5 q6 2 2 mi va vb vc vd ve b1002) [(.int 4), (.int 2)]) (fun t k => XS.iload X1007.here hx rfl (B at_135) rfl (XS.iconst X1007.here hx rfl (B at_137) (XS.icmpYes X1007.here hx rfl (pc0 := 138) (pc' := 148) rfl (B at_138) rfl (by decide) (by decide) (by decide) (XS.iload X1007.here hx rfl (B at_148) rfl (XS.iconst X1007.here hx rfl (B at_150) (XS.icmpYes X1007.here hx rfl (pc0 := 151) (pc' := 162) rfl (B at_151) rfl (by decide) (by decide) (by decide) (XS.iload X1007.here hx rfl (B at_162) rfl (XS.iconst X1007.here hx rfl (B at_164) k)))))))) ?_
   refine GoW.sg (mkF m 178 (Sh19 q1 q2 q3 q4 q5 q6 2 2 mi va vb vc vd ve b1002) [(.ref b1002)]) (fun t k => XS.icmpYes X1007.here hx rfl (pc0 := 165) (pc' := 176) rfl (B at_165) rfl (by decide) (by decide) (by decide) (XS.aload X1007.here hx rfl (B at_176) rfl rfl k)) ?_
   obtain ⟨_, T1018, L1018, X1018, hQ1018, st1018⟩ := own_virt X1007 hx hZ (y := Y3) hown (ww hw 13 rfl) (ww hw 14 rfl) (ww hw 16 rfl) (ww hw 15 rfl) (ww hw 17 rfl) (ww hw 3 rfl) (by decide) 0 (a := b1002) (rm3_36 l Z a0 hw b1002 b1003_e0 k1003_ke0 k1007_f0 k1007_f1 k1007_w0 k1007_w1 T1007.heap n0 p1007_2 p1007_1 p1007_3 hf1007_0 hf1007_1 ) (by decide) (by decide) rfl p1007_0 (by decide) (by decide) (g := (mkF m 178 (Sh19 q1 q2 q3 q4 q5 q6 2 2 mi va vb vc vd ve b1002) [(.ref b1002)])) rfl (by rw [hml]; rfl) (argsL := []) (rest := []) (lenOf pd_2829D rfl) rfl (Nat.le_of_eq rfl) (B at_178)
   obtain ⟨rfl, N1018q, e1018⟩ := hQ1018
   have N1018 := Fr.app N1007 N1018q
   refine GoW.sg (mkF m 181 (Sh19 q1 q2 q3 q4 q5 q6 2 2 mi va vb vc vd ve b1002) [(.double k1007_f0)]) (fun t k => st1018 t k) ?_
   refine GoW.sg (mkF m 205 (Sh10 q1 q2 q3 q4 q5 q6 2 2 mi va vb vc vd ve b1002 k1007_f0) []) (fun t k => XS.dstore X1018.here hx rfl (B at_181) rfl (l' := (Sh10 q1 q2 q3 q4 q5 q6 2 2 mi va vb vc vd ve b1002 k1007_f0)) rfl (XS.iload X1018.here hx rfl (B at_183) rfl (XS.iload X1018.here hx rfl (B at_185) rfl (XS.icmpYes X1018.here hx rfl (pc0 := 187) (pc' := 205) rfl (B at_187) rfl (by decide) (by decide) (by decide) k)))) ?_
   exact J _ _ _ _ _ _ _ _ _ _ _ _ k1007_w0 X1018 e1018 N1018 hf1007_0 (fun r1 r2 r3 r4 r5 h1 h2 h3 h4 h5 => by subst hva hvb hvc hvd hve hmi; exact own_fin22 h1 h2 h3 h4 h5 hH1007 A1007)
  ·rw [vv]
   show GoW p e below s (ValQ (.int (1 : Int32)) n0) room_1.cells room_1.slots (s₁.setTop (mkF m 18 (Sh12 q1 q2 q3 q4 q5 q6 2 3) []))
   refine GoW.sg (mkF m 21 (Sh12 q1 q2 q3 q4 q5 q6 2 3) [(.long (-9223372036854775808))]) (fun t k => X0.ldc2Long hx hown (mvT hZ (ww hw 0 rfl)) (g := (mkF m 18 (Sh12 q1 q2 q3 q4 q5 q6 2 3) [])) rfl (B at_18) t k) ?_
   refine GoW.sg (mkF m 39 (Sh14 q1 q2 q3 q4 q5 q6 2 3 (-9223372036854775808) (Int32.toInt64 q2)) [(.int 3)]) (fun t k => XS.lstore X0.here hx rfl (B at_21) rfl (l' := (Sh13 q1 q2 q3 q4 q5 q6 2 3 (-9223372036854775808))) rfl (XS.iload X0.here hx rfl (B at_23) rfl (XS.ifNo X0.here hx rfl (B at_25) rfl (by decide) (XS.iloadN X0.here hx rfl (B at_28) rfl (XS.i2l X0.here hx rfl (B at_29) rfl (XS.goto X0.here hx rfl (pc0 := 30) (pc' := 35) rfl (B at_30) (by decide) (by decide) (XS.lstore X0.here hx rfl (B at_35) rfl (l' := (Sh14 q1 q2 q3 q4 q5 q6 2 3 (-9223372036854775808) (Int32.toInt64 q2))) rfl (XS.iload X0.here hx rfl (B at_37) rfl k)))))))) ?_
   refine GoW.sg (mkF m 55 (Sh15 q1 q2 q3 q4 q5 q6 2 3 (-9223372036854775808) (Int32.toInt64 q2) (Int32.toInt64 q3)) [(.int 2), (.int 3)]) (fun t k => XS.iconst X0.here hx rfl (B at_39) (XS.icmpNo X0.here hx rfl (B at_40) rfl (by decide) (XS.iloadN X0.here hx rfl (B at_43) rfl (XS.i2l X0.here hx rfl (B at_44) rfl (XS.goto X0.here hx rfl (pc0 := 45) (pc' := 50) rfl (B at_45) (by decide) (by decide) (XS.lstore X0.here hx rfl (B at_50) rfl (l' := (Sh15 q1 q2 q3 q4 q5 q6 2 3 (-9223372036854775808) (Int32.toInt64 q2) (Int32.toInt64 q3))) rfl (XS.iload X0.here hx rfl (B at_52) rfl (XS.iconst X0.here hx rfl (B at_54) k)))))))) ?_
   refine GoW.sg (mkF m 79 (Sh16 q1 q2 q3 q4 q5 q6 2 3 (-9223372036854775808) (Int32.toInt64 q2) (Int32.toInt64 q3) (Int32.toInt64 q4)) []) (fun t k => XS.icmpNo X0.here hx rfl (B at_55) rfl (by decide) (XS.iloadN X0.here hx rfl (B at_58) rfl (XS.i2l X0.here hx rfl (B at_59) rfl (XS.goto X0.here hx rfl (pc0 := 60) (pc' := 65) rfl (B at_60) (by decide) (by decide) (XS.lstore X0.here hx rfl (B at_65) rfl (l' := (Sh16 q1 q2 q3 q4 q5 q6 2 3 (-9223372036854775808) (Int32.toInt64 q2) (Int32.toInt64 q3) (Int32.toInt64 q4))) rfl (XS.iload X0.here hx rfl (B at_67) rfl (XS.iconst X0.here hx rfl (B at_69) (XS.icmpYes X0.here hx rfl (pc0 := 70) (pc' := 79) rfl (B at_70) rfl (by decide) (by decide) (by decide) k)))))))) ?_
   refine GoW.sg (mkF m 99 (Sh18 q1 q2 q3 q4 q5 q6 2 3 (-9223372036854775808) (Int32.toInt64 q2) (Int32.toInt64 q3) (Int32.toInt64 q4) (-9223372036854775808) (-9223372036854775808)) []) (fun t k => XS.lload X0.here hx rfl (B at_79) rfl (XS.lstore X0.here hx rfl (B at_81) rfl (l' := (Sh17 q1 q2 q3 q4 q5 q6 2 3 (-9223372036854775808) (Int32.toInt64 q2) (Int32.toInt64 q3) (Int32.toInt64 q4) (-9223372036854775808))) rfl (XS.iload X0.here hx rfl (B at_83) rfl (XS.iconst X0.here hx rfl (B at_85) (XS.icmpYes X0.here hx rfl (pc0 := 86) (pc' := 95) rfl (B at_86) rfl (by decide) (by decide) (by decide) (XS.lload X0.here hx rfl (B at_95) rfl (XS.lstore X0.here hx rfl (B at_97) rfl (l' := (Sh18 q1 q2 q3 q4 q5 q6 2 3 (-9223372036854775808) (Int32.toInt64 q2) (Int32.toInt64 q3) (Int32.toInt64 q4) (-9223372036854775808) (-9223372036854775808))) rfl k))))))) ?_
   obtain ⟨va, hva⟩ : ∃ z : Int64, z = (Int32.toInt64 q2) := ⟨_, rfl⟩
   obtain ⟨vb, hvb⟩ : ∃ z : Int64, z = (Int32.toInt64 q3) := ⟨_, rfl⟩
   obtain ⟨vc, hvc⟩ : ∃ z : Int64, z = (Int32.toInt64 q4) := ⟨_, rfl⟩
   obtain ⟨vd, hvd⟩ : ∃ z : Int64, z = (-9223372036854775808 : Int64) := ⟨_, rfl⟩
   obtain ⟨ve, hve⟩ : ∃ z : Int64, z = (-9223372036854775808 : Int64) := ⟨_, rfl⟩
   obtain ⟨mi, hmi⟩ : ∃ z : Int64, z = (-9223372036854775808 : Int64) := ⟨_, rfl⟩
   refine GoW.st (fun t k => by rw [hva, hvb, hvc, hvd, hve, hmi] at k; exact k) ?_ (u := s₁.setTop (mkF m 99 (Sh18 q1 q2 q3 q4 q5 q6 2 3 mi va vb vc vd ve) []))
   show GoW p e below s (ValQ (.int (1 : Int32)) n0) room_1.cells room_1.slots (s₁.setTop (mkF m 99 (Sh18 q1 q2 q3 q4 q5 q6 2 3 mi va vb vc vd ve) []))
   obtain ⟨T1019, h1019, X1019, e1019, E1019, A1019, D1019, -, st1019⟩ := newO X0 hx hZ hown (ww hw 1 rfl) (ww hw 2 rfl) (ww hw 3 rfl) e0 (g := (mkF m 99 (Sh18 q1 q2 q3 q4 q5 q6 2 3 mi va vb vc vd ve) [])) rfl (B at_99) (by decide) (by decide)
   obtain ⟨b1019, g1019⟩ : ∃ z, z = h0.size := ⟨_, rfl⟩
   rw [← g1019] at A1019 D1019 st1019
   have g_b1019 : n0 ≤ b1019 := Nat.le_trans Z0 (Nat.le_of_eq g1019.symm)
   have f1019_37 := Nat.le_trans Z0 E1019.1
   have F1019heap : Fld Z h1019 b1019 HSn "heap" "[D" .null := D1019 (Or.inr (ww hw 12 rfl)) (ty := (.array .double)) (by decide)
   have F1019size : Fld Z h1019 b1019 HSn "size" "I" (.int (0 : Int32)) := D1019 (Or.inl (ww hw 19 rfl)) (ty := .int) (by decide)
   refine GoW.sg (mkF m 102 (Sh18 q1 q2 q3 q4 q5 q6 2 3 mi va vb vc vd ve) [(.ref b1019)]) (fun t k => st1019 t k) ?_
   refine GoW.sg (mkF m 105 (Sh18 q1 q2 q3 q4 q5 q6 2 3 mi va vb vc vd ve) [(.int 2), (.ref b1019), (.ref b1019)]) (fun t k => XS.dup X1019.here hx rfl (B at_102) rfl rfl (XS.iload X1019.here hx rfl (B at_103) rfl k)) ?_
   obtain ⟨_, T1020, L1020, X1020, hQ1020, st1020⟩ := own_spec X1019 hx hZ (y := Y1) rfl hown (ww hw 4 rfl) (ww hw 5 rfl) (ww hw 3 rfl) (ww hw 6 rfl) (by decide) 1 (a := b1019) (rm1_33 l Z a0 hw b1019 h1019 n0 f1019_37 A1019 F1019heap F1019size g_b1019 ) (by decide) (by decide) e1019 (by decide) (by decide) (g := (mkF m 105 (Sh18 q1 q2 q3 q4 q5 q6 2 3 mi va vb vc vd ve) [(.int 2), (.ref b1019), (.ref b1019)])) rfl (by rw [hml]; rfl) (argsL := [(.int (2 : Int32))]) (rest := [(.ref b1019)]) (lenOf pd_28I29V rfl) rfl (Nat.le_of_eq rfl) (B at_105)
   obtain ⟨b1020_e0, k1020_ke0, rfl, N1020q, K1020, p1020_0, p1020_1, p1020_2, p1020_3, hz_b1020_e0⟩ := hQ1020
   have g_b1020_e0 : n0 ≤ b1020_e0 := Nat.le_trans f1019_37 hz_b1020_e0
   have ne_b1019_b1020_e0 : b1019 ≠ b1020_e0 := Nat.ne_of_lt (Nat.lt_of_lt_of_le A1019.lt hz_b1020_e0)
   have N1020 := Fr.app N0 N1020q
   refine GoW.sg (mkF m 108 (Sh18 q1 q2 q3 q4 q5 q6 2 3 mi va vb vc vd ve) [(.ref b1019)]) (fun t k => st1020 t k) ?_
   refine GoW.sg (mkF m 118 (Sh19 q1 q2 q3 q4 q5 q6 2 3 mi va vb vc vd ve b1019) [(.int q2), (.ref b1019)]) (fun t k => XS.astore X1020.here hx rfl (B at_108) rfl rfl (l' := (Sh19 q1 q2 q3 q4 q5 q6 2 3 mi va vb vc vd ve b1019)) rfl (XS.iload X1020.here hx rfl (B at_110) rfl (XS.ifNo X1020.here hx rfl (B at_112) rfl (by decide) (XS.aload X1020.here hx rfl (B at_115) rfl rfl (XS.iloadN X1020.here hx rfl (B at_117) rfl k))))) ?_
   obtain ⟨d1021, hd1021⟩ : ∃ d : UInt64, d = FP.l2d q2.toInt64 := ⟨_, rfl⟩
   refine GoW.sg (mkF m 119 (Sh19 q1 q2 q3 q4 q5 q6 2 3 mi va vb vc vd ve b1019) [(.double d1021), (.ref b1019)]) (fun t k => XS.i2dS X1020.here hx rfl (B at_118) rfl (v := d1021) ((i2d_w _).trans hd1021.symm) k) ?_
   obtain ⟨_, T1022, L1022, X1022, hQ1022, st1022⟩ := own_virt X1020 hx hZ (y := Y4) hown (ww hw 22 rfl) (ww hw 23 rfl) (ww hw 25 rfl) (ww hw 24 rfl) (ww hw 26 rfl) (ww hw 3 rfl) (by decide) 0 (a := b1019) (rmO20 l Z a0 hw b1019 d1021 q2 b1020_e0 k1020_ke0 T1020.heap n0 p1020_0 p1020_2 p1020_1 p1020_3 g_b1019 g_b1020_e0 ne_b1019_b1020_e0 hd1021 trivial) (by decide) (by decide) rfl p1020_0 (by decide) (by decide) (g := (mkF m 119 (Sh19 q1 q2 q3 q4 q5 q6 2 3 mi va vb vc vd ve b1019) [(.double d1021), (.ref b1019)])) rfl (by rw [hml]; rfl) (argsL := [(.double d1021)]) (rest := []) (lenOf pd_28D29V rfl) rfl (Nat.le_of_eq rfl) (B at_119)
   obtain ⟨k1022_w0, k1022_f0, rfl, N1022q, K1022, p1022_0, p1022_1, p1022_2, p1022_3, LQ1022⟩ := hQ1022
   have N1022 := Fr.app N1020 N1022q
   refine GoW.sg (mkF m 122 (Sh19 q1 q2 q3 q4 q5 q6 2 3 mi va vb vc vd ve b1019) []) (fun t k => st1022 t k) ?_
   obtain ⟨hf1022_0, hH1022, hR1022⟩ := LQ1022
   have A1022 : ∀ z : Int, cn z k1022_w0 = cn z q2 := fun z => by have _a := hR1022 z; have _c := own_cn z q2; omega
   refine GoW.sg (mkF m 131 (Sh19 q1 q2 q3 q4 q5 q6 2 3 mi va vb vc vd ve b1019) [(.int q3), (.ref b1019)]) (fun t k => XS.iload X1022.here hx rfl (B at_122) rfl (XS.iconst X1022.here hx rfl (B at_124) (XS.icmpNo X1022.here hx rfl (B at_125) rfl (by decide) (XS.aload X1022.here hx rfl (B at_128) rfl rfl (XS.iloadN X1022.here hx rfl (B at_130) rfl k))))) ?_
   obtain ⟨d1023, hd1023⟩ : ∃ d : UInt64, d = FP.l2d q3.toInt64 := ⟨_, rfl⟩
   refine GoW.sg (mkF m 132 (Sh19 q1 q2 q3 q4 q5 q6 2 3 mi va vb vc vd ve b1019) [(.double d1023), (.ref b1019)]) (fun t k => XS.i2dS X1022.here hx rfl (B at_131) rfl (v := d1023) ((i2d_w _).trans hd1023.symm) k) ?_
   obtain ⟨_, T1024, L1024, X1024, hQ1024, st1024⟩ := own_virt X1022 hx hZ (y := Y4) hown (ww hw 22 rfl) (ww hw 23 rfl) (ww hw 25 rfl) (ww hw 24 rfl) (ww hw 26 rfl) (ww hw 3 rfl) (by decide) 0 (a := b1019) (rmO21 l Z a0 hw b1019 d1023 q3 k1022_w0 k1022_f0 b1020_e0 k1020_ke0 T1022.heap n0 p1022_0 p1022_1 p1022_2 p1022_3 g_b1019 g_b1020_e0 ne_b1019_b1020_e0 hf1022_0 hd1023 hH1022) (by decide) (by decide) rfl p1022_0 (by decide) (by decide) (g := (mkF m 132 (Sh19 q1 q2 q3 q4 q5 q6 2 3 mi va vb vc vd ve b1019) [(.double d1023), (.ref b1019)])) rfl (by rw [hml]; rfl) (argsL := [(.double d1023)]) (rest := []) (lenOf pd_28D29V rfl) rfl (Nat.le_of_eq rfl) (B at_132)
   obtain ⟨k1024_w0, k1024_w1, k1024_f0, k1024_f1, rfl, N1024q, K1024, p1024_0, p1024_1, p1024_2, p1024_3, LQ1024⟩ := hQ1024
   have N1024 := Fr.app N1022 N1024q
   refine GoW.sg (mkF m 135 (Sh19 q1 q2 q3 q4 q5 q6 2 3 mi va vb vc vd ve b1019) []) (fun t k => st1024 t k) ?_
   obtain ⟨hf1024_0, hf1024_1, hH1024, hR1024⟩ := LQ1024
   have A1024 : ∀ z : Int, cn z k1024_w0 + cn z k1024_w1 = cn z q2 + cn z q3 := fun z => by have _a := hR1024 z; have _b := A1022 z; have _c := own_cn z q3; omega
   refine GoW.sg (mkF m 144 (Sh19 q1 q2 q3 q4 q5 q6 2 3 mi va vb vc vd ve b1019) [(.int q4), (.ref b1019)]) (fun t k => XS.iload X1024.here hx rfl (B at_135) rfl (XS.iconst X1024.here hx rfl (B at_137) (XS.icmpNo X1024.here hx rfl (B at_138) rfl (by decide) (XS.aload X1024.here hx rfl (B at_141) rfl rfl (XS.iloadN X1024.here hx rfl (B at_143) rfl k))))) ?_
   obtain ⟨d1025, hd1025⟩ : ∃ d : UInt64, d = FP.l2d q4.toInt64 := ⟨_, rfl⟩
   refine GoW.sg (mkF m 145 (Sh19 q1 q2 q3 q4 q5 q6 2 3 mi va vb vc vd ve b1019) [(.double d1025), (.ref b1019)]) (fun t k => XS.i2dS X1024.here hx rfl (B at_144) rfl (v := d1025) ((i2d_w _).trans hd1025.symm) k) ?_
   obtain ⟨_, T1026, L1026, X1026, hQ1026, st1026⟩ := own_virt X1024 hx hZ (y := Y4) hown (ww hw 22 rfl) (ww hw 23 rfl) (ww hw 25 rfl) (ww hw 24 rfl) (ww hw 26 rfl) (ww hw 3 rfl) (by decide) 0 (a := b1019) (rmO22 l Z a0 hw b1019 d1025 q4 k1024_w0 k1024_w1 k1024_f0 k1024_f1 b1020_e0 k1020_ke0 T1024.heap n0 p1024_0 p1024_1 p1024_2 p1024_3 g_b1019 g_b1020_e0 ne_b1019_b1020_e0 hf1024_0 hf1024_1 hd1025 hH1024) (by decide) (by decide) rfl p1024_0 (by decide) (by decide) (g := (mkF m 145 (Sh19 q1 q2 q3 q4 q5 q6 2 3 mi va vb vc vd ve b1019) [(.double d1025), (.ref b1019)])) rfl (by rw [hml]; rfl) (argsL := [(.double d1025)]) (rest := []) (lenOf pd_28D29V rfl) rfl (Nat.le_of_eq rfl) (B at_145)
   obtain ⟨k1026_w0, k1026_w1, k1026_f0, k1026_f1, rfl, N1026q, K1026, p1026_0, p1026_1, p1026_2, p1026_3, LQ1026⟩ := hQ1026
   have N1026 := Fr.app N1024 N1026q
   refine GoW.sg (mkF m 148 (Sh19 q1 q2 q3 q4 q5 q6 2 3 mi va vb vc vd ve b1019) []) (fun t k => st1026 t k) ?_
   obtain ⟨hf1026_0, hf1026_1, hH1026, hR1026⟩ := LQ1026
   have A1026 : ∀ z : Int, cn z k1026_w0 + cn z k1026_w1 = min 2 (cn z q2 + cn z q3 + cn z q4) := fun z => by have _a := hR1026 z; have _b := A1024 z; have _c := own_cn z q4; omega
   refine GoW.sg (mkF m 178 (Sh19 q1 q2 q3 q4 q5 q6 2 3 mi va vb vc vd ve b1019) [(.ref b1019)]) (fun t k => XS.iload X1026.here hx rfl (B at_148) rfl (XS.iconst X1026.here hx rfl (B at_150) (XS.icmpYes X1026.here hx rfl (pc0 := 151) (pc' := 162) rfl (B at_151) rfl (by decide) (by decide) (by decide) (XS.iload X1026.here hx rfl (B at_162) rfl (XS.iconst X1026.here hx rfl (B at_164) (XS.icmpYes X1026.here hx rfl (pc0 := 165) (pc' := 176) rfl (B at_165) rfl (by decide) (by decide) (by decide) (XS.aload X1026.here hx rfl (B at_176) rfl rfl k))))))) ?_
   obtain ⟨_, T1027, L1027, X1027, hQ1027, st1027⟩ := own_virt X1026 hx hZ (y := Y3) hown (ww hw 13 rfl) (ww hw 14 rfl) (ww hw 16 rfl) (ww hw 15 rfl) (ww hw 17 rfl) (ww hw 3 rfl) (by decide) 0 (a := b1019) (rm3_36 l Z a0 hw b1019 b1020_e0 k1020_ke0 k1026_f0 k1026_f1 k1026_w0 k1026_w1 T1026.heap n0 p1026_2 p1026_1 p1026_3 hf1026_0 hf1026_1 ) (by decide) (by decide) rfl p1026_0 (by decide) (by decide) (g := (mkF m 178 (Sh19 q1 q2 q3 q4 q5 q6 2 3 mi va vb vc vd ve b1019) [(.ref b1019)])) rfl (by rw [hml]; rfl) (argsL := []) (rest := []) (lenOf pd_2829D rfl) rfl (Nat.le_of_eq rfl) (B at_178)
   obtain ⟨rfl, N1027q, e1027⟩ := hQ1027
   have N1027 := Fr.app N1026 N1027q
   refine GoW.sg (mkF m 181 (Sh19 q1 q2 q3 q4 q5 q6 2 3 mi va vb vc vd ve b1019) [(.double k1026_f0)]) (fun t k => st1027 t k) ?_
   refine GoW.sg (mkF m 205 (Sh10 q1 q2 q3 q4 q5 q6 2 3 mi va vb vc vd ve b1019 k1026_f0) []) (fun t k => XS.dstore X1027.here hx rfl (B at_181) rfl (l' := (Sh10 q1 q2 q3 q4 q5 q6 2 3 mi va vb vc vd ve b1019 k1026_f0)) rfl (XS.iload X1027.here hx rfl (B at_183) rfl (XS.iload X1027.here hx rfl (B at_185) rfl (XS.icmpYes X1027.here hx rfl (pc0 := 187) (pc' := 205) rfl (B at_187) rfl (by decide) (by decide) (by decide) k)))) ?_
   exact J _ _ _ _ _ _ _ _ _ _ _ _ k1026_w0 X1027 e1027 N1027 hf1026_0 (fun r1 r2 r3 r4 r5 h1 h2 h3 h4 h5 => by subst hva hvb hvc hvd hve hmi; exact own_fin23 h1 h2 h3 h4 h5 hH1026 A1026)
  ·rw [vv]
   show GoW p e below s (ValQ (.int (1 : Int32)) n0) room_1.cells room_1.slots (s₁.setTop (mkF m 18 (Sh12 q1 q2 q3 q4 q5 q6 2 4) []))
   refine GoW.sg (mkF m 21 (Sh12 q1 q2 q3 q4 q5 q6 2 4) [(.long (-9223372036854775808))]) (fun t k => X0.ldc2Long hx hown (mvT hZ (ww hw 0 rfl)) (g := (mkF m 18 (Sh12 q1 q2 q3 q4 q5 q6 2 4) [])) rfl (B at_18) t k) ?_
   refine GoW.sg (mkF m 39 (Sh14 q1 q2 q3 q4 q5 q6 2 4 (-9223372036854775808) (Int32.toInt64 q2)) [(.int 4)]) (fun t k => XS.lstore X0.here hx rfl (B at_21) rfl (l' := (Sh13 q1 q2 q3 q4 q5 q6 2 4 (-9223372036854775808))) rfl (XS.iload X0.here hx rfl (B at_23) rfl (XS.ifNo X0.here hx rfl (B at_25) rfl (by decide) (XS.iloadN X0.here hx rfl (B at_28) rfl (XS.i2l X0.here hx rfl (B at_29) rfl (XS.goto X0.here hx rfl (pc0 := 30) (pc' := 35) rfl (B at_30) (by decide) (by decide) (XS.lstore X0.here hx rfl (B at_35) rfl (l' := (Sh14 q1 q2 q3 q4 q5 q6 2 4 (-9223372036854775808) (Int32.toInt64 q2))) rfl (XS.iload X0.here hx rfl (B at_37) rfl k)))))))) ?_
   refine GoW.sg (mkF m 55 (Sh15 q1 q2 q3 q4 q5 q6 2 4 (-9223372036854775808) (Int32.toInt64 q2) (Int32.toInt64 q3)) [(.int 2), (.int 4)]) (fun t k => XS.iconst X0.here hx rfl (B at_39) (XS.icmpNo X0.here hx rfl (B at_40) rfl (by decide) (XS.iloadN X0.here hx rfl (B at_43) rfl (XS.i2l X0.here hx rfl (B at_44) rfl (XS.goto X0.here hx rfl (pc0 := 45) (pc' := 50) rfl (B at_45) (by decide) (by decide) (XS.lstore X0.here hx rfl (B at_50) rfl (l' := (Sh15 q1 q2 q3 q4 q5 q6 2 4 (-9223372036854775808) (Int32.toInt64 q2) (Int32.toInt64 q3))) rfl (XS.iload X0.here hx rfl (B at_52) rfl (XS.iconst X0.here hx rfl (B at_54) k)))))))) ?_
   refine GoW.sg (mkF m 73 (Sh16 q1 q2 q3 q4 q5 q6 2 4 (-9223372036854775808) (Int32.toInt64 q2) (Int32.toInt64 q3) (Int32.toInt64 q4)) []) (fun t k => XS.icmpNo X0.here hx rfl (B at_55) rfl (by decide) (XS.iloadN X0.here hx rfl (B at_58) rfl (XS.i2l X0.here hx rfl (B at_59) rfl (XS.goto X0.here hx rfl (pc0 := 60) (pc' := 65) rfl (B at_60) (by decide) (by decide) (XS.lstore X0.here hx rfl (B at_65) rfl (l' := (Sh16 q1 q2 q3 q4 q5 q6 2 4 (-9223372036854775808) (Int32.toInt64 q2) (Int32.toInt64 q3) (Int32.toInt64 q4))) rfl (XS.iload X0.here hx rfl (B at_67) rfl (XS.iconst X0.here hx rfl (B at_69) (XS.icmpNo X0.here hx rfl (B at_70) rfl (by decide) k)))))))) ?_
   refine GoW.sg (mkF m 97 (Sh17 q1 q2 q3 q4 q5 q6 2 4 (-9223372036854775808) (Int32.toInt64 q2) (Int32.toInt64 q3) (Int32.toInt64 q4) (Int32.toInt64 q5)) [(.long (-9223372036854775808))]) (fun t k => XS.iload X0.here hx rfl (B at_73) rfl (XS.i2l X0.here hx rfl (B at_75) rfl (XS.goto X0.here hx rfl (pc0 := 76) (pc' := 81) rfl (B at_76) (by decide) (by decide) (XS.lstore X0.here hx rfl (B at_81) rfl (l' := (Sh17 q1 q2 q3 q4 q5 q6 2 4 (-9223372036854775808) (Int32.toInt64 q2) (Int32.toInt64 q3) (Int32.toInt64 q4) (Int32.toInt64 q5))) rfl (XS.iload X0.here hx rfl (B at_83) rfl (XS.iconst X0.here hx rfl (B at_85) (XS.icmpYes X0.here hx rfl (pc0 := 86) (pc' := 95) rfl (B at_86) rfl (by decide) (by decide) (by decide) (XS.lload X0.here hx rfl (B at_95) rfl k)))))))) ?_
   refine GoW.sg (mkF m 99 (Sh18 q1 q2 q3 q4 q5 q6 2 4 (-9223372036854775808) (Int32.toInt64 q2) (Int32.toInt64 q3) (Int32.toInt64 q4) (Int32.toInt64 q5) (-9223372036854775808)) []) (fun t k => XS.lstore X0.here hx rfl (B at_97) rfl (l' := (Sh18 q1 q2 q3 q4 q5 q6 2 4 (-9223372036854775808) (Int32.toInt64 q2) (Int32.toInt64 q3) (Int32.toInt64 q4) (Int32.toInt64 q5) (-9223372036854775808))) rfl k) ?_
   obtain ⟨va, hva⟩ : ∃ z : Int64, z = (Int32.toInt64 q2) := ⟨_, rfl⟩
   obtain ⟨vb, hvb⟩ : ∃ z : Int64, z = (Int32.toInt64 q3) := ⟨_, rfl⟩
   obtain ⟨vc, hvc⟩ : ∃ z : Int64, z = (Int32.toInt64 q4) := ⟨_, rfl⟩
   obtain ⟨vd, hvd⟩ : ∃ z : Int64, z = (Int32.toInt64 q5) := ⟨_, rfl⟩
   obtain ⟨ve, hve⟩ : ∃ z : Int64, z = (-9223372036854775808 : Int64) := ⟨_, rfl⟩
   obtain ⟨mi, hmi⟩ : ∃ z : Int64, z = (-9223372036854775808 : Int64) := ⟨_, rfl⟩
   refine GoW.st (fun t k => by rw [hva, hvb, hvc, hvd, hve, hmi] at k; exact k) ?_ (u := s₁.setTop (mkF m 99 (Sh18 q1 q2 q3 q4 q5 q6 2 4 mi va vb vc vd ve) []))
   show GoW p e below s (ValQ (.int (1 : Int32)) n0) room_1.cells room_1.slots (s₁.setTop (mkF m 99 (Sh18 q1 q2 q3 q4 q5 q6 2 4 mi va vb vc vd ve) []))
   obtain ⟨T1028, h1028, X1028, e1028, E1028, A1028, D1028, -, st1028⟩ := newO X0 hx hZ hown (ww hw 1 rfl) (ww hw 2 rfl) (ww hw 3 rfl) e0 (g := (mkF m 99 (Sh18 q1 q2 q3 q4 q5 q6 2 4 mi va vb vc vd ve) [])) rfl (B at_99) (by decide) (by decide)
   obtain ⟨b1028, g1028⟩ : ∃ z, z = h0.size := ⟨_, rfl⟩
   rw [← g1028] at A1028 D1028 st1028
   have g_b1028 : n0 ≤ b1028 := Nat.le_trans Z0 (Nat.le_of_eq g1028.symm)
   have f1028_42 := Nat.le_trans Z0 E1028.1
   have F1028heap : Fld Z h1028 b1028 HSn "heap" "[D" .null := D1028 (Or.inr (ww hw 12 rfl)) (ty := (.array .double)) (by decide)
   have F1028size : Fld Z h1028 b1028 HSn "size" "I" (.int (0 : Int32)) := D1028 (Or.inl (ww hw 19 rfl)) (ty := .int) (by decide)
   refine GoW.sg (mkF m 102 (Sh18 q1 q2 q3 q4 q5 q6 2 4 mi va vb vc vd ve) [(.ref b1028)]) (fun t k => st1028 t k) ?_
   refine GoW.sg (mkF m 105 (Sh18 q1 q2 q3 q4 q5 q6 2 4 mi va vb vc vd ve) [(.int 2), (.ref b1028), (.ref b1028)]) (fun t k => XS.dup X1028.here hx rfl (B at_102) rfl rfl (XS.iload X1028.here hx rfl (B at_103) rfl k)) ?_
   obtain ⟨_, T1029, L1029, X1029, hQ1029, st1029⟩ := own_spec X1028 hx hZ (y := Y1) rfl hown (ww hw 4 rfl) (ww hw 5 rfl) (ww hw 3 rfl) (ww hw 6 rfl) (by decide) 1 (a := b1028) (rm1_33 l Z a0 hw b1028 h1028 n0 f1028_42 A1028 F1028heap F1028size g_b1028 ) (by decide) (by decide) e1028 (by decide) (by decide) (g := (mkF m 105 (Sh18 q1 q2 q3 q4 q5 q6 2 4 mi va vb vc vd ve) [(.int 2), (.ref b1028), (.ref b1028)])) rfl (by rw [hml]; rfl) (argsL := [(.int (2 : Int32))]) (rest := [(.ref b1028)]) (lenOf pd_28I29V rfl) rfl (Nat.le_of_eq rfl) (B at_105)
   obtain ⟨b1029_e0, k1029_ke0, rfl, N1029q, K1029, p1029_0, p1029_1, p1029_2, p1029_3, hz_b1029_e0⟩ := hQ1029
   have g_b1029_e0 : n0 ≤ b1029_e0 := Nat.le_trans f1028_42 hz_b1029_e0
   have ne_b1028_b1029_e0 : b1028 ≠ b1029_e0 := Nat.ne_of_lt (Nat.lt_of_lt_of_le A1028.lt hz_b1029_e0)
   have N1029 := Fr.app N0 N1029q
   refine GoW.sg (mkF m 108 (Sh18 q1 q2 q3 q4 q5 q6 2 4 mi va vb vc vd ve) [(.ref b1028)]) (fun t k => st1029 t k) ?_
   refine GoW.sg (mkF m 118 (Sh19 q1 q2 q3 q4 q5 q6 2 4 mi va vb vc vd ve b1028) [(.int q2), (.ref b1028)]) (fun t k => XS.astore X1029.here hx rfl (B at_108) rfl rfl (l' := (Sh19 q1 q2 q3 q4 q5 q6 2 4 mi va vb vc vd ve b1028)) rfl (XS.iload X1029.here hx rfl (B at_110) rfl (XS.ifNo X1029.here hx rfl (B at_112) rfl (by decide) (XS.aload X1029.here hx rfl (B at_115) rfl rfl (XS.iloadN X1029.here hx rfl (B at_117) rfl k))))) ?_
   obtain ⟨d1030, hd1030⟩ : ∃ d : UInt64, d = FP.l2d q2.toInt64 := ⟨_, rfl⟩
   refine GoW.sg (mkF m 119 (Sh19 q1 q2 q3 q4 q5 q6 2 4 mi va vb vc vd ve b1028) [(.double d1030), (.ref b1028)]) (fun t k => XS.i2dS X1029.here hx rfl (B at_118) rfl (v := d1030) ((i2d_w _).trans hd1030.symm) k) ?_
   obtain ⟨_, T1031, L1031, X1031, hQ1031, st1031⟩ := own_virt X1029 hx hZ (y := Y4) hown (ww hw 22 rfl) (ww hw 23 rfl) (ww hw 25 rfl) (ww hw 24 rfl) (ww hw 26 rfl) (ww hw 3 rfl) (by decide) 0 (a := b1028) (rmO20 l Z a0 hw b1028 d1030 q2 b1029_e0 k1029_ke0 T1029.heap n0 p1029_0 p1029_2 p1029_1 p1029_3 g_b1028 g_b1029_e0 ne_b1028_b1029_e0 hd1030 trivial) (by decide) (by decide) rfl p1029_0 (by decide) (by decide) (g := (mkF m 119 (Sh19 q1 q2 q3 q4 q5 q6 2 4 mi va vb vc vd ve b1028) [(.double d1030), (.ref b1028)])) rfl (by rw [hml]; rfl) (argsL := [(.double d1030)]) (rest := []) (lenOf pd_28D29V rfl) rfl (Nat.le_of_eq rfl) (B at_119)
   obtain ⟨k1031_w0, k1031_f0, rfl, N1031q, K1031, p1031_0, p1031_1, p1031_2, p1031_3, LQ1031⟩ := hQ1031
   have N1031 := Fr.app N1029 N1031q
   refine GoW.sg (mkF m 122 (Sh19 q1 q2 q3 q4 q5 q6 2 4 mi va vb vc vd ve b1028) []) (fun t k => st1031 t k) ?_
   obtain ⟨hf1031_0, hH1031, hR1031⟩ := LQ1031
   have A1031 : ∀ z : Int, cn z k1031_w0 = cn z q2 := fun z => by have _a := hR1031 z; have _c := own_cn z q2; omega
   refine GoW.sg (mkF m 131 (Sh19 q1 q2 q3 q4 q5 q6 2 4 mi va vb vc vd ve b1028) [(.int q3), (.ref b1028)]) (fun t k => XS.iload X1031.here hx rfl (B at_122) rfl (XS.iconst X1031.here hx rfl (B at_124) (XS.icmpNo X1031.here hx rfl (B at_125) rfl (by decide) (XS.aload X1031.here hx rfl (B at_128) rfl rfl (XS.iloadN X1031.here hx rfl (B at_130) rfl k))))) ?_
   obtain ⟨d1032, hd1032⟩ : ∃ d : UInt64, d = FP.l2d q3.toInt64 := ⟨_, rfl⟩
   refine GoW.sg (mkF m 132 (Sh19 q1 q2 q3 q4 q5 q6 2 4 mi va vb vc vd ve b1028) [(.double d1032), (.ref b1028)]) (fun t k => XS.i2dS X1031.here hx rfl (B at_131) rfl (v := d1032) ((i2d_w _).trans hd1032.symm) k) ?_
   obtain ⟨_, T1033, L1033, X1033, hQ1033, st1033⟩ := own_virt X1031 hx hZ (y := Y4) hown (ww hw 22 rfl) (ww hw 23 rfl) (ww hw 25 rfl) (ww hw 24 rfl) (ww hw 26 rfl) (ww hw 3 rfl) (by decide) 0 (a := b1028) (rmO21 l Z a0 hw b1028 d1032 q3 k1031_w0 k1031_f0 b1029_e0 k1029_ke0 T1031.heap n0 p1031_0 p1031_1 p1031_2 p1031_3 g_b1028 g_b1029_e0 ne_b1028_b1029_e0 hf1031_0 hd1032 hH1031) (by decide) (by decide) rfl p1031_0 (by decide) (by decide) (g := (mkF m 132 (Sh19 q1 q2 q3 q4 q5 q6 2 4 mi va vb vc vd ve b1028) [(.double d1032), (.ref b1028)])) rfl (by rw [hml]; rfl) (argsL := [(.double d1032)]) (rest := []) (lenOf pd_28D29V rfl) rfl (Nat.le_of_eq rfl) (B at_132)
   obtain ⟨k1033_w0, k1033_w1, k1033_f0, k1033_f1, rfl, N1033q, K1033, p1033_0, p1033_1, p1033_2, p1033_3, LQ1033⟩ := hQ1033
   have N1033 := Fr.app N1031 N1033q
   refine GoW.sg (mkF m 135 (Sh19 q1 q2 q3 q4 q5 q6 2 4 mi va vb vc vd ve b1028) []) (fun t k => st1033 t k) ?_
   obtain ⟨hf1033_0, hf1033_1, hH1033, hR1033⟩ := LQ1033
   have A1033 : ∀ z : Int, cn z k1033_w0 + cn z k1033_w1 = cn z q2 + cn z q3 := fun z => by have _a := hR1033 z; have _b := A1031 z; have _c := own_cn z q3; omega
   refine GoW.sg (mkF m 144 (Sh19 q1 q2 q3 q4 q5 q6 2 4 mi va vb vc vd ve b1028) [(.int q4), (.ref b1028)]) (fun t k => XS.iload X1033.here hx rfl (B at_135) rfl (XS.iconst X1033.here hx rfl (B at_137) (XS.icmpNo X1033.here hx rfl (B at_138) rfl (by decide) (XS.aload X1033.here hx rfl (B at_141) rfl rfl (XS.iloadN X1033.here hx rfl (B at_143) rfl k))))) ?_
   obtain ⟨d1034, hd1034⟩ : ∃ d : UInt64, d = FP.l2d q4.toInt64 := ⟨_, rfl⟩
   refine GoW.sg (mkF m 145 (Sh19 q1 q2 q3 q4 q5 q6 2 4 mi va vb vc vd ve b1028) [(.double d1034), (.ref b1028)]) (fun t k => XS.i2dS X1033.here hx rfl (B at_144) rfl (v := d1034) ((i2d_w _).trans hd1034.symm) k) ?_
   obtain ⟨_, T1035, L1035, X1035, hQ1035, st1035⟩ := own_virt X1033 hx hZ (y := Y4) hown (ww hw 22 rfl) (ww hw 23 rfl) (ww hw 25 rfl) (ww hw 24 rfl) (ww hw 26 rfl) (ww hw 3 rfl) (by decide) 0 (a := b1028) (rmO22 l Z a0 hw b1028 d1034 q4 k1033_w0 k1033_w1 k1033_f0 k1033_f1 b1029_e0 k1029_ke0 T1033.heap n0 p1033_0 p1033_1 p1033_2 p1033_3 g_b1028 g_b1029_e0 ne_b1028_b1029_e0 hf1033_0 hf1033_1 hd1034 hH1033) (by decide) (by decide) rfl p1033_0 (by decide) (by decide) (g := (mkF m 145 (Sh19 q1 q2 q3 q4 q5 q6 2 4 mi va vb vc vd ve b1028) [(.double d1034), (.ref b1028)])) rfl (by rw [hml]; rfl) (argsL := [(.double d1034)]) (rest := []) (lenOf pd_28D29V rfl) rfl (Nat.le_of_eq rfl) (B at_145)
   obtain ⟨k1035_w0, k1035_w1, k1035_f0, k1035_f1, rfl, N1035q, K1035, p1035_0, p1035_1, p1035_2, p1035_3, LQ1035⟩ := hQ1035
   have N1035 := Fr.app N1033 N1035q
   refine GoW.sg (mkF m 148 (Sh19 q1 q2 q3 q4 q5 q6 2 4 mi va vb vc vd ve b1028) []) (fun t k => st1035 t k) ?_
   obtain ⟨hf1035_0, hf1035_1, hH1035, hR1035⟩ := LQ1035
   have A1035 : ∀ z : Int, cn z k1035_w0 + cn z k1035_w1 = min 2 (cn z q2 + cn z q3 + cn z q4) := fun z => by have _a := hR1035 z; have _b := A1033 z; have _c := own_cn z q4; omega
   refine GoW.sg (mkF m 158 (Sh19 q1 q2 q3 q4 q5 q6 2 4 mi va vb vc vd ve b1028) [(.int q5), (.ref b1028)]) (fun t k => XS.iload X1035.here hx rfl (B at_148) rfl (XS.iconst X1035.here hx rfl (B at_150) (XS.icmpNo X1035.here hx rfl (B at_151) rfl (by decide) (XS.aload X1035.here hx rfl (B at_154) rfl rfl (XS.iload X1035.here hx rfl (B at_156) rfl k))))) ?_
   obtain ⟨d1036, hd1036⟩ : ∃ d : UInt64, d = FP.l2d q5.toInt64 := ⟨_, rfl⟩
   refine GoW.sg (mkF m 159 (Sh19 q1 q2 q3 q4 q5 q6 2 4 mi va vb vc vd ve b1028) [(.double d1036), (.ref b1028)]) (fun t k => XS.i2dS X1035.here hx rfl (B at_158) rfl (v := d1036) ((i2d_w _).trans hd1036.symm) k) ?_
   obtain ⟨_, T1037, L1037, X1037, hQ1037, st1037⟩ := own_virt X1035 hx hZ (y := Y4) hown (ww hw 22 rfl) (ww hw 23 rfl) (ww hw 25 rfl) (ww hw 24 rfl) (ww hw 26 rfl) (ww hw 3 rfl) (by decide) 0 (a := b1028) (rmO22 l Z a0 hw b1028 d1036 q5 k1035_w0 k1035_w1 k1035_f0 k1035_f1 b1029_e0 k1029_ke0 T1035.heap n0 p1035_0 p1035_1 p1035_2 p1035_3 g_b1028 g_b1029_e0 ne_b1028_b1029_e0 hf1035_0 hf1035_1 hd1036 hH1035) (by decide) (by decide) rfl p1035_0 (by decide) (by decide) (g := (mkF m 159 (Sh19 q1 q2 q3 q4 q5 q6 2 4 mi va vb vc vd ve b1028) [(.double d1036), (.ref b1028)])) rfl (by rw [hml]; rfl) (argsL := [(.double d1036)]) (rest := []) (lenOf pd_28D29V rfl) rfl (Nat.le_of_eq rfl) (B at_159)
   obtain ⟨k1037_w0, k1037_w1, k1037_f0, k1037_f1, rfl, N1037q, K1037, p1037_0, p1037_1, p1037_2, p1037_3, LQ1037⟩ := hQ1037
   have N1037 := Fr.app N1035 N1037q
   refine GoW.sg (mkF m 162 (Sh19 q1 q2 q3 q4 q5 q6 2 4 mi va vb vc vd ve b1028) []) (fun t k => st1037 t k) ?_
   obtain ⟨hf1037_0, hf1037_1, hH1037, hR1037⟩ := LQ1037
   have A1037 : ∀ z : Int, cn z k1037_w0 + cn z k1037_w1 = min 2 (cn z q2 + cn z q3 + cn z q4 + cn z q5) := fun z => by have _a := hR1037 z; have _b := A1035 z; have _c := own_cn z q5; omega
   refine GoW.sg (mkF m 178 (Sh19 q1 q2 q3 q4 q5 q6 2 4 mi va vb vc vd ve b1028) [(.ref b1028)]) (fun t k => XS.iload X1037.here hx rfl (B at_162) rfl (XS.iconst X1037.here hx rfl (B at_164) (XS.icmpYes X1037.here hx rfl (pc0 := 165) (pc' := 176) rfl (B at_165) rfl (by decide) (by decide) (by decide) (XS.aload X1037.here hx rfl (B at_176) rfl rfl k)))) ?_
   obtain ⟨_, T1038, L1038, X1038, hQ1038, st1038⟩ := own_virt X1037 hx hZ (y := Y3) hown (ww hw 13 rfl) (ww hw 14 rfl) (ww hw 16 rfl) (ww hw 15 rfl) (ww hw 17 rfl) (ww hw 3 rfl) (by decide) 0 (a := b1028) (rm3_36 l Z a0 hw b1028 b1029_e0 k1029_ke0 k1037_f0 k1037_f1 k1037_w0 k1037_w1 T1037.heap n0 p1037_2 p1037_1 p1037_3 hf1037_0 hf1037_1 ) (by decide) (by decide) rfl p1037_0 (by decide) (by decide) (g := (mkF m 178 (Sh19 q1 q2 q3 q4 q5 q6 2 4 mi va vb vc vd ve b1028) [(.ref b1028)])) rfl (by rw [hml]; rfl) (argsL := []) (rest := []) (lenOf pd_2829D rfl) rfl (Nat.le_of_eq rfl) (B at_178)
   obtain ⟨rfl, N1038q, e1038⟩ := hQ1038
   have N1038 := Fr.app N1037 N1038q
   refine GoW.sg (mkF m 181 (Sh19 q1 q2 q3 q4 q5 q6 2 4 mi va vb vc vd ve b1028) [(.double k1037_f0)]) (fun t k => st1038 t k) ?_
   refine GoW.sg (mkF m 205 (Sh10 q1 q2 q3 q4 q5 q6 2 4 mi va vb vc vd ve b1028 k1037_f0) []) (fun t k => XS.dstore X1038.here hx rfl (B at_181) rfl (l' := (Sh10 q1 q2 q3 q4 q5 q6 2 4 mi va vb vc vd ve b1028 k1037_f0)) rfl (XS.iload X1038.here hx rfl (B at_183) rfl (XS.iload X1038.here hx rfl (B at_185) rfl (XS.icmpYes X1038.here hx rfl (pc0 := 187) (pc' := 205) rfl (B at_187) rfl (by decide) (by decide) (by decide) k)))) ?_
   exact J _ _ _ _ _ _ _ _ _ _ _ _ k1037_w0 X1038 e1038 N1038 hf1037_0 (fun r1 r2 r3 r4 r5 h1 h2 h3 h4 h5 => by subst hva hvb hvc hvd hve hmi; exact own_fin24 h1 h2 h3 h4 h5 hH1037 A1037)
  ·rw [vv]
   show GoW p e below s (ValQ (.int (1 : Int32)) n0) room_1.cells room_1.slots (s₁.setTop (mkF m 18 (Sh12 q1 q2 q3 q4 q5 q6 2 5) []))
   refine GoW.sg (mkF m 21 (Sh12 q1 q2 q3 q4 q5 q6 2 5) [(.long (-9223372036854775808))]) (fun t k => X0.ldc2Long hx hown (mvT hZ (ww hw 0 rfl)) (g := (mkF m 18 (Sh12 q1 q2 q3 q4 q5 q6 2 5) [])) rfl (B at_18) t k) ?_
   refine GoW.sg (mkF m 39 (Sh14 q1 q2 q3 q4 q5 q6 2 5 (-9223372036854775808) (Int32.toInt64 q2)) [(.int 5)]) (fun t k => XS.lstore X0.here hx rfl (B at_21) rfl (l' := (Sh13 q1 q2 q3 q4 q5 q6 2 5 (-9223372036854775808))) rfl (XS.iload X0.here hx rfl (B at_23) rfl (XS.ifNo X0.here hx rfl (B at_25) rfl (by decide) (XS.iloadN X0.here hx rfl (B at_28) rfl (XS.i2l X0.here hx rfl (B at_29) rfl (XS.goto X0.here hx rfl (pc0 := 30) (pc' := 35) rfl (B at_30) (by decide) (by decide) (XS.lstore X0.here hx rfl (B at_35) rfl (l' := (Sh14 q1 q2 q3 q4 q5 q6 2 5 (-9223372036854775808) (Int32.toInt64 q2))) rfl (XS.iload X0.here hx rfl (B at_37) rfl k)))))))) ?_
   refine GoW.sg (mkF m 55 (Sh15 q1 q2 q3 q4 q5 q6 2 5 (-9223372036854775808) (Int32.toInt64 q2) (Int32.toInt64 q3)) [(.int 2), (.int 5)]) (fun t k => XS.iconst X0.here hx rfl (B at_39) (XS.icmpNo X0.here hx rfl (B at_40) rfl (by decide) (XS.iloadN X0.here hx rfl (B at_43) rfl (XS.i2l X0.here hx rfl (B at_44) rfl (XS.goto X0.here hx rfl (pc0 := 45) (pc' := 50) rfl (B at_45) (by decide) (by decide) (XS.lstore X0.here hx rfl (B at_50) rfl (l' := (Sh15 q1 q2 q3 q4 q5 q6 2 5 (-9223372036854775808) (Int32.toInt64 q2) (Int32.toInt64 q3))) rfl (XS.iload X0.here hx rfl (B at_52) rfl (XS.iconst X0.here hx rfl (B at_54) k)))))))) ?_
   refine GoW.sg (mkF m 73 (Sh16 q1 q2 q3 q4 q5 q6 2 5 (-9223372036854775808) (Int32.toInt64 q2) (Int32.toInt64 q3) (Int32.toInt64 q4)) []) (fun t k => XS.icmpNo X0.here hx rfl (B at_55) rfl (by decide) (XS.iloadN X0.here hx rfl (B at_58) rfl (XS.i2l X0.here hx rfl (B at_59) rfl (XS.goto X0.here hx rfl (pc0 := 60) (pc' := 65) rfl (B at_60) (by decide) (by decide) (XS.lstore X0.here hx rfl (B at_65) rfl (l' := (Sh16 q1 q2 q3 q4 q5 q6 2 5 (-9223372036854775808) (Int32.toInt64 q2) (Int32.toInt64 q3) (Int32.toInt64 q4))) rfl (XS.iload X0.here hx rfl (B at_67) rfl (XS.iconst X0.here hx rfl (B at_69) (XS.icmpNo X0.here hx rfl (B at_70) rfl (by decide) k)))))))) ?_
   refine GoW.sg (mkF m 91 (Sh17 q1 q2 q3 q4 q5 q6 2 5 (-9223372036854775808) (Int32.toInt64 q2) (Int32.toInt64 q3) (Int32.toInt64 q4) (Int32.toInt64 q5)) [(.int q6)]) (fun t k => XS.iload X0.here hx rfl (B at_73) rfl (XS.i2l X0.here hx rfl (B at_75) rfl (XS.goto X0.here hx rfl (pc0 := 76) (pc' := 81) rfl (B at_76) (by decide) (by decide) (XS.lstore X0.here hx rfl (B at_81) rfl (l' := (Sh17 q1 q2 q3 q4 q5 q6 2 5 (-9223372036854775808) (Int32.toInt64 q2) (Int32.toInt64 q3) (Int32.toInt64 q4) (Int32.toInt64 q5))) rfl (XS.iload X0.here hx rfl (B at_83) rfl (XS.iconst X0.here hx rfl (B at_85) (XS.icmpNo X0.here hx rfl (B at_86) rfl (by decide) (XS.iload X0.here hx rfl (B at_89) rfl k)))))))) ?_
   refine GoW.sg (mkF m 99 (Sh18 q1 q2 q3 q4 q5 q6 2 5 (-9223372036854775808) (Int32.toInt64 q2) (Int32.toInt64 q3) (Int32.toInt64 q4) (Int32.toInt64 q5) (Int32.toInt64 q6)) []) (fun t k => XS.i2l X0.here hx rfl (B at_91) rfl (XS.goto X0.here hx rfl (pc0 := 92) (pc' := 97) rfl (B at_92) (by decide) (by decide) (XS.lstore X0.here hx rfl (B at_97) rfl (l' := (Sh18 q1 q2 q3 q4 q5 q6 2 5 (-9223372036854775808) (Int32.toInt64 q2) (Int32.toInt64 q3) (Int32.toInt64 q4) (Int32.toInt64 q5) (Int32.toInt64 q6))) rfl k))) ?_
   obtain ⟨va, hva⟩ : ∃ z : Int64, z = (Int32.toInt64 q2) := ⟨_, rfl⟩
   obtain ⟨vb, hvb⟩ : ∃ z : Int64, z = (Int32.toInt64 q3) := ⟨_, rfl⟩
   obtain ⟨vc, hvc⟩ : ∃ z : Int64, z = (Int32.toInt64 q4) := ⟨_, rfl⟩
   obtain ⟨vd, hvd⟩ : ∃ z : Int64, z = (Int32.toInt64 q5) := ⟨_, rfl⟩
   obtain ⟨ve, hve⟩ : ∃ z : Int64, z = (Int32.toInt64 q6) := ⟨_, rfl⟩
   obtain ⟨mi, hmi⟩ : ∃ z : Int64, z = (-9223372036854775808 : Int64) := ⟨_, rfl⟩
   refine GoW.st (fun t k => by rw [hva, hvb, hvc, hvd, hve, hmi] at k; exact k) ?_ (u := s₁.setTop (mkF m 99 (Sh18 q1 q2 q3 q4 q5 q6 2 5 mi va vb vc vd ve) []))
   show GoW p e below s (ValQ (.int (1 : Int32)) n0) room_1.cells room_1.slots (s₁.setTop (mkF m 99 (Sh18 q1 q2 q3 q4 q5 q6 2 5 mi va vb vc vd ve) []))
   obtain ⟨T1039, h1039, X1039, e1039, E1039, A1039, D1039, -, st1039⟩ := newO X0 hx hZ hown (ww hw 1 rfl) (ww hw 2 rfl) (ww hw 3 rfl) e0 (g := (mkF m 99 (Sh18 q1 q2 q3 q4 q5 q6 2 5 mi va vb vc vd ve) [])) rfl (B at_99) (by decide) (by decide)
   obtain ⟨b1039, g1039⟩ : ∃ z, z = h0.size := ⟨_, rfl⟩
   rw [← g1039] at A1039 D1039 st1039
   have g_b1039 : n0 ≤ b1039 := Nat.le_trans Z0 (Nat.le_of_eq g1039.symm)
   have f1039_48 := Nat.le_trans Z0 E1039.1
   have F1039heap : Fld Z h1039 b1039 HSn "heap" "[D" .null := D1039 (Or.inr (ww hw 12 rfl)) (ty := (.array .double)) (by decide)
   have F1039size : Fld Z h1039 b1039 HSn "size" "I" (.int (0 : Int32)) := D1039 (Or.inl (ww hw 19 rfl)) (ty := .int) (by decide)
   refine GoW.sg (mkF m 102 (Sh18 q1 q2 q3 q4 q5 q6 2 5 mi va vb vc vd ve) [(.ref b1039)]) (fun t k => st1039 t k) ?_
   refine GoW.sg (mkF m 105 (Sh18 q1 q2 q3 q4 q5 q6 2 5 mi va vb vc vd ve) [(.int 2), (.ref b1039), (.ref b1039)]) (fun t k => XS.dup X1039.here hx rfl (B at_102) rfl rfl (XS.iload X1039.here hx rfl (B at_103) rfl k)) ?_
   obtain ⟨_, T1040, L1040, X1040, hQ1040, st1040⟩ := own_spec X1039 hx hZ (y := Y1) rfl hown (ww hw 4 rfl) (ww hw 5 rfl) (ww hw 3 rfl) (ww hw 6 rfl) (by decide) 1 (a := b1039) (rm1_33 l Z a0 hw b1039 h1039 n0 f1039_48 A1039 F1039heap F1039size g_b1039 ) (by decide) (by decide) e1039 (by decide) (by decide) (g := (mkF m 105 (Sh18 q1 q2 q3 q4 q5 q6 2 5 mi va vb vc vd ve) [(.int 2), (.ref b1039), (.ref b1039)])) rfl (by rw [hml]; rfl) (argsL := [(.int (2 : Int32))]) (rest := [(.ref b1039)]) (lenOf pd_28I29V rfl) rfl (Nat.le_of_eq rfl) (B at_105)
   obtain ⟨b1040_e0, k1040_ke0, rfl, N1040q, K1040, p1040_0, p1040_1, p1040_2, p1040_3, hz_b1040_e0⟩ := hQ1040
   have g_b1040_e0 : n0 ≤ b1040_e0 := Nat.le_trans f1039_48 hz_b1040_e0
   have ne_b1039_b1040_e0 : b1039 ≠ b1040_e0 := Nat.ne_of_lt (Nat.lt_of_lt_of_le A1039.lt hz_b1040_e0)
   have N1040 := Fr.app N0 N1040q
   refine GoW.sg (mkF m 108 (Sh18 q1 q2 q3 q4 q5 q6 2 5 mi va vb vc vd ve) [(.ref b1039)]) (fun t k => st1040 t k) ?_
   refine GoW.sg (mkF m 118 (Sh19 q1 q2 q3 q4 q5 q6 2 5 mi va vb vc vd ve b1039) [(.int q2), (.ref b1039)]) (fun t k => XS.astore X1040.here hx rfl (B at_108) rfl rfl (l' := (Sh19 q1 q2 q3 q4 q5 q6 2 5 mi va vb vc vd ve b1039)) rfl (XS.iload X1040.here hx rfl (B at_110) rfl (XS.ifNo X1040.here hx rfl (B at_112) rfl (by decide) (XS.aload X1040.here hx rfl (B at_115) rfl rfl (XS.iloadN X1040.here hx rfl (B at_117) rfl k))))) ?_
   obtain ⟨d1041, hd1041⟩ : ∃ d : UInt64, d = FP.l2d q2.toInt64 := ⟨_, rfl⟩
   refine GoW.sg (mkF m 119 (Sh19 q1 q2 q3 q4 q5 q6 2 5 mi va vb vc vd ve b1039) [(.double d1041), (.ref b1039)]) (fun t k => XS.i2dS X1040.here hx rfl (B at_118) rfl (v := d1041) ((i2d_w _).trans hd1041.symm) k) ?_
   obtain ⟨_, T1042, L1042, X1042, hQ1042, st1042⟩ := own_virt X1040 hx hZ (y := Y4) hown (ww hw 22 rfl) (ww hw 23 rfl) (ww hw 25 rfl) (ww hw 24 rfl) (ww hw 26 rfl) (ww hw 3 rfl) (by decide) 0 (a := b1039) (rmO20 l Z a0 hw b1039 d1041 q2 b1040_e0 k1040_ke0 T1040.heap n0 p1040_0 p1040_2 p1040_1 p1040_3 g_b1039 g_b1040_e0 ne_b1039_b1040_e0 hd1041 trivial) (by decide) (by decide) rfl p1040_0 (by decide) (by decide) (g := (mkF m 119 (Sh19 q1 q2 q3 q4 q5 q6 2 5 mi va vb vc vd ve b1039) [(.double d1041), (.ref b1039)])) rfl (by rw [hml]; rfl) (argsL := [(.double d1041)]) (rest := []) (lenOf pd_28D29V rfl) rfl (Nat.le_of_eq rfl) (B at_119)
   obtain ⟨k1042_w0, k1042_f0, rfl, N1042q, K1042, p1042_0, p1042_1, p1042_2, p1042_3, LQ1042⟩ := hQ1042
   have N1042 := Fr.app N1040 N1042q
   refine GoW.sg (mkF m 122 (Sh19 q1 q2 q3 q4 q5 q6 2 5 mi va vb vc vd ve b1039) []) (fun t k => st1042 t k) ?_
   obtain ⟨hf1042_0, hH1042, hR1042⟩ := LQ1042
   have A1042 : ∀ z : Int, cn z k1042_w0 = cn z q2 := fun z => by have _a := hR1042 z; have _c := own_cn z q2; omega
   refine GoW.sg (mkF m 131 (Sh19 q1 q2 q3 q4 q5 q6 2 5 mi va vb vc vd ve b1039) [(.int q3), (.ref b1039)]) (fun t k => XS.iload X1042.here hx rfl (B at_122) rfl (XS.iconst X1042.here hx rfl (B at_124) (XS.icmpNo X1042.here hx rfl (B at_125) rfl (by decide) (XS.aload X1042.here hx rfl (B at_128) rfl rfl (XS.iloadN X1042.here hx rfl (B at_130) rfl k))))) ?_
   obtain ⟨d1043, hd1043⟩ : ∃ d : UInt64, d = FP.l2d q3.toInt64 := ⟨_, rfl⟩
   refine GoW.sg (mkF m 132 (Sh19 q1 q2 q3 q4 q5 q6 2 5 mi va vb vc vd ve b1039) [(.double d1043), (.ref b1039)]) (fun t k => XS.i2dS X1042.here hx rfl (B at_131) rfl (v := d1043) ((i2d_w _).trans hd1043.symm) k) ?_
   obtain ⟨_, T1044, L1044, X1044, hQ1044, st1044⟩ := own_virt X1042 hx hZ (y := Y4) hown (ww hw 22 rfl) (ww hw 23 rfl) (ww hw 25 rfl) (ww hw 24 rfl) (ww hw 26 rfl) (ww hw 3 rfl) (by decide) 0 (a := b1039) (rmO21 l Z a0 hw b1039 d1043 q3 k1042_w0 k1042_f0 b1040_e0 k1040_ke0 T1042.heap n0 p1042_0 p1042_1 p1042_2 p1042_3 g_b1039 g_b1040_e0 ne_b1039_b1040_e0 hf1042_0 hd1043 hH1042) (by decide) (by decide) rfl p1042_0 (by decide) (by decide) (g := (mkF m 132 (Sh19 q1 q2 q3 q4 q5 q6 2 5 mi va vb vc vd ve b1039) [(.double d1043), (.ref b1039)])) rfl (by rw [hml]; rfl) (argsL := [(.double d1043)]) (rest := []) (lenOf pd_28D29V rfl) rfl (Nat.le_of_eq rfl) (B at_132)
   obtain ⟨k1044_w0, k1044_w1, k1044_f0, k1044_f1, rfl, N1044q, K1044, p1044_0, p1044_1, p1044_2, p1044_3, LQ1044⟩ := hQ1044
   have N1044 := Fr.app N1042 N1044q
   refine GoW.sg (mkF m 135 (Sh19 q1 q2 q3 q4 q5 q6 2 5 mi va vb vc vd ve b1039) []) (fun t k => st1044 t k) ?_
   obtain ⟨hf1044_0, hf1044_1, hH1044, hR1044⟩ := LQ1044
   have A1044 : ∀ z : Int, cn z k1044_w0 + cn z k1044_w1 = cn z q2 + cn z q3 := fun z => by have _a := hR1044 z; have _b := A1042 z; have _c := own_cn z q3; omega
   refine GoW.sg (mkF m 144 (Sh19 q1 q2 q3 q4 q5 q6 2 5 mi va vb vc vd ve b1039) [(.int q4), (.ref b1039)]) (fun t k => XS.iload X1044.here hx rfl (B at_135) rfl (XS.iconst X1044.here hx rfl (B at_137) (XS.icmpNo X1044.here hx rfl (B at_138) rfl (by decide) (XS.aload X1044.here hx rfl (B at_141) rfl rfl (XS.iloadN X1044.here hx rfl (B at_143) rfl k))))) ?_
   obtain ⟨d1045, hd1045⟩ : ∃ d : UInt64, d = FP.l2d q4.toInt64 := ⟨_, rfl⟩
   refine GoW.sg (mkF m 145 (Sh19 q1 q2 q3 q4 q5 q6 2 5 mi va vb vc vd ve b1039) [(.double d1045), (.ref b1039)]) (fun t k => XS.i2dS X1044.here hx rfl (B at_144) rfl (v := d1045) ((i2d_w _).trans hd1045.symm) k) ?_
   obtain ⟨_, T1046, L1046, X1046, hQ1046, st1046⟩ := own_virt X1044 hx hZ (y := Y4) hown (ww hw 22 rfl) (ww hw 23 rfl) (ww hw 25 rfl) (ww hw 24 rfl) (ww hw 26 rfl) (ww hw 3 rfl) (by decide) 0 (a := b1039) (rmO22 l Z a0 hw b1039 d1045 q4 k1044_w0 k1044_w1 k1044_f0 k1044_f1 b1040_e0 k1040_ke0 T1044.heap n0 p1044_0 p1044_1 p1044_2 p1044_3 g_b1039 g_b1040_e0 ne_b1039_b1040_e0 hf1044_0 hf1044_1 hd1045 hH1044) (by decide) (by decide) rfl p1044_0 (by decide) (by decide) (g := (mkF m 145 (Sh19 q1 q2 q3 q4 q5 q6 2 5 mi va vb vc vd ve b1039) [(.double d1045), (.ref b1039)])) rfl (by rw [hml]; rfl) (argsL := [(.double d1045)]) (rest := []) (lenOf pd_28D29V rfl) rfl (Nat.le_of_eq rfl) (B at_145)
   obtain ⟨k1046_w0, k1046_w1, k1046_f0, k1046_f1, rfl, N1046q, K1046, p1046_0, p1046_1, p1046_2, p1046_3, LQ1046⟩ := hQ1046
   have N1046 := Fr.app N1044 N1046q
   refine GoW.sg (mkF m 148 (Sh19 q1 q2 q3 q4 q5 q6 2 5 mi va vb vc vd ve b1039) []) (fun t k => st1046 t k) ?_
   obtain ⟨hf1046_0, hf1046_1, hH1046, hR1046⟩ := LQ1046
   have A1046 : ∀ z : Int, cn z k1046_w0 + cn z k1046_w1 = min 2 (cn z q2 + cn z q3 + cn z q4) := fun z => by have _a := hR1046 z; have _b := A1044 z; have _c := own_cn z q4; omega
   refine GoW.sg (mkF m 158 (Sh19 q1 q2 q3 q4 q5 q6 2 5 mi va vb vc vd ve b1039) [(.int q5), (.ref b1039)]) (fun t k => XS.iload X1046.here hx rfl (B at_148) rfl (XS.iconst X1046.here hx rfl (B at_150) (XS.icmpNo X1046.here hx rfl (B at_151) rfl (by decide) (XS.aload X1046.here hx rfl (B at_154) rfl rfl (XS.iload X1046.here hx rfl (B at_156) rfl k))))) ?_
   obtain ⟨d1047, hd1047⟩ : ∃ d : UInt64, d = FP.l2d q5.toInt64 := ⟨_, rfl⟩
   refine GoW.sg (mkF m 159 (Sh19 q1 q2 q3 q4 q5 q6 2 5 mi va vb vc vd ve b1039) [(.double d1047), (.ref b1039)]) (fun t k => XS.i2dS X1046.here hx rfl (B at_158) rfl (v := d1047) ((i2d_w _).trans hd1047.symm) k) ?_
   obtain ⟨_, T1048, L1048, X1048, hQ1048, st1048⟩ := own_virt X1046 hx hZ (y := Y4) hown (ww hw 22 rfl) (ww hw 23 rfl) (ww hw 25 rfl) (ww hw 24 rfl) (ww hw 26 rfl) (ww hw 3 rfl) (by decide) 0 (a := b1039) (rmO22 l Z a0 hw b1039 d1047 q5 k1046_w0 k1046_w1 k1046_f0 k1046_f1 b1040_e0 k1040_ke0 T1046.heap n0 p1046_0 p1046_1 p1046_2 p1046_3 g_b1039 g_b1040_e0 ne_b1039_b1040_e0 hf1046_0 hf1046_1 hd1047 hH1046) (by decide) (by decide) rfl p1046_0 (by decide) (by decide) (g := (mkF m 159 (Sh19 q1 q2 q3 q4 q5 q6 2 5 mi va vb vc vd ve b1039) [(.double d1047), (.ref b1039)])) rfl (by rw [hml]; rfl) (argsL := [(.double d1047)]) (rest := []) (lenOf pd_28D29V rfl) rfl (Nat.le_of_eq rfl) (B at_159)
   obtain ⟨k1048_w0, k1048_w1, k1048_f0, k1048_f1, rfl, N1048q, K1048, p1048_0, p1048_1, p1048_2, p1048_3, LQ1048⟩ := hQ1048
   have N1048 := Fr.app N1046 N1048q
   refine GoW.sg (mkF m 162 (Sh19 q1 q2 q3 q4 q5 q6 2 5 mi va vb vc vd ve b1039) []) (fun t k => st1048 t k) ?_
   obtain ⟨hf1048_0, hf1048_1, hH1048, hR1048⟩ := LQ1048
   have A1048 : ∀ z : Int, cn z k1048_w0 + cn z k1048_w1 = min 2 (cn z q2 + cn z q3 + cn z q4 + cn z q5) := fun z => by have _a := hR1048 z; have _b := A1046 z; have _c := own_cn z q5; omega
   refine GoW.sg (mkF m 172 (Sh19 q1 q2 q3 q4 q5 q6 2 5 mi va vb vc vd ve b1039) [(.int q6), (.ref b1039)]) (fun t k => XS.iload X1048.here hx rfl (B at_162) rfl (XS.iconst X1048.here hx rfl (B at_164) (XS.icmpNo X1048.here hx rfl (B at_165) rfl (by decide) (XS.aload X1048.here hx rfl (B at_168) rfl rfl (XS.iload X1048.here hx rfl (B at_170) rfl k))))) ?_
   obtain ⟨d1049, hd1049⟩ : ∃ d : UInt64, d = FP.l2d q6.toInt64 := ⟨_, rfl⟩
   refine GoW.sg (mkF m 173 (Sh19 q1 q2 q3 q4 q5 q6 2 5 mi va vb vc vd ve b1039) [(.double d1049), (.ref b1039)]) (fun t k => XS.i2dS X1048.here hx rfl (B at_172) rfl (v := d1049) ((i2d_w _).trans hd1049.symm) k) ?_
   obtain ⟨_, T1050, L1050, X1050, hQ1050, st1050⟩ := own_virt X1048 hx hZ (y := Y4) hown (ww hw 22 rfl) (ww hw 23 rfl) (ww hw 25 rfl) (ww hw 24 rfl) (ww hw 26 rfl) (ww hw 3 rfl) (by decide) 0 (a := b1039) (rmO22 l Z a0 hw b1039 d1049 q6 k1048_w0 k1048_w1 k1048_f0 k1048_f1 b1040_e0 k1040_ke0 T1048.heap n0 p1048_0 p1048_1 p1048_2 p1048_3 g_b1039 g_b1040_e0 ne_b1039_b1040_e0 hf1048_0 hf1048_1 hd1049 hH1048) (by decide) (by decide) rfl p1048_0 (by decide) (by decide) (g := (mkF m 173 (Sh19 q1 q2 q3 q4 q5 q6 2 5 mi va vb vc vd ve b1039) [(.double d1049), (.ref b1039)])) rfl (by rw [hml]; rfl) (argsL := [(.double d1049)]) (rest := []) (lenOf pd_28D29V rfl) rfl (Nat.le_of_eq rfl) (B at_173)
   obtain ⟨k1050_w0, k1050_w1, k1050_f0, k1050_f1, rfl, N1050q, K1050, p1050_0, p1050_1, p1050_2, p1050_3, LQ1050⟩ := hQ1050
   have N1050 := Fr.app N1048 N1050q
   refine GoW.sg (mkF m 176 (Sh19 q1 q2 q3 q4 q5 q6 2 5 mi va vb vc vd ve b1039) []) (fun t k => st1050 t k) ?_
   obtain ⟨hf1050_0, hf1050_1, hH1050, hR1050⟩ := LQ1050
   have A1050 : ∀ z : Int, cn z k1050_w0 + cn z k1050_w1 = min 2 (cn z q2 + cn z q3 + cn z q4 + cn z q5 + cn z q6) := fun z => by have _a := hR1050 z; have _b := A1048 z; have _c := own_cn z q6; omega
   refine GoW.sg (mkF m 178 (Sh19 q1 q2 q3 q4 q5 q6 2 5 mi va vb vc vd ve b1039) [(.ref b1039)]) (fun t k => XS.aload X1050.here hx rfl (B at_176) rfl rfl k) ?_
   obtain ⟨_, T1051, L1051, X1051, hQ1051, st1051⟩ := own_virt X1050 hx hZ (y := Y3) hown (ww hw 13 rfl) (ww hw 14 rfl) (ww hw 16 rfl) (ww hw 15 rfl) (ww hw 17 rfl) (ww hw 3 rfl) (by decide) 0 (a := b1039) (rm3_36 l Z a0 hw b1039 b1040_e0 k1040_ke0 k1050_f0 k1050_f1 k1050_w0 k1050_w1 T1050.heap n0 p1050_2 p1050_1 p1050_3 hf1050_0 hf1050_1 ) (by decide) (by decide) rfl p1050_0 (by decide) (by decide) (g := (mkF m 178 (Sh19 q1 q2 q3 q4 q5 q6 2 5 mi va vb vc vd ve b1039) [(.ref b1039)])) rfl (by rw [hml]; rfl) (argsL := []) (rest := []) (lenOf pd_2829D rfl) rfl (Nat.le_of_eq rfl) (B at_178)
   obtain ⟨rfl, N1051q, e1051⟩ := hQ1051
   have N1051 := Fr.app N1050 N1051q
   refine GoW.sg (mkF m 181 (Sh19 q1 q2 q3 q4 q5 q6 2 5 mi va vb vc vd ve b1039) [(.double k1050_f0)]) (fun t k => st1051 t k) ?_
   refine GoW.sg (mkF m 205 (Sh10 q1 q2 q3 q4 q5 q6 2 5 mi va vb vc vd ve b1039 k1050_f0) []) (fun t k => XS.dstore X1051.here hx rfl (B at_181) rfl (l' := (Sh10 q1 q2 q3 q4 q5 q6 2 5 mi va vb vc vd ve b1039 k1050_f0)) rfl (XS.iload X1051.here hx rfl (B at_183) rfl (XS.iload X1051.here hx rfl (B at_185) rfl (XS.icmpYes X1051.here hx rfl (pc0 := 187) (pc' := 205) rfl (B at_187) rfl (by decide) (by decide) (by decide) k)))) ?_
   exact J _ _ _ _ _ _ _ _ _ _ _ _ k1050_w0 X1051 e1051 N1051 hf1050_0 (fun r1 r2 r3 r4 r5 h1 h2 h3 h4 h5 => by subst hva hvb hvc hvd hve hmi; exact own_fin25 h1 h2 h3 h4 h5 hH1050 A1050)
 ·rw [vv]
  show GoW p e below s (ValQ (.int (1 : Int32)) n0) room_1.cells room_1.slots (s₁.setTop (mkF m 7 (Sh9 q1 q2 q3 q4 q5 q6 3) []))
  refine GoW.sg (mkF m 10 (Sh9 q1 q2 q3 q4 q5 q6 3) [(.int (q1.toUInt32 >>> ((2 : Int32) &&& 31).toUInt32).toInt32)]) (fun t k => XS.iloadN X0.here hx rfl (B at_7) rfl (XS.iconst X0.here hx rfl (B at_8) (XS.iushr X0.here hx rfl (B at_9) rfl k))) ?_
  have J : ∀ (Tj : State) (Lj : List Loc) (hj : Heap) (nn : Int32) (mi va vb vc vd ve : Int64) (bb : Addr) (f0 : UInt64) (w0 : Int32), Stand p l e room_1 s m #[(.int q1), (.int q2), (.int q3), (.int q4), (.int q5), (.int q6)] below meth c Tj Lj 2 5 → Tj.heap = hj → Fr n0 Lj → f0 = FP.l2d (Int32.toInt64 w0) → (∀ r1 r2 r3 r4 r5 : Int64, r1 = (F6 mi va (3 : Int32) va vb vc vd ve) → r2 = (F6 r1 vb (3 : Int32) va vb vc vd ve) → r3 = (F6 r2 vc (3 : Int32) va vb vc vd ve) → r4 = (F6 r3 vd (3 : Int32) va vb vc vd ve) → r5 = (F6 r4 ve (3 : Int32) va vb vc vd ve) → r5 = (Int32.toInt64 w0)) → GoW p e below s (ValQ (.int (1 : Int32)) n0) room_1.cells room_1.slots (Tj.setTop (mkF m 205 (Sh10 q1 q2 q3 q4 q5 q6 3 nn mi va vb vc vd ve bb f0) [])) := by
   intro Tj Lj hj nn mi va vb vc vd ve bb f0 w0 Xj ej Nj hf0 hF
   refine GoW.sg (mkF m 221 (Sh11 q1 q2 q3 q4 q5 q6 3 nn mi va vb vc vd ve bb f0 mi) [(.long vc), (.long vb), (.long va), (.int 3), (.long va), (.long mi)]) (fun t k => XS.lload Xj.here hx rfl (B at_205) rfl (XS.lstore Xj.here hx rfl (B at_207) rfl (l' := (Sh11 q1 q2 q3 q4 q5 q6 3 nn mi va vb vc vd ve bb f0 mi)) rfl (XS.lload Xj.here hx rfl (B at_209) rfl (XS.lload Xj.here hx rfl (B at_211) rfl (XS.iload Xj.here hx rfl (B at_213) rfl (XS.lload Xj.here hx rfl (B at_215) rfl (XS.lload Xj.here hx rfl (B at_217) rfl (XS.lload Xj.here hx rfl (B at_219) rfl k)))))))) ?_
   refine GoW.sg (mkF m 225 (Sh11 q1 q2 q3 q4 q5 q6 3 nn mi va vb vc vd ve bb f0 mi) [(.long ve), (.long vd), (.long vc), (.long vb), (.long va), (.int 3), (.long va), (.long mi)]) (fun t k => XS.lload Xj.here hx rfl (B at_221) rfl (XS.lload Xj.here hx rfl (B at_223) rfl k)) ?_
   obtain ⟨_, T1052, L1052, X1052, hQ1052, st1052⟩ := own_callS Xj hx hZ hown (y := Y6) (ww hw 31 rfl) (ww hw 32 rfl) (ww hw 33 rfl) (ww hw 34 rfl) (by decide) 0 (rm6 l Z a0 hw mi va (3 : Int32) va vb vc vd ve hj n0) (by decide) (by decide) ej (by decide) (by decide) (g := (mkF m 225 (Sh11 q1 q2 q3 q4 q5 q6 3 nn mi va vb vc vd ve bb f0 mi) [(.long ve), (.long vd), (.long vc), (.long vb), (.long va), (.int 3), (.long va), (.long mi)])) rfl (by rw [hml]; rfl) (argsL := [(.long mi), (.long va), (.int (3 : Int32)), (.long va), (.long vb), (.long vc), (.long vd), (.long ve)]) (rest := []) (lenOf pd_28JJIJJJJJ29J rfl) rfl (Nat.le_of_eq rfl) (B at_225)
   obtain ⟨rfl, N1052q, e1052⟩ := hQ1052
   have N1052 := Fr.app Nj N1052q
   refine GoW.sg (mkF m 228 (Sh11 q1 q2 q3 q4 q5 q6 3 nn mi va vb vc vd ve bb f0 mi) [(.long (F6 mi va (3 : Int32) va vb vc vd ve))]) (fun t k => st1052 t k) ?_
   refine GoW.sg (mkF m 230 (Sh11 q1 q2 q3 q4 q5 q6 3 nn mi va vb vc vd ve bb f0 (F6 mi va (3 : Int32) va vb vc vd ve)) []) (fun t k => XS.lstore X1052.here hx rfl (B at_228) rfl (l' := (Sh11 q1 q2 q3 q4 q5 q6 3 nn mi va vb vc vd ve bb f0 (F6 mi va (3 : Int32) va vb vc vd ve))) rfl k) ?_
   obtain ⟨r1, hr1⟩ : ∃ z : Int64, z = (F6 mi va (3 : Int32) va vb vc vd ve) := ⟨_, rfl⟩
   rw [← hr1]
   show GoW p e below s (ValQ (.int (1 : Int32)) n0) room_1.cells room_1.slots (T1052.setTop (mkF m 230 (Sh11 q1 q2 q3 q4 q5 q6 3 nn mi va vb vc vd ve bb f0 r1) []))
   refine GoW.sg (mkF m 246 (Sh11 q1 q2 q3 q4 q5 q6 3 nn mi va vb vc vd ve bb f0 r1) [(.long ve), (.long vd), (.long vc), (.long vb), (.long va), (.int 3), (.long vb), (.long r1)]) (fun t k => XS.lload X1052.here hx rfl (B at_230) rfl (XS.lload X1052.here hx rfl (B at_232) rfl (XS.iload X1052.here hx rfl (B at_234) rfl (XS.lload X1052.here hx rfl (B at_236) rfl (XS.lload X1052.here hx rfl (B at_238) rfl (XS.lload X1052.here hx rfl (B at_240) rfl (XS.lload X1052.here hx rfl (B at_242) rfl (XS.lload X1052.here hx rfl (B at_244) rfl k)))))))) ?_
   obtain ⟨_, T1053, L1053, X1053, hQ1053, st1053⟩ := own_callS X1052 hx hZ hown (y := Y6) (ww hw 31 rfl) (ww hw 32 rfl) (ww hw 33 rfl) (ww hw 34 rfl) (by decide) 0 (rm6 l Z a0 hw r1 vb (3 : Int32) va vb vc vd ve hj n0) (by decide) (by decide) e1052 (by decide) (by decide) (g := (mkF m 246 (Sh11 q1 q2 q3 q4 q5 q6 3 nn mi va vb vc vd ve bb f0 r1) [(.long ve), (.long vd), (.long vc), (.long vb), (.long va), (.int 3), (.long vb), (.long r1)])) rfl (by rw [hml]; rfl) (argsL := [(.long r1), (.long vb), (.int (3 : Int32)), (.long va), (.long vb), (.long vc), (.long vd), (.long ve)]) (rest := []) (lenOf pd_28JJIJJJJJ29J rfl) rfl (Nat.le_of_eq rfl) (B at_246)
   obtain ⟨rfl, N1053q, e1053⟩ := hQ1053
   have N1053 := Fr.app N1052 N1053q
   refine GoW.sg (mkF m 249 (Sh11 q1 q2 q3 q4 q5 q6 3 nn mi va vb vc vd ve bb f0 r1) [(.long (F6 r1 vb (3 : Int32) va vb vc vd ve))]) (fun t k => st1053 t k) ?_
   refine GoW.sg (mkF m 251 (Sh11 q1 q2 q3 q4 q5 q6 3 nn mi va vb vc vd ve bb f0 (F6 r1 vb (3 : Int32) va vb vc vd ve)) []) (fun t k => XS.lstore X1053.here hx rfl (B at_249) rfl (l' := (Sh11 q1 q2 q3 q4 q5 q6 3 nn mi va vb vc vd ve bb f0 (F6 r1 vb (3 : Int32) va vb vc vd ve))) rfl k) ?_
   obtain ⟨r2, hr2⟩ : ∃ z : Int64, z = (F6 r1 vb (3 : Int32) va vb vc vd ve) := ⟨_, rfl⟩
   rw [← hr2]
   show GoW p e below s (ValQ (.int (1 : Int32)) n0) room_1.cells room_1.slots (T1053.setTop (mkF m 251 (Sh11 q1 q2 q3 q4 q5 q6 3 nn mi va vb vc vd ve bb f0 r2) []))
   refine GoW.sg (mkF m 267 (Sh11 q1 q2 q3 q4 q5 q6 3 nn mi va vb vc vd ve bb f0 r2) [(.long ve), (.long vd), (.long vc), (.long vb), (.long va), (.int 3), (.long vc), (.long r2)]) (fun t k => XS.lload X1053.here hx rfl (B at_251) rfl (XS.lload X1053.here hx rfl (B at_253) rfl (XS.iload X1053.here hx rfl (B at_255) rfl (XS.lload X1053.here hx rfl (B at_257) rfl (XS.lload X1053.here hx rfl (B at_259) rfl (XS.lload X1053.here hx rfl (B at_261) rfl (XS.lload X1053.here hx rfl (B at_263) rfl (XS.lload X1053.here hx rfl (B at_265) rfl k)))))))) ?_
   obtain ⟨_, T1054, L1054, X1054, hQ1054, st1054⟩ := own_callS X1053 hx hZ hown (y := Y6) (ww hw 31 rfl) (ww hw 32 rfl) (ww hw 33 rfl) (ww hw 34 rfl) (by decide) 0 (rm6 l Z a0 hw r2 vc (3 : Int32) va vb vc vd ve hj n0) (by decide) (by decide) e1053 (by decide) (by decide) (g := (mkF m 267 (Sh11 q1 q2 q3 q4 q5 q6 3 nn mi va vb vc vd ve bb f0 r2) [(.long ve), (.long vd), (.long vc), (.long vb), (.long va), (.int 3), (.long vc), (.long r2)])) rfl (by rw [hml]; rfl) (argsL := [(.long r2), (.long vc), (.int (3 : Int32)), (.long va), (.long vb), (.long vc), (.long vd), (.long ve)]) (rest := []) (lenOf pd_28JJIJJJJJ29J rfl) rfl (Nat.le_of_eq rfl) (B at_267)
   obtain ⟨rfl, N1054q, e1054⟩ := hQ1054
   have N1054 := Fr.app N1053 N1054q
   refine GoW.sg (mkF m 270 (Sh11 q1 q2 q3 q4 q5 q6 3 nn mi va vb vc vd ve bb f0 r2) [(.long (F6 r2 vc (3 : Int32) va vb vc vd ve))]) (fun t k => st1054 t k) ?_
   refine GoW.sg (mkF m 272 (Sh11 q1 q2 q3 q4 q5 q6 3 nn mi va vb vc vd ve bb f0 (F6 r2 vc (3 : Int32) va vb vc vd ve)) []) (fun t k => XS.lstore X1054.here hx rfl (B at_270) rfl (l' := (Sh11 q1 q2 q3 q4 q5 q6 3 nn mi va vb vc vd ve bb f0 (F6 r2 vc (3 : Int32) va vb vc vd ve))) rfl k) ?_
   obtain ⟨r3, hr3⟩ : ∃ z : Int64, z = (F6 r2 vc (3 : Int32) va vb vc vd ve) := ⟨_, rfl⟩
   rw [← hr3]
   show GoW p e below s (ValQ (.int (1 : Int32)) n0) room_1.cells room_1.slots (T1054.setTop (mkF m 272 (Sh11 q1 q2 q3 q4 q5 q6 3 nn mi va vb vc vd ve bb f0 r3) []))
   refine GoW.sg (mkF m 288 (Sh11 q1 q2 q3 q4 q5 q6 3 nn mi va vb vc vd ve bb f0 r3) [(.long ve), (.long vd), (.long vc), (.long vb), (.long va), (.int 3), (.long vd), (.long r3)]) (fun t k => XS.lload X1054.here hx rfl (B at_272) rfl (XS.lload X1054.here hx rfl (B at_274) rfl (XS.iload X1054.here hx rfl (B at_276) rfl (XS.lload X1054.here hx rfl (B at_278) rfl (XS.lload X1054.here hx rfl (B at_280) rfl (XS.lload X1054.here hx rfl (B at_282) rfl (XS.lload X1054.here hx rfl (B at_284) rfl (XS.lload X1054.here hx rfl (B at_286) rfl k)))))))) ?_
   obtain ⟨_, T1055, L1055, X1055, hQ1055, st1055⟩ := own_callS X1054 hx hZ hown (y := Y6) (ww hw 31 rfl) (ww hw 32 rfl) (ww hw 33 rfl) (ww hw 34 rfl) (by decide) 0 (rm6 l Z a0 hw r3 vd (3 : Int32) va vb vc vd ve hj n0) (by decide) (by decide) e1054 (by decide) (by decide) (g := (mkF m 288 (Sh11 q1 q2 q3 q4 q5 q6 3 nn mi va vb vc vd ve bb f0 r3) [(.long ve), (.long vd), (.long vc), (.long vb), (.long va), (.int 3), (.long vd), (.long r3)])) rfl (by rw [hml]; rfl) (argsL := [(.long r3), (.long vd), (.int (3 : Int32)), (.long va), (.long vb), (.long vc), (.long vd), (.long ve)]) (rest := []) (lenOf pd_28JJIJJJJJ29J rfl) rfl (Nat.le_of_eq rfl) (B at_288)
   obtain ⟨rfl, N1055q, e1055⟩ := hQ1055
   have N1055 := Fr.app N1054 N1055q
   refine GoW.sg (mkF m 291 (Sh11 q1 q2 q3 q4 q5 q6 3 nn mi va vb vc vd ve bb f0 r3) [(.long (F6 r3 vd (3 : Int32) va vb vc vd ve))]) (fun t k => st1055 t k) ?_
   refine GoW.sg (mkF m 293 (Sh11 q1 q2 q3 q4 q5 q6 3 nn mi va vb vc vd ve bb f0 (F6 r3 vd (3 : Int32) va vb vc vd ve)) []) (fun t k => XS.lstore X1055.here hx rfl (B at_291) rfl (l' := (Sh11 q1 q2 q3 q4 q5 q6 3 nn mi va vb vc vd ve bb f0 (F6 r3 vd (3 : Int32) va vb vc vd ve))) rfl k) ?_
   obtain ⟨r4, hr4⟩ : ∃ z : Int64, z = (F6 r3 vd (3 : Int32) va vb vc vd ve) := ⟨_, rfl⟩
   rw [← hr4]
   show GoW p e below s (ValQ (.int (1 : Int32)) n0) room_1.cells room_1.slots (T1055.setTop (mkF m 293 (Sh11 q1 q2 q3 q4 q5 q6 3 nn mi va vb vc vd ve bb f0 r4) []))
   refine GoW.sg (mkF m 309 (Sh11 q1 q2 q3 q4 q5 q6 3 nn mi va vb vc vd ve bb f0 r4) [(.long ve), (.long vd), (.long vc), (.long vb), (.long va), (.int 3), (.long ve), (.long r4)]) (fun t k => XS.lload X1055.here hx rfl (B at_293) rfl (XS.lload X1055.here hx rfl (B at_295) rfl (XS.iload X1055.here hx rfl (B at_297) rfl (XS.lload X1055.here hx rfl (B at_299) rfl (XS.lload X1055.here hx rfl (B at_301) rfl (XS.lload X1055.here hx rfl (B at_303) rfl (XS.lload X1055.here hx rfl (B at_305) rfl (XS.lload X1055.here hx rfl (B at_307) rfl k)))))))) ?_
   obtain ⟨_, T1056, L1056, X1056, hQ1056, st1056⟩ := own_callS X1055 hx hZ hown (y := Y6) (ww hw 31 rfl) (ww hw 32 rfl) (ww hw 33 rfl) (ww hw 34 rfl) (by decide) 0 (rm6 l Z a0 hw r4 ve (3 : Int32) va vb vc vd ve hj n0) (by decide) (by decide) e1055 (by decide) (by decide) (g := (mkF m 309 (Sh11 q1 q2 q3 q4 q5 q6 3 nn mi va vb vc vd ve bb f0 r4) [(.long ve), (.long vd), (.long vc), (.long vb), (.long va), (.int 3), (.long ve), (.long r4)])) rfl (by rw [hml]; rfl) (argsL := [(.long r4), (.long ve), (.int (3 : Int32)), (.long va), (.long vb), (.long vc), (.long vd), (.long ve)]) (rest := []) (lenOf pd_28JJIJJJJJ29J rfl) rfl (Nat.le_of_eq rfl) (B at_309)
   obtain ⟨rfl, N1056q, e1056⟩ := hQ1056
   have N1056 := Fr.app N1055 N1056q
   refine GoW.sg (mkF m 312 (Sh11 q1 q2 q3 q4 q5 q6 3 nn mi va vb vc vd ve bb f0 r4) [(.long (F6 r4 ve (3 : Int32) va vb vc vd ve))]) (fun t k => st1056 t k) ?_
   refine GoW.sg (mkF m 314 (Sh11 q1 q2 q3 q4 q5 q6 3 nn mi va vb vc vd ve bb f0 (F6 r4 ve (3 : Int32) va vb vc vd ve)) []) (fun t k => XS.lstore X1056.here hx rfl (B at_312) rfl (l' := (Sh11 q1 q2 q3 q4 q5 q6 3 nn mi va vb vc vd ve bb f0 (F6 r4 ve (3 : Int32) va vb vc vd ve))) rfl k) ?_
   obtain ⟨r5, hr5⟩ : ∃ z : Int64, z = (F6 r4 ve (3 : Int32) va vb vc vd ve) := ⟨_, rfl⟩
   rw [← hr5]
   show GoW p e below s (ValQ (.int (1 : Int32)) n0) room_1.cells room_1.slots (T1056.setTop (mkF m 314 (Sh11 q1 q2 q3 q4 q5 q6 3 nn mi va vb vc vd ve bb f0 r5) []))
   refine GoW.sg (mkF m 318 (Sh11 q1 q2 q3 q4 q5 q6 3 nn mi va vb vc vd ve bb f0 r5) [(.long r5), (.double f0)]) (fun t k => XS.dload X1056.here hx rfl (B at_314) rfl (XS.lload X1056.here hx rfl (B at_316) rfl k)) ?_
   have hfin := hF r1 r2 r3 r4 r5 hr1 hr2 hr3 hr4 hr5
   obtain ⟨d1057, hd1057⟩ : ∃ d : UInt64, d = FP.l2d r5 := ⟨_, rfl⟩
   refine GoW.sg (mkF m 328 (Sh11 q1 q2 q3 q4 q5 q6 3 nn mi va vb vc vd ve bb f0 r5) [(.int 1)]) (fun t k => XS.l2dS X1056.here hx rfl (B at_318) rfl (v := d1057) hd1057.symm (XS.dcmpS X1056.here hx rfl (B at_319) rfl (v := (0 : Int32)) (by rw [hf0, hd1057, hfin, dcmpV_w (own_b53 _) (own_b53 _)]; exact own_lc _) (XS.ifNo X1056.here hx rfl (B at_320) rfl (by decide) (XS.iconst X1056.here hx rfl (B at_323) (XS.goto X1056.here hx rfl (pc0 := 324) (pc' := 328) rfl (B at_324) (by decide) (by decide) k))))) ?_
   refine GoW.retN X1056 hx (t := .boolean) Bd.returns (by simp) (B at_328) Bd.notSynchronized ?_ (by decide) (by decide)
   exact ⟨rfl, N1056⟩
  refine GoW.sg (mkF m 15 (Sh9 q1 q2 q3 q4 q5 q6 3) [(.int 6), (.int ((q1.toUInt32 >>> ((2 : Int32) &&& 31).toUInt32).toInt32 &&& (7 : Int32)))]) (fun t k => XS.bipush X0.here hx rfl (B at_10) (XS.iand X0.here hx rfl (B at_12) rfl (XS.bipush X0.here hx rfl (B at_13) k))) ?_
  refine GoW.sg (mkF m 16 (Sh9 q1 q2 q3 q4 q5 q6 3) [(.int (((q1.toUInt32 >>> ((2 : Int32) &&& 31).toUInt32).toInt32 &&& (7 : Int32)) % (6 : Int32)))]) (fun t k => iremM X0 hx rfl (B at_15) rfl (by decide) k) ?_
  refine GoW.sg (mkF m 18 (Sh12 q1 q2 q3 q4 q5 q6 3 (((q1.toUInt32 >>> ((2 : Int32) &&& 31).toUInt32).toInt32 &&& (7 : Int32)) % (6 : Int32))) []) (fun t k => XS.istore X0.here hx rfl (B at_16) rfl (l' := (Sh12 q1 q2 q3 q4 q5 q6 3 (((q1.toUInt32 >>> ((2 : Int32) &&& 31).toUInt32).toInt32 &&& (7 : Int32)) % (6 : Int32)))) rfl k) ?_
  rcases own_n6 (q1.toUInt32 >>> ((2 : Int32) &&& 31).toUInt32).toInt32 with vv | vv | vv | vv | vv | vv
  ·rw [vv]
   show GoW p e below s (ValQ (.int (1 : Int32)) n0) room_1.cells room_1.slots (s₁.setTop (mkF m 18 (Sh12 q1 q2 q3 q4 q5 q6 3 0) []))
   refine GoW.sg (mkF m 21 (Sh12 q1 q2 q3 q4 q5 q6 3 0) [(.long (-9223372036854775808))]) (fun t k => X0.ldc2Long hx hown (mvT hZ (ww hw 0 rfl)) (g := (mkF m 18 (Sh12 q1 q2 q3 q4 q5 q6 3 0) [])) rfl (B at_18) t k) ?_
   refine GoW.sg (mkF m 48 (Sh14 q1 q2 q3 q4 q5 q6 3 0 (-9223372036854775808) (-9223372036854775808)) []) (fun t k => XS.lstore X0.here hx rfl (B at_21) rfl (l' := (Sh13 q1 q2 q3 q4 q5 q6 3 0 (-9223372036854775808))) rfl (XS.iload X0.here hx rfl (B at_23) rfl (XS.ifYes X0.here hx rfl (pc0 := 25) (pc' := 33) rfl (B at_25) rfl (by decide) (by decide) (by decide) (XS.lload X0.here hx rfl (B at_33) rfl (XS.lstore X0.here hx rfl (B at_35) rfl (l' := (Sh14 q1 q2 q3 q4 q5 q6 3 0 (-9223372036854775808) (-9223372036854775808))) rfl (XS.iload X0.here hx rfl (B at_37) rfl (XS.iconst X0.here hx rfl (B at_39) (XS.icmpYes X0.here hx rfl (pc0 := 40) (pc' := 48) rfl (B at_40) rfl (by decide) (by decide) (by decide) k)))))))) ?_
   refine GoW.sg (mkF m 69 (Sh16 q1 q2 q3 q4 q5 q6 3 0 (-9223372036854775808) (-9223372036854775808) (-9223372036854775808) (-9223372036854775808)) [(.int 0)]) (fun t k => XS.lload X0.here hx rfl (B at_48) rfl (XS.lstore X0.here hx rfl (B at_50) rfl (l' := (Sh15 q1 q2 q3 q4 q5 q6 3 0 (-9223372036854775808) (-9223372036854775808) (-9223372036854775808))) rfl (XS.iload X0.here hx rfl (B at_52) rfl (XS.iconst X0.here hx rfl (B at_54) (XS.icmpYes X0.here hx rfl (pc0 := 55) (pc' := 63) rfl (B at_55) rfl (by decide) (by decide) (by decide) (XS.lload X0.here hx rfl (B at_63) rfl (XS.lstore X0.here hx rfl (B at_65) rfl (l' := (Sh16 q1 q2 q3 q4 q5 q6 3 0 (-9223372036854775808) (-9223372036854775808) (-9223372036854775808) (-9223372036854775808))) rfl (XS.iload X0.here hx rfl (B at_67) rfl k)))))))) ?_
   refine GoW.sg (mkF m 97 (Sh17 q1 q2 q3 q4 q5 q6 3 0 (-9223372036854775808) (-9223372036854775808) (-9223372036854775808) (-9223372036854775808) (-9223372036854775808)) [(.long (-9223372036854775808))]) (fun t k => XS.iconst X0.here hx rfl (B at_69) (XS.icmpYes X0.here hx rfl (pc0 := 70) (pc' := 79) rfl (B at_70) rfl (by decide) (by decide) (by decide) (XS.lload X0.here hx rfl (B at_79) rfl (XS.lstore X0.here hx rfl (B at_81) rfl (l' := (Sh17 q1 q2 q3 q4 q5 q6 3 0 (-9223372036854775808) (-9223372036854775808) (-9223372036854775808) (-9223372036854775808) (-9223372036854775808))) rfl (XS.iload X0.here hx rfl (B at_83) rfl (XS.iconst X0.here hx rfl (B at_85) (XS.icmpYes X0.here hx rfl (pc0 := 86) (pc' := 95) rfl (B at_86) rfl (by decide) (by decide) (by decide) (XS.lload X0.here hx rfl (B at_95) rfl k)))))))) ?_
   refine GoW.sg (mkF m 99 (Sh18 q1 q2 q3 q4 q5 q6 3 0 (-9223372036854775808) (-9223372036854775808) (-9223372036854775808) (-9223372036854775808) (-9223372036854775808) (-9223372036854775808)) []) (fun t k => XS.lstore X0.here hx rfl (B at_97) rfl (l' := (Sh18 q1 q2 q3 q4 q5 q6 3 0 (-9223372036854775808) (-9223372036854775808) (-9223372036854775808) (-9223372036854775808) (-9223372036854775808) (-9223372036854775808))) rfl k) ?_
   obtain ⟨va, hva⟩ : ∃ z : Int64, z = (-9223372036854775808 : Int64) := ⟨_, rfl⟩
   obtain ⟨vb, hvb⟩ : ∃ z : Int64, z = (-9223372036854775808 : Int64) := ⟨_, rfl⟩
   obtain ⟨vc, hvc⟩ : ∃ z : Int64, z = (-9223372036854775808 : Int64) := ⟨_, rfl⟩
   obtain ⟨vd, hvd⟩ : ∃ z : Int64, z = (-9223372036854775808 : Int64) := ⟨_, rfl⟩
   obtain ⟨ve, hve⟩ : ∃ z : Int64, z = (-9223372036854775808 : Int64) := ⟨_, rfl⟩
   obtain ⟨mi, hmi⟩ : ∃ z : Int64, z = (-9223372036854775808 : Int64) := ⟨_, rfl⟩
   refine GoW.st (fun t k => by rw [hva, hvb, hvc, hvd, hve, hmi] at k; exact k) ?_ (u := s₁.setTop (mkF m 99 (Sh18 q1 q2 q3 q4 q5 q6 3 0 mi va vb vc vd ve) []))
   show GoW p e below s (ValQ (.int (1 : Int32)) n0) room_1.cells room_1.slots (s₁.setTop (mkF m 99 (Sh18 q1 q2 q3 q4 q5 q6 3 0 mi va vb vc vd ve) []))
   obtain ⟨T1058, h1058, X1058, e1058, E1058, A1058, D1058, -, st1058⟩ := newO X0 hx hZ hown (ww hw 1 rfl) (ww hw 2 rfl) (ww hw 3 rfl) e0 (g := (mkF m 99 (Sh18 q1 q2 q3 q4 q5 q6 3 0 mi va vb vc vd ve) [])) rfl (B at_99) (by decide) (by decide)
   obtain ⟨b1058, g1058⟩ : ∃ z, z = h0.size := ⟨_, rfl⟩
   rw [← g1058] at A1058 D1058 st1058
   have g_b1058 : n0 ≤ b1058 := Nat.le_trans Z0 (Nat.le_of_eq g1058.symm)
   have f1058_55 := Nat.le_trans Z0 E1058.1
   have F1058heap : Fld Z h1058 b1058 HSn "heap" "[D" .null := D1058 (Or.inr (ww hw 12 rfl)) (ty := (.array .double)) (by decide)
   have F1058size : Fld Z h1058 b1058 HSn "size" "I" (.int (0 : Int32)) := D1058 (Or.inl (ww hw 19 rfl)) (ty := .int) (by decide)
   refine GoW.sg (mkF m 102 (Sh18 q1 q2 q3 q4 q5 q6 3 0 mi va vb vc vd ve) [(.ref b1058)]) (fun t k => st1058 t k) ?_
   refine GoW.sg (mkF m 105 (Sh18 q1 q2 q3 q4 q5 q6 3 0 mi va vb vc vd ve) [(.int 3), (.ref b1058), (.ref b1058)]) (fun t k => XS.dup X1058.here hx rfl (B at_102) rfl rfl (XS.iload X1058.here hx rfl (B at_103) rfl k)) ?_
   obtain ⟨_, T1065, L1065, X1065, hQ1065, st1065⟩ := own_spec X1058 hx hZ (y := Y1) rfl hown (ww hw 4 rfl) (ww hw 5 rfl) (ww hw 3 rfl) (ww hw 6 rfl) (by decide) 1 (a := b1058) (rm1_37 l Z a0 hw b1058 h1058 n0 f1058_55 A1058 F1058heap F1058size g_b1058 ) (by decide) (by decide) e1058 (by decide) (by decide) (g := (mkF m 105 (Sh18 q1 q2 q3 q4 q5 q6 3 0 mi va vb vc vd ve) [(.int 3), (.ref b1058), (.ref b1058)])) rfl (by rw [hml]; rfl) (argsL := [(.int (3 : Int32))]) (rest := [(.ref b1058)]) (lenOf pd_28I29V rfl) rfl (Nat.le_of_eq rfl) (B at_105)
   obtain ⟨b1065_e0, k1065_ke0, rfl, N1065q, K1065, p1065_0, p1065_1, p1065_2, p1065_3, hz_b1065_e0⟩ := hQ1065
   have N1065 := Fr.app N0 N1065q
   refine GoW.sg (mkF m 108 (Sh18 q1 q2 q3 q4 q5 q6 3 0 mi va vb vc vd ve) [(.ref b1058)]) (fun t k => st1065 t k) ?_
   refine GoW.sg (mkF m 138 (Sh19 q1 q2 q3 q4 q5 q6 3 0 mi va vb vc vd ve b1058) [(.int 2), (.int 0)]) (fun t k => XS.astore X1065.here hx rfl (B at_108) rfl rfl (l' := (Sh19 q1 q2 q3 q4 q5 q6 3 0 mi va vb vc vd ve b1058)) rfl (XS.iload X1065.here hx rfl (B at_110) rfl (XS.ifYes X1065.here hx rfl (pc0 := 112) (pc' := 122) rfl (B at_112) rfl (by decide) (by decide) (by decide) (XS.iload X1065.here hx rfl (B at_122) rfl (XS.iconst X1065.here hx rfl (B at_124) (XS.icmpYes X1065.here hx rfl (pc0 := 125) (pc' := 135) rfl (B at_125) rfl (by decide) (by decide) (by decide) (XS.iload X1065.here hx rfl (B at_135) rfl (XS.iconst X1065.here hx rfl (B at_137) k)))))))) ?_
   refine GoW.sg (mkF m 178 (Sh19 q1 q2 q3 q4 q5 q6 3 0 mi va vb vc vd ve b1058) [(.ref b1058)]) (fun t k => XS.icmpYes X1065.here hx rfl (pc0 := 138) (pc' := 148) rfl (B at_138) rfl (by decide) (by decide) (by decide) (XS.iload X1065.here hx rfl (B at_148) rfl (XS.iconst X1065.here hx rfl (B at_150) (XS.icmpYes X1065.here hx rfl (pc0 := 151) (pc' := 162) rfl (B at_151) rfl (by decide) (by decide) (by decide) (XS.iload X1065.here hx rfl (B at_162) rfl (XS.iconst X1065.here hx rfl (B at_164) (XS.icmpYes X1065.here hx rfl (pc0 := 165) (pc' := 176) rfl (B at_165) rfl (by decide) (by decide) (by decide) (XS.aload X1065.here hx rfl (B at_176) rfl rfl k)))))))) ?_
   obtain ⟨_, T1072, L1072, X1072, hQ1072, st1072⟩ := own_virt X1065 hx hZ (y := Y3) hown (ww hw 13 rfl) (ww hw 14 rfl) (ww hw 16 rfl) (ww hw 15 rfl) (ww hw 17 rfl) (ww hw 3 rfl) (by decide) 0 (a := b1058) (rm3_38 l Z a0 hw b1058 b1065_e0 k1065_ke0 T1065.heap n0 p1065_1 p1065_2 p1065_3 ) (by decide) (by decide) rfl p1065_0 (by decide) (by decide) (g := (mkF m 178 (Sh19 q1 q2 q3 q4 q5 q6 3 0 mi va vb vc vd ve b1058) [(.ref b1058)])) rfl (by rw [hml]; rfl) (argsL := []) (rest := []) (lenOf pd_2829D rfl) rfl (Nat.le_of_eq rfl) (B at_178)
   obtain ⟨rfl, N1072q, e1072⟩ := hQ1072
   have N1072 := Fr.app N1065 N1072q
   refine GoW.sg (mkF m 181 (Sh19 q1 q2 q3 q4 q5 q6 3 0 mi va vb vc vd ve b1058) [(.double 18442240474082181120)]) (fun t k => st1072 t k) ?_
   refine GoW.sg (mkF m 192 (Sh10 q1 q2 q3 q4 q5 q6 3 0 mi va vb vc vd ve b1058 18442240474082181120) [(.double 18442240474082181120)]) (fun t k => XS.dstore X1072.here hx rfl (B at_181) rfl (l' := (Sh10 q1 q2 q3 q4 q5 q6 3 0 mi va vb vc vd ve b1058 18442240474082181120)) rfl (XS.iload X1072.here hx rfl (B at_183) rfl (XS.iload X1072.here hx rfl (B at_185) rfl (XS.icmpNo X1072.here hx rfl (B at_187) rfl (by decide) (XS.dload X1072.here hx rfl (B at_190) rfl k))))) ?_
   refine GoW.sg (mkF m 195 (Sh10 q1 q2 q3 q4 q5 q6 3 0 mi va vb vc vd ve b1058 18442240474082181120) [(.double 18442240474082181120), (.double 18442240474082181120)]) (fun t k => X1072.ldc2DoubleC hx hown (mvT hZ (ww hw 21 rfl)) (g := (mkF m 192 (Sh10 q1 q2 q3 q4 q5 q6 3 0 mi va vb vc vd ve b1058 18442240474082181120) [(.double 18442240474082181120)])) rfl (B at_192) t k) ?_
   refine GoW.sg (mkF m 204 (Sh10 q1 q2 q3 q4 q5 q6 3 0 mi va vb vc vd ve b1058 18442240474082181120) [(.int 1)]) (fun t k => XS.dcmpS X1072.here hx rfl (B at_195) rfl (v := (0 : Int32)) (by decide +kernel) (XS.ifNo X1072.here hx rfl (B at_196) rfl (by decide) (XS.iconst X1072.here hx rfl (B at_199) (XS.goto X1072.here hx rfl (pc0 := 200) (pc' := 204) rfl (B at_200) (by decide) (by decide) k)))) ?_
   refine GoW.retN X1072 hx (t := .boolean) Bd.returns (by simp) (B at_204) Bd.notSynchronized ?_ (by decide) (by decide)
   exact ⟨rfl, N1072⟩
  ·rw [vv]
   show GoW p e below s (ValQ (.int (1 : Int32)) n0) room_1.cells room_1.slots (s₁.setTop (mkF m 18 (Sh12 q1 q2 q3 q4 q5 q6 3 1) []))
   refine GoW.sg (mkF m 21 (Sh12 q1 q2 q3 q4 q5 q6 3 1) [(.long (-9223372036854775808))]) (fun t k => X0.ldc2Long hx hown (mvT hZ (ww hw 0 rfl)) (g := (mkF m 18 (Sh12 q1 q2 q3 q4 q5 q6 3 1) [])) rfl (B at_18) t k) ?_
   refine GoW.sg (mkF m 39 (Sh14 q1 q2 q3 q4 q5 q6 3 1 (-9223372036854775808) (Int32.toInt64 q2)) [(.int 1)]) (fun t k => XS.lstore X0.here hx rfl (B at_21) rfl (l' := (Sh13 q1 q2 q3 q4 q5 q6 3 1 (-9223372036854775808))) rfl (XS.iload X0.here hx rfl (B at_23) rfl (XS.ifNo X0.here hx rfl (B at_25) rfl (by decide) (XS.iloadN X0.here hx rfl (B at_28) rfl (XS.i2l X0.here hx rfl (B at_29) rfl (XS.goto X0.here hx rfl (pc0 := 30) (pc' := 35) rfl (B at_30) (by decide) (by decide) (XS.lstore X0.here hx rfl (B at_35) rfl (l' := (Sh14 q1 q2 q3 q4 q5 q6 3 1 (-9223372036854775808) (Int32.toInt64 q2))) rfl (XS.iload X0.here hx rfl (B at_37) rfl k)))))))) ?_
   refine GoW.sg (mkF m 65 (Sh15 q1 q2 q3 q4 q5 q6 3 1 (-9223372036854775808) (Int32.toInt64 q2) (-9223372036854775808)) [(.long (-9223372036854775808))]) (fun t k => XS.iconst X0.here hx rfl (B at_39) (XS.icmpYes X0.here hx rfl (pc0 := 40) (pc' := 48) rfl (B at_40) rfl (by decide) (by decide) (by decide) (XS.lload X0.here hx rfl (B at_48) rfl (XS.lstore X0.here hx rfl (B at_50) rfl (l' := (Sh15 q1 q2 q3 q4 q5 q6 3 1 (-9223372036854775808) (Int32.toInt64 q2) (-9223372036854775808))) rfl (XS.iload X0.here hx rfl (B at_52) rfl (XS.iconst X0.here hx rfl (B at_54) (XS.icmpYes X0.here hx rfl (pc0 := 55) (pc' := 63) rfl (B at_55) rfl (by decide) (by decide) (by decide) (XS.lload X0.here hx rfl (B at_63) rfl k)))))))) ?_
   refine GoW.sg (mkF m 86 (Sh17 q1 q2 q3 q4 q5 q6 3 1 (-9223372036854775808) (Int32.toInt64 q2) (-9223372036854775808) (-9223372036854775808) (-9223372036854775808)) [(.int 4), (.int 1)]) (fun t k => XS.lstore X0.here hx rfl (B at_65) rfl (l' := (Sh16 q1 q2 q3 q4 q5 q6 3 1 (-9223372036854775808) (Int32.toInt64 q2) (-9223372036854775808) (-9223372036854775808))) rfl (XS.iload X0.here hx rfl (B at_67) rfl (XS.iconst X0.here hx rfl (B at_69) (XS.icmpYes X0.here hx rfl (pc0 := 70) (pc' := 79) rfl (B at_70) rfl (by decide) (by decide) (by decide) (XS.lload X0.here hx rfl (B at_79) rfl (XS.lstore X0.here hx rfl (B at_81) rfl (l' := (Sh17 q1 q2 q3 q4 q5 q6 3 1 (-9223372036854775808) (Int32.toInt64 q2) (-9223372036854775808) (-9223372036854775808) (-9223372036854775808))) rfl (XS.iload X0.here hx rfl (B at_83) rfl (XS.iconst X0.here hx rfl (B at_85) k)))))))) ?_
   refine GoW.sg (mkF m 99 (Sh18 q1 q2 q3 q4 q5 q6 3 1 (-9223372036854775808) (Int32.toInt64 q2) (-9223372036854775808) (-9223372036854775808) (-9223372036854775808) (-9223372036854775808)) []) (fun t k => XS.icmpYes X0.here hx rfl (pc0 := 86) (pc' := 95) rfl (B at_86) rfl (by decide) (by decide) (by decide) (XS.lload X0.here hx rfl (B at_95) rfl (XS.lstore X0.here hx rfl (B at_97) rfl (l' := (Sh18 q1 q2 q3 q4 q5 q6 3 1 (-9223372036854775808) (Int32.toInt64 q2) (-9223372036854775808) (-9223372036854775808) (-9223372036854775808) (-9223372036854775808))) rfl k))) ?_
   obtain ⟨va, hva⟩ : ∃ z : Int64, z = (Int32.toInt64 q2) := ⟨_, rfl⟩
   obtain ⟨vb, hvb⟩ : ∃ z : Int64, z = (-9223372036854775808 : Int64) := ⟨_, rfl⟩
   obtain ⟨vc, hvc⟩ : ∃ z : Int64, z = (-9223372036854775808 : Int64) := ⟨_, rfl⟩
   obtain ⟨vd, hvd⟩ : ∃ z : Int64, z = (-9223372036854775808 : Int64) := ⟨_, rfl⟩
   obtain ⟨ve, hve⟩ : ∃ z : Int64, z = (-9223372036854775808 : Int64) := ⟨_, rfl⟩
   obtain ⟨mi, hmi⟩ : ∃ z : Int64, z = (-9223372036854775808 : Int64) := ⟨_, rfl⟩
   refine GoW.st (fun t k => by rw [hva, hvb, hvc, hvd, hve, hmi] at k; exact k) ?_ (u := s₁.setTop (mkF m 99 (Sh18 q1 q2 q3 q4 q5 q6 3 1 mi va vb vc vd ve) []))
   show GoW p e below s (ValQ (.int (1 : Int32)) n0) room_1.cells room_1.slots (s₁.setTop (mkF m 99 (Sh18 q1 q2 q3 q4 q5 q6 3 1 mi va vb vc vd ve) []))
   obtain ⟨T1073, h1073, X1073, e1073, E1073, A1073, D1073, -, st1073⟩ := newO X0 hx hZ hown (ww hw 1 rfl) (ww hw 2 rfl) (ww hw 3 rfl) e0 (g := (mkF m 99 (Sh18 q1 q2 q3 q4 q5 q6 3 1 mi va vb vc vd ve) [])) rfl (B at_99) (by decide) (by decide)
   obtain ⟨b1073, g1073⟩ : ∃ z, z = h0.size := ⟨_, rfl⟩
   rw [← g1073] at A1073 D1073 st1073
   have g_b1073 : n0 ≤ b1073 := Nat.le_trans Z0 (Nat.le_of_eq g1073.symm)
   have f1073_57 := Nat.le_trans Z0 E1073.1
   have F1073heap : Fld Z h1073 b1073 HSn "heap" "[D" .null := D1073 (Or.inr (ww hw 12 rfl)) (ty := (.array .double)) (by decide)
   have F1073size : Fld Z h1073 b1073 HSn "size" "I" (.int (0 : Int32)) := D1073 (Or.inl (ww hw 19 rfl)) (ty := .int) (by decide)
   refine GoW.sg (mkF m 102 (Sh18 q1 q2 q3 q4 q5 q6 3 1 mi va vb vc vd ve) [(.ref b1073)]) (fun t k => st1073 t k) ?_
   refine GoW.sg (mkF m 105 (Sh18 q1 q2 q3 q4 q5 q6 3 1 mi va vb vc vd ve) [(.int 3), (.ref b1073), (.ref b1073)]) (fun t k => XS.dup X1073.here hx rfl (B at_102) rfl rfl (XS.iload X1073.here hx rfl (B at_103) rfl k)) ?_
   obtain ⟨_, T1074, L1074, X1074, hQ1074, st1074⟩ := own_spec X1073 hx hZ (y := Y1) rfl hown (ww hw 4 rfl) (ww hw 5 rfl) (ww hw 3 rfl) (ww hw 6 rfl) (by decide) 1 (a := b1073) (rm1_37 l Z a0 hw b1073 h1073 n0 f1073_57 A1073 F1073heap F1073size g_b1073 ) (by decide) (by decide) e1073 (by decide) (by decide) (g := (mkF m 105 (Sh18 q1 q2 q3 q4 q5 q6 3 1 mi va vb vc vd ve) [(.int 3), (.ref b1073), (.ref b1073)])) rfl (by rw [hml]; rfl) (argsL := [(.int (3 : Int32))]) (rest := [(.ref b1073)]) (lenOf pd_28I29V rfl) rfl (Nat.le_of_eq rfl) (B at_105)
   obtain ⟨b1074_e0, k1074_ke0, rfl, N1074q, K1074, p1074_0, p1074_1, p1074_2, p1074_3, hz_b1074_e0⟩ := hQ1074
   have g_b1074_e0 : n0 ≤ b1074_e0 := Nat.le_trans f1073_57 hz_b1074_e0
   have ne_b1073_b1074_e0 : b1073 ≠ b1074_e0 := Nat.ne_of_lt (Nat.lt_of_lt_of_le A1073.lt hz_b1074_e0)
   have N1074 := Fr.app N0 N1074q
   refine GoW.sg (mkF m 108 (Sh18 q1 q2 q3 q4 q5 q6 3 1 mi va vb vc vd ve) [(.ref b1073)]) (fun t k => st1074 t k) ?_
   refine GoW.sg (mkF m 118 (Sh19 q1 q2 q3 q4 q5 q6 3 1 mi va vb vc vd ve b1073) [(.int q2), (.ref b1073)]) (fun t k => XS.astore X1074.here hx rfl (B at_108) rfl rfl (l' := (Sh19 q1 q2 q3 q4 q5 q6 3 1 mi va vb vc vd ve b1073)) rfl (XS.iload X1074.here hx rfl (B at_110) rfl (XS.ifNo X1074.here hx rfl (B at_112) rfl (by decide) (XS.aload X1074.here hx rfl (B at_115) rfl rfl (XS.iloadN X1074.here hx rfl (B at_117) rfl k))))) ?_
   obtain ⟨d1075, hd1075⟩ : ∃ d : UInt64, d = FP.l2d q2.toInt64 := ⟨_, rfl⟩
   refine GoW.sg (mkF m 119 (Sh19 q1 q2 q3 q4 q5 q6 3 1 mi va vb vc vd ve b1073) [(.double d1075), (.ref b1073)]) (fun t k => XS.i2dS X1074.here hx rfl (B at_118) rfl (v := d1075) ((i2d_w _).trans hd1075.symm) k) ?_
   obtain ⟨_, T1076, L1076, X1076, hQ1076, st1076⟩ := own_virt X1074 hx hZ (y := Y4) hown (ww hw 22 rfl) (ww hw 23 rfl) (ww hw 25 rfl) (ww hw 24 rfl) (ww hw 26 rfl) (ww hw 3 rfl) (by decide) 0 (a := b1073) (rmO30 l Z a0 hw b1073 d1075 q2 b1074_e0 k1074_ke0 T1074.heap n0 p1074_0 p1074_2 p1074_1 p1074_3 g_b1073 g_b1074_e0 ne_b1073_b1074_e0 hd1075 trivial) (by decide) (by decide) rfl p1074_0 (by decide) (by decide) (g := (mkF m 119 (Sh19 q1 q2 q3 q4 q5 q6 3 1 mi va vb vc vd ve b1073) [(.double d1075), (.ref b1073)])) rfl (by rw [hml]; rfl) (argsL := [(.double d1075)]) (rest := []) (lenOf pd_28D29V rfl) rfl (Nat.le_of_eq rfl) (B at_119)
   obtain ⟨k1076_w0, k1076_f0, rfl, N1076q, K1076, p1076_0, p1076_1, p1076_2, p1076_3, LQ1076⟩ := hQ1076
   have N1076 := Fr.app N1074 N1076q
   refine GoW.sg (mkF m 122 (Sh19 q1 q2 q3 q4 q5 q6 3 1 mi va vb vc vd ve b1073) []) (fun t k => st1076 t k) ?_
   obtain ⟨hf1076_0, hH1076, hR1076⟩ := LQ1076
   have A1076 : ∀ z : Int, cn z k1076_w0 = cn z q2 := fun z => by have _a := hR1076 z; have _c := own_cn z q2; omega
   refine GoW.sg (mkF m 151 (Sh19 q1 q2 q3 q4 q5 q6 3 1 mi va vb vc vd ve b1073) [(.int 3), (.int 1)]) (fun t k => XS.iload X1076.here hx rfl (B at_122) rfl (XS.iconst X1076.here hx rfl (B at_124) (XS.icmpYes X1076.here hx rfl (pc0 := 125) (pc' := 135) rfl (B at_125) rfl (by decide) (by decide) (by decide) (XS.iload X1076.here hx rfl (B at_135) rfl (XS.iconst X1076.here hx rfl (B at_137) (XS.icmpYes X1076.here hx rfl (pc0 := 138) (pc' := 148) rfl (B at_138) rfl (by decide) (by decide) (by decide) (XS.iload X1076.here hx rfl (B at_148) rfl (XS.iconst X1076.here hx rfl (B at_150) k)))))))) ?_
   refine GoW.sg (mkF m 178 (Sh19 q1 q2 q3 q4 q5 q6 3 1 mi va vb vc vd ve b1073) [(.ref b1073)]) (fun t k => XS.icmpYes X1076.here hx rfl (pc0 := 151) (pc' := 162) rfl (B at_151) rfl (by decide) (by decide) (by decide) (XS.iload X1076.here hx rfl (B at_162) rfl (XS.iconst X1076.here hx rfl (B at_164) (XS.icmpYes X1076.here hx rfl (pc0 := 165) (pc' := 176) rfl (B at_165) rfl (by decide) (by decide) (by decide) (XS.aload X1076.here hx rfl (B at_176) rfl rfl k))))) ?_
   obtain ⟨_, T1083, L1083, X1083, hQ1083, st1083⟩ := own_virt X1076 hx hZ (y := Y3) hown (ww hw 13 rfl) (ww hw 14 rfl) (ww hw 16 rfl) (ww hw 15 rfl) (ww hw 17 rfl) (ww hw 3 rfl) (by decide) 0 (a := b1073) (rm3_39 l Z a0 hw b1073 b1074_e0 k1074_ke0 k1076_f0 k1076_w0 T1076.heap n0 p1076_2 p1076_1 p1076_3 hf1076_0 ) (by decide) (by decide) rfl p1076_0 (by decide) (by decide) (g := (mkF m 178 (Sh19 q1 q2 q3 q4 q5 q6 3 1 mi va vb vc vd ve b1073) [(.ref b1073)])) rfl (by rw [hml]; rfl) (argsL := []) (rest := []) (lenOf pd_2829D rfl) rfl (Nat.le_of_eq rfl) (B at_178)
   obtain ⟨rfl, N1083q, e1083⟩ := hQ1083
   have N1083 := Fr.app N1076 N1083q
   refine GoW.sg (mkF m 181 (Sh19 q1 q2 q3 q4 q5 q6 3 1 mi va vb vc vd ve b1073) [(.double 18442240474082181120)]) (fun t k => st1083 t k) ?_
   refine GoW.sg (mkF m 192 (Sh10 q1 q2 q3 q4 q5 q6 3 1 mi va vb vc vd ve b1073 18442240474082181120) [(.double 18442240474082181120)]) (fun t k => XS.dstore X1083.here hx rfl (B at_181) rfl (l' := (Sh10 q1 q2 q3 q4 q5 q6 3 1 mi va vb vc vd ve b1073 18442240474082181120)) rfl (XS.iload X1083.here hx rfl (B at_183) rfl (XS.iload X1083.here hx rfl (B at_185) rfl (XS.icmpNo X1083.here hx rfl (B at_187) rfl (by decide) (XS.dload X1083.here hx rfl (B at_190) rfl k))))) ?_
   refine GoW.sg (mkF m 195 (Sh10 q1 q2 q3 q4 q5 q6 3 1 mi va vb vc vd ve b1073 18442240474082181120) [(.double 18442240474082181120), (.double 18442240474082181120)]) (fun t k => X1083.ldc2DoubleC hx hown (mvT hZ (ww hw 21 rfl)) (g := (mkF m 192 (Sh10 q1 q2 q3 q4 q5 q6 3 1 mi va vb vc vd ve b1073 18442240474082181120) [(.double 18442240474082181120)])) rfl (B at_192) t k) ?_
   refine GoW.sg (mkF m 204 (Sh10 q1 q2 q3 q4 q5 q6 3 1 mi va vb vc vd ve b1073 18442240474082181120) [(.int 1)]) (fun t k => XS.dcmpS X1083.here hx rfl (B at_195) rfl (v := (0 : Int32)) (by decide +kernel) (XS.ifNo X1083.here hx rfl (B at_196) rfl (by decide) (XS.iconst X1083.here hx rfl (B at_199) (XS.goto X1083.here hx rfl (pc0 := 200) (pc' := 204) rfl (B at_200) (by decide) (by decide) k)))) ?_
   refine GoW.retN X1083 hx (t := .boolean) Bd.returns (by simp) (B at_204) Bd.notSynchronized ?_ (by decide) (by decide)
   exact ⟨rfl, N1083⟩
  ·rw [vv]
   show GoW p e below s (ValQ (.int (1 : Int32)) n0) room_1.cells room_1.slots (s₁.setTop (mkF m 18 (Sh12 q1 q2 q3 q4 q5 q6 3 2) []))
   refine GoW.sg (mkF m 21 (Sh12 q1 q2 q3 q4 q5 q6 3 2) [(.long (-9223372036854775808))]) (fun t k => X0.ldc2Long hx hown (mvT hZ (ww hw 0 rfl)) (g := (mkF m 18 (Sh12 q1 q2 q3 q4 q5 q6 3 2) [])) rfl (B at_18) t k) ?_
   refine GoW.sg (mkF m 39 (Sh14 q1 q2 q3 q4 q5 q6 3 2 (-9223372036854775808) (Int32.toInt64 q2)) [(.int 2)]) (fun t k => XS.lstore X0.here hx rfl (B at_21) rfl (l' := (Sh13 q1 q2 q3 q4 q5 q6 3 2 (-9223372036854775808))) rfl (XS.iload X0.here hx rfl (B at_23) rfl (XS.ifNo X0.here hx rfl (B at_25) rfl (by decide) (XS.iloadN X0.here hx rfl (B at_28) rfl (XS.i2l X0.here hx rfl (B at_29) rfl (XS.goto X0.here hx rfl (pc0 := 30) (pc' := 35) rfl (B at_30) (by decide) (by decide) (XS.lstore X0.here hx rfl (B at_35) rfl (l' := (Sh14 q1 q2 q3 q4 q5 q6 3 2 (-9223372036854775808) (Int32.toInt64 q2))) rfl (XS.iload X0.here hx rfl (B at_37) rfl k)))))))) ?_
   refine GoW.sg (mkF m 55 (Sh15 q1 q2 q3 q4 q5 q6 3 2 (-9223372036854775808) (Int32.toInt64 q2) (Int32.toInt64 q3)) [(.int 2), (.int 2)]) (fun t k => XS.iconst X0.here hx rfl (B at_39) (XS.icmpNo X0.here hx rfl (B at_40) rfl (by decide) (XS.iloadN X0.here hx rfl (B at_43) rfl (XS.i2l X0.here hx rfl (B at_44) rfl (XS.goto X0.here hx rfl (pc0 := 45) (pc' := 50) rfl (B at_45) (by decide) (by decide) (XS.lstore X0.here hx rfl (B at_50) rfl (l' := (Sh15 q1 q2 q3 q4 q5 q6 3 2 (-9223372036854775808) (Int32.toInt64 q2) (Int32.toInt64 q3))) rfl (XS.iload X0.here hx rfl (B at_52) rfl (XS.iconst X0.here hx rfl (B at_54) k)))))))) ?_
   refine GoW.sg (mkF m 83 (Sh17 q1 q2 q3 q4 q5 q6 3 2 (-9223372036854775808) (Int32.toInt64 q2) (Int32.toInt64 q3) (-9223372036854775808) (-9223372036854775808)) []) (fun t k => XS.icmpYes X0.here hx rfl (pc0 := 55) (pc' := 63) rfl (B at_55) rfl (by decide) (by decide) (by decide) (XS.lload X0.here hx rfl (B at_63) rfl (XS.lstore X0.here hx rfl (B at_65) rfl (l' := (Sh16 q1 q2 q3 q4 q5 q6 3 2 (-9223372036854775808) (Int32.toInt64 q2) (Int32.toInt64 q3) (-9223372036854775808))) rfl (XS.iload X0.here hx rfl (B at_67) rfl (XS.iconst X0.here hx rfl (B at_69) (XS.icmpYes X0.here hx rfl (pc0 := 70) (pc' := 79) rfl (B at_70) rfl (by decide) (by decide) (by decide) (XS.lload X0.here hx rfl (B at_79) rfl (XS.lstore X0.here hx rfl (B at_81) rfl (l' := (Sh17 q1 q2 q3 q4 q5 q6 3 2 (-9223372036854775808) (Int32.toInt64 q2) (Int32.toInt64 q3) (-9223372036854775808) (-9223372036854775808))) rfl k)))))))) ?_
   refine GoW.sg (mkF m 99 (Sh18 q1 q2 q3 q4 q5 q6 3 2 (-9223372036854775808) (Int32.toInt64 q2) (Int32.toInt64 q3) (-9223372036854775808) (-9223372036854775808) (-9223372036854775808)) []) (fun t k => XS.iload X0.here hx rfl (B at_83) rfl (XS.iconst X0.here hx rfl (B at_85) (XS.icmpYes X0.here hx rfl (pc0 := 86) (pc' := 95) rfl (B at_86) rfl (by decide) (by decide) (by decide) (XS.lload X0.here hx rfl (B at_95) rfl (XS.lstore X0.here hx rfl (B at_97) rfl (l' := (Sh18 q1 q2 q3 q4 q5 q6 3 2 (-9223372036854775808) (Int32.toInt64 q2) (Int32.toInt64 q3) (-9223372036854775808) (-9223372036854775808) (-9223372036854775808))) rfl k))))) ?_
   obtain ⟨va, hva⟩ : ∃ z : Int64, z = (Int32.toInt64 q2) := ⟨_, rfl⟩
   obtain ⟨vb, hvb⟩ : ∃ z : Int64, z = (Int32.toInt64 q3) := ⟨_, rfl⟩
   obtain ⟨vc, hvc⟩ : ∃ z : Int64, z = (-9223372036854775808 : Int64) := ⟨_, rfl⟩
   obtain ⟨vd, hvd⟩ : ∃ z : Int64, z = (-9223372036854775808 : Int64) := ⟨_, rfl⟩
   obtain ⟨ve, hve⟩ : ∃ z : Int64, z = (-9223372036854775808 : Int64) := ⟨_, rfl⟩
   obtain ⟨mi, hmi⟩ : ∃ z : Int64, z = (-9223372036854775808 : Int64) := ⟨_, rfl⟩
   refine GoW.st (fun t k => by rw [hva, hvb, hvc, hvd, hve, hmi] at k; exact k) ?_ (u := s₁.setTop (mkF m 99 (Sh18 q1 q2 q3 q4 q5 q6 3 2 mi va vb vc vd ve) []))
   show GoW p e below s (ValQ (.int (1 : Int32)) n0) room_1.cells room_1.slots (s₁.setTop (mkF m 99 (Sh18 q1 q2 q3 q4 q5 q6 3 2 mi va vb vc vd ve) []))
   obtain ⟨T1084, h1084, X1084, e1084, E1084, A1084, D1084, -, st1084⟩ := newO X0 hx hZ hown (ww hw 1 rfl) (ww hw 2 rfl) (ww hw 3 rfl) e0 (g := (mkF m 99 (Sh18 q1 q2 q3 q4 q5 q6 3 2 mi va vb vc vd ve) [])) rfl (B at_99) (by decide) (by decide)
   obtain ⟨b1084, g1084⟩ : ∃ z, z = h0.size := ⟨_, rfl⟩
   rw [← g1084] at A1084 D1084 st1084
   have g_b1084 : n0 ≤ b1084 := Nat.le_trans Z0 (Nat.le_of_eq g1084.symm)
   have f1084_60 := Nat.le_trans Z0 E1084.1
   have F1084heap : Fld Z h1084 b1084 HSn "heap" "[D" .null := D1084 (Or.inr (ww hw 12 rfl)) (ty := (.array .double)) (by decide)
   have F1084size : Fld Z h1084 b1084 HSn "size" "I" (.int (0 : Int32)) := D1084 (Or.inl (ww hw 19 rfl)) (ty := .int) (by decide)
   refine GoW.sg (mkF m 102 (Sh18 q1 q2 q3 q4 q5 q6 3 2 mi va vb vc vd ve) [(.ref b1084)]) (fun t k => st1084 t k) ?_
   refine GoW.sg (mkF m 105 (Sh18 q1 q2 q3 q4 q5 q6 3 2 mi va vb vc vd ve) [(.int 3), (.ref b1084), (.ref b1084)]) (fun t k => XS.dup X1084.here hx rfl (B at_102) rfl rfl (XS.iload X1084.here hx rfl (B at_103) rfl k)) ?_
   obtain ⟨_, T1085, L1085, X1085, hQ1085, st1085⟩ := own_spec X1084 hx hZ (y := Y1) rfl hown (ww hw 4 rfl) (ww hw 5 rfl) (ww hw 3 rfl) (ww hw 6 rfl) (by decide) 1 (a := b1084) (rm1_37 l Z a0 hw b1084 h1084 n0 f1084_60 A1084 F1084heap F1084size g_b1084 ) (by decide) (by decide) e1084 (by decide) (by decide) (g := (mkF m 105 (Sh18 q1 q2 q3 q4 q5 q6 3 2 mi va vb vc vd ve) [(.int 3), (.ref b1084), (.ref b1084)])) rfl (by rw [hml]; rfl) (argsL := [(.int (3 : Int32))]) (rest := [(.ref b1084)]) (lenOf pd_28I29V rfl) rfl (Nat.le_of_eq rfl) (B at_105)
   obtain ⟨b1085_e0, k1085_ke0, rfl, N1085q, K1085, p1085_0, p1085_1, p1085_2, p1085_3, hz_b1085_e0⟩ := hQ1085
   have g_b1085_e0 : n0 ≤ b1085_e0 := Nat.le_trans f1084_60 hz_b1085_e0
   have ne_b1084_b1085_e0 : b1084 ≠ b1085_e0 := Nat.ne_of_lt (Nat.lt_of_lt_of_le A1084.lt hz_b1085_e0)
   have N1085 := Fr.app N0 N1085q
   refine GoW.sg (mkF m 108 (Sh18 q1 q2 q3 q4 q5 q6 3 2 mi va vb vc vd ve) [(.ref b1084)]) (fun t k => st1085 t k) ?_
   refine GoW.sg (mkF m 118 (Sh19 q1 q2 q3 q4 q5 q6 3 2 mi va vb vc vd ve b1084) [(.int q2), (.ref b1084)]) (fun t k => XS.astore X1085.here hx rfl (B at_108) rfl rfl (l' := (Sh19 q1 q2 q3 q4 q5 q6 3 2 mi va vb vc vd ve b1084)) rfl (XS.iload X1085.here hx rfl (B at_110) rfl (XS.ifNo X1085.here hx rfl (B at_112) rfl (by decide) (XS.aload X1085.here hx rfl (B at_115) rfl rfl (XS.iloadN X1085.here hx rfl (B at_117) rfl k))))) ?_
   obtain ⟨d1086, hd1086⟩ : ∃ d : UInt64, d = FP.l2d q2.toInt64 := ⟨_, rfl⟩
   refine GoW.sg (mkF m 119 (Sh19 q1 q2 q3 q4 q5 q6 3 2 mi va vb vc vd ve b1084) [(.double d1086), (.ref b1084)]) (fun t k => XS.i2dS X1085.here hx rfl (B at_118) rfl (v := d1086) ((i2d_w _).trans hd1086.symm) k) ?_
   obtain ⟨_, T1087, L1087, X1087, hQ1087, st1087⟩ := own_virt X1085 hx hZ (y := Y4) hown (ww hw 22 rfl) (ww hw 23 rfl) (ww hw 25 rfl) (ww hw 24 rfl) (ww hw 26 rfl) (ww hw 3 rfl) (by decide) 0 (a := b1084) (rmO30 l Z a0 hw b1084 d1086 q2 b1085_e0 k1085_ke0 T1085.heap n0 p1085_0 p1085_2 p1085_1 p1085_3 g_b1084 g_b1085_e0 ne_b1084_b1085_e0 hd1086 trivial) (by decide) (by decide) rfl p1085_0 (by decide) (by decide) (g := (mkF m 119 (Sh19 q1 q2 q3 q4 q5 q6 3 2 mi va vb vc vd ve b1084) [(.double d1086), (.ref b1084)])) rfl (by rw [hml]; rfl) (argsL := [(.double d1086)]) (rest := []) (lenOf pd_28D29V rfl) rfl (Nat.le_of_eq rfl) (B at_119)
   obtain ⟨k1087_w0, k1087_f0, rfl, N1087q, K1087, p1087_0, p1087_1, p1087_2, p1087_3, LQ1087⟩ := hQ1087
   have N1087 := Fr.app N1085 N1087q
   refine GoW.sg (mkF m 122 (Sh19 q1 q2 q3 q4 q5 q6 3 2 mi va vb vc vd ve b1084) []) (fun t k => st1087 t k) ?_
   obtain ⟨hf1087_0, hH1087, hR1087⟩ := LQ1087
   have A1087 : ∀ z : Int, cn z k1087_w0 = cn z q2 := fun z => by have _a := hR1087 z; have _c := own_cn z q2; omega
   refine GoW.sg (mkF m 131 (Sh19 q1 q2 q3 q4 q5 q6 3 2 mi va vb vc vd ve b1084) [(.int q3), (.ref b1084)]) (fun t k => XS.iload X1087.here hx rfl (B at_122) rfl (XS.iconst X1087.here hx rfl (B at_124) (XS.icmpNo X1087.here hx rfl (B at_125) rfl (by decide) (XS.aload X1087.here hx rfl (B at_128) rfl rfl (XS.iloadN X1087.here hx rfl (B at_130) rfl k))))) ?_
   obtain ⟨d1088, hd1088⟩ : ∃ d : UInt64, d = FP.l2d q3.toInt64 := ⟨_, rfl⟩
   refine GoW.sg (mkF m 132 (Sh19 q1 q2 q3 q4 q5 q6 3 2 mi va vb vc vd ve b1084) [(.double d1088), (.ref b1084)]) (fun t k => XS.i2dS X1087.here hx rfl (B at_131) rfl (v := d1088) ((i2d_w _).trans hd1088.symm) k) ?_
   obtain ⟨_, T1089, L1089, X1089, hQ1089, st1089⟩ := own_virt X1087 hx hZ (y := Y4) hown (ww hw 22 rfl) (ww hw 23 rfl) (ww hw 25 rfl) (ww hw 24 rfl) (ww hw 26 rfl) (ww hw 3 rfl) (by decide) 0 (a := b1084) (rmO31 l Z a0 hw b1084 d1088 q3 k1087_w0 k1087_f0 b1085_e0 k1085_ke0 T1087.heap n0 p1087_0 p1087_1 p1087_2 p1087_3 g_b1084 g_b1085_e0 ne_b1084_b1085_e0 hf1087_0 hd1088 hH1087) (by decide) (by decide) rfl p1087_0 (by decide) (by decide) (g := (mkF m 132 (Sh19 q1 q2 q3 q4 q5 q6 3 2 mi va vb vc vd ve b1084) [(.double d1088), (.ref b1084)])) rfl (by rw [hml]; rfl) (argsL := [(.double d1088)]) (rest := []) (lenOf pd_28D29V rfl) rfl (Nat.le_of_eq rfl) (B at_132)
   obtain ⟨k1089_w0, k1089_w1, k1089_f0, k1089_f1, rfl, N1089q, K1089, p1089_0, p1089_1, p1089_2, p1089_3, LQ1089⟩ := hQ1089
   have N1089 := Fr.app N1087 N1089q
   refine GoW.sg (mkF m 135 (Sh19 q1 q2 q3 q4 q5 q6 3 2 mi va vb vc vd ve b1084) []) (fun t k => st1089 t k) ?_
   obtain ⟨hf1089_0, hf1089_1, hH1089, hR1089⟩ := LQ1089
   have A1089 : ∀ z : Int, cn z k1089_w0 + cn z k1089_w1 = cn z q2 + cn z q3 := fun z => by have _a := hR1089 z; have _b := A1087 z; have _c := own_cn z q3; omega
   refine GoW.sg (mkF m 165 (Sh19 q1 q2 q3 q4 q5 q6 3 2 mi va vb vc vd ve b1084) [(.int 4), (.int 2)]) (fun t k => XS.iload X1089.here hx rfl (B at_135) rfl (XS.iconst X1089.here hx rfl (B at_137) (XS.icmpYes X1089.here hx rfl (pc0 := 138) (pc' := 148) rfl (B at_138) rfl (by decide) (by decide) (by decide) (XS.iload X1089.here hx rfl (B at_148) rfl (XS.iconst X1089.here hx rfl (B at_150) (XS.icmpYes X1089.here hx rfl (pc0 := 151) (pc' := 162) rfl (B at_151) rfl (by decide) (by decide) (by decide) (XS.iload X1089.here hx rfl (B at_162) rfl (XS.iconst X1089.here hx rfl (B at_164) k)))))))) ?_
   refine GoW.sg (mkF m 178 (Sh19 q1 q2 q3 q4 q5 q6 3 2 mi va vb vc vd ve b1084) [(.ref b1084)]) (fun t k => XS.icmpYes X1089.here hx rfl (pc0 := 165) (pc' := 176) rfl (B at_165) rfl (by decide) (by decide) (by decide) (XS.aload X1089.here hx rfl (B at_176) rfl rfl k)) ?_
   obtain ⟨_, T1096, L1096, X1096, hQ1096, st1096⟩ := own_virt X1089 hx hZ (y := Y3) hown (ww hw 13 rfl) (ww hw 14 rfl) (ww hw 16 rfl) (ww hw 15 rfl) (ww hw 17 rfl) (ww hw 3 rfl) (by decide) 0 (a := b1084) (rm3_40 l Z a0 hw b1084 b1085_e0 k1085_ke0 k1089_f0 k1089_f1 k1089_w0 k1089_w1 T1089.heap n0 p1089_2 p1089_1 p1089_3 hf1089_0 hf1089_1 ) (by decide) (by decide) rfl p1089_0 (by decide) (by decide) (g := (mkF m 178 (Sh19 q1 q2 q3 q4 q5 q6 3 2 mi va vb vc vd ve b1084) [(.ref b1084)])) rfl (by rw [hml]; rfl) (argsL := []) (rest := []) (lenOf pd_2829D rfl) rfl (Nat.le_of_eq rfl) (B at_178)
   obtain ⟨rfl, N1096q, e1096⟩ := hQ1096
   have N1096 := Fr.app N1089 N1096q
   refine GoW.sg (mkF m 181 (Sh19 q1 q2 q3 q4 q5 q6 3 2 mi va vb vc vd ve b1084) [(.double 18442240474082181120)]) (fun t k => st1096 t k) ?_
   refine GoW.sg (mkF m 192 (Sh10 q1 q2 q3 q4 q5 q6 3 2 mi va vb vc vd ve b1084 18442240474082181120) [(.double 18442240474082181120)]) (fun t k => XS.dstore X1096.here hx rfl (B at_181) rfl (l' := (Sh10 q1 q2 q3 q4 q5 q6 3 2 mi va vb vc vd ve b1084 18442240474082181120)) rfl (XS.iload X1096.here hx rfl (B at_183) rfl (XS.iload X1096.here hx rfl (B at_185) rfl (XS.icmpNo X1096.here hx rfl (B at_187) rfl (by decide) (XS.dload X1096.here hx rfl (B at_190) rfl k))))) ?_
   refine GoW.sg (mkF m 195 (Sh10 q1 q2 q3 q4 q5 q6 3 2 mi va vb vc vd ve b1084 18442240474082181120) [(.double 18442240474082181120), (.double 18442240474082181120)]) (fun t k => X1096.ldc2DoubleC hx hown (mvT hZ (ww hw 21 rfl)) (g := (mkF m 192 (Sh10 q1 q2 q3 q4 q5 q6 3 2 mi va vb vc vd ve b1084 18442240474082181120) [(.double 18442240474082181120)])) rfl (B at_192) t k) ?_
   refine GoW.sg (mkF m 204 (Sh10 q1 q2 q3 q4 q5 q6 3 2 mi va vb vc vd ve b1084 18442240474082181120) [(.int 1)]) (fun t k => XS.dcmpS X1096.here hx rfl (B at_195) rfl (v := (0 : Int32)) (by decide +kernel) (XS.ifNo X1096.here hx rfl (B at_196) rfl (by decide) (XS.iconst X1096.here hx rfl (B at_199) (XS.goto X1096.here hx rfl (pc0 := 200) (pc' := 204) rfl (B at_200) (by decide) (by decide) k)))) ?_
   refine GoW.retN X1096 hx (t := .boolean) Bd.returns (by simp) (B at_204) Bd.notSynchronized ?_ (by decide) (by decide)
   exact ⟨rfl, N1096⟩
  ·rw [vv]
   show GoW p e below s (ValQ (.int (1 : Int32)) n0) room_1.cells room_1.slots (s₁.setTop (mkF m 18 (Sh12 q1 q2 q3 q4 q5 q6 3 3) []))
   refine GoW.sg (mkF m 21 (Sh12 q1 q2 q3 q4 q5 q6 3 3) [(.long (-9223372036854775808))]) (fun t k => X0.ldc2Long hx hown (mvT hZ (ww hw 0 rfl)) (g := (mkF m 18 (Sh12 q1 q2 q3 q4 q5 q6 3 3) [])) rfl (B at_18) t k) ?_
   refine GoW.sg (mkF m 39 (Sh14 q1 q2 q3 q4 q5 q6 3 3 (-9223372036854775808) (Int32.toInt64 q2)) [(.int 3)]) (fun t k => XS.lstore X0.here hx rfl (B at_21) rfl (l' := (Sh13 q1 q2 q3 q4 q5 q6 3 3 (-9223372036854775808))) rfl (XS.iload X0.here hx rfl (B at_23) rfl (XS.ifNo X0.here hx rfl (B at_25) rfl (by decide) (XS.iloadN X0.here hx rfl (B at_28) rfl (XS.i2l X0.here hx rfl (B at_29) rfl (XS.goto X0.here hx rfl (pc0 := 30) (pc' := 35) rfl (B at_30) (by decide) (by decide) (XS.lstore X0.here hx rfl (B at_35) rfl (l' := (Sh14 q1 q2 q3 q4 q5 q6 3 3 (-9223372036854775808) (Int32.toInt64 q2))) rfl (XS.iload X0.here hx rfl (B at_37) rfl k)))))))) ?_
   refine GoW.sg (mkF m 55 (Sh15 q1 q2 q3 q4 q5 q6 3 3 (-9223372036854775808) (Int32.toInt64 q2) (Int32.toInt64 q3)) [(.int 2), (.int 3)]) (fun t k => XS.iconst X0.here hx rfl (B at_39) (XS.icmpNo X0.here hx rfl (B at_40) rfl (by decide) (XS.iloadN X0.here hx rfl (B at_43) rfl (XS.i2l X0.here hx rfl (B at_44) rfl (XS.goto X0.here hx rfl (pc0 := 45) (pc' := 50) rfl (B at_45) (by decide) (by decide) (XS.lstore X0.here hx rfl (B at_50) rfl (l' := (Sh15 q1 q2 q3 q4 q5 q6 3 3 (-9223372036854775808) (Int32.toInt64 q2) (Int32.toInt64 q3))) rfl (XS.iload X0.here hx rfl (B at_52) rfl (XS.iconst X0.here hx rfl (B at_54) k)))))))) ?_
   refine GoW.sg (mkF m 79 (Sh16 q1 q2 q3 q4 q5 q6 3 3 (-9223372036854775808) (Int32.toInt64 q2) (Int32.toInt64 q3) (Int32.toInt64 q4)) []) (fun t k => XS.icmpNo X0.here hx rfl (B at_55) rfl (by decide) (XS.iloadN X0.here hx rfl (B at_58) rfl (XS.i2l X0.here hx rfl (B at_59) rfl (XS.goto X0.here hx rfl (pc0 := 60) (pc' := 65) rfl (B at_60) (by decide) (by decide) (XS.lstore X0.here hx rfl (B at_65) rfl (l' := (Sh16 q1 q2 q3 q4 q5 q6 3 3 (-9223372036854775808) (Int32.toInt64 q2) (Int32.toInt64 q3) (Int32.toInt64 q4))) rfl (XS.iload X0.here hx rfl (B at_67) rfl (XS.iconst X0.here hx rfl (B at_69) (XS.icmpYes X0.here hx rfl (pc0 := 70) (pc' := 79) rfl (B at_70) rfl (by decide) (by decide) (by decide) k)))))))) ?_
   refine GoW.sg (mkF m 99 (Sh18 q1 q2 q3 q4 q5 q6 3 3 (-9223372036854775808) (Int32.toInt64 q2) (Int32.toInt64 q3) (Int32.toInt64 q4) (-9223372036854775808) (-9223372036854775808)) []) (fun t k => XS.lload X0.here hx rfl (B at_79) rfl (XS.lstore X0.here hx rfl (B at_81) rfl (l' := (Sh17 q1 q2 q3 q4 q5 q6 3 3 (-9223372036854775808) (Int32.toInt64 q2) (Int32.toInt64 q3) (Int32.toInt64 q4) (-9223372036854775808))) rfl (XS.iload X0.here hx rfl (B at_83) rfl (XS.iconst X0.here hx rfl (B at_85) (XS.icmpYes X0.here hx rfl (pc0 := 86) (pc' := 95) rfl (B at_86) rfl (by decide) (by decide) (by decide) (XS.lload X0.here hx rfl (B at_95) rfl (XS.lstore X0.here hx rfl (B at_97) rfl (l' := (Sh18 q1 q2 q3 q4 q5 q6 3 3 (-9223372036854775808) (Int32.toInt64 q2) (Int32.toInt64 q3) (Int32.toInt64 q4) (-9223372036854775808) (-9223372036854775808))) rfl k))))))) ?_
   obtain ⟨va, hva⟩ : ∃ z : Int64, z = (Int32.toInt64 q2) := ⟨_, rfl⟩
   obtain ⟨vb, hvb⟩ : ∃ z : Int64, z = (Int32.toInt64 q3) := ⟨_, rfl⟩
   obtain ⟨vc, hvc⟩ : ∃ z : Int64, z = (Int32.toInt64 q4) := ⟨_, rfl⟩
   obtain ⟨vd, hvd⟩ : ∃ z : Int64, z = (-9223372036854775808 : Int64) := ⟨_, rfl⟩
   obtain ⟨ve, hve⟩ : ∃ z : Int64, z = (-9223372036854775808 : Int64) := ⟨_, rfl⟩
   obtain ⟨mi, hmi⟩ : ∃ z : Int64, z = (-9223372036854775808 : Int64) := ⟨_, rfl⟩
   refine GoW.st (fun t k => by rw [hva, hvb, hvc, hvd, hve, hmi] at k; exact k) ?_ (u := s₁.setTop (mkF m 99 (Sh18 q1 q2 q3 q4 q5 q6 3 3 mi va vb vc vd ve) []))
   show GoW p e below s (ValQ (.int (1 : Int32)) n0) room_1.cells room_1.slots (s₁.setTop (mkF m 99 (Sh18 q1 q2 q3 q4 q5 q6 3 3 mi va vb vc vd ve) []))
   obtain ⟨T1097, h1097, X1097, e1097, E1097, A1097, D1097, -, st1097⟩ := newO X0 hx hZ hown (ww hw 1 rfl) (ww hw 2 rfl) (ww hw 3 rfl) e0 (g := (mkF m 99 (Sh18 q1 q2 q3 q4 q5 q6 3 3 mi va vb vc vd ve) [])) rfl (B at_99) (by decide) (by decide)
   obtain ⟨b1097, g1097⟩ : ∃ z, z = h0.size := ⟨_, rfl⟩
   rw [← g1097] at A1097 D1097 st1097
   have g_b1097 : n0 ≤ b1097 := Nat.le_trans Z0 (Nat.le_of_eq g1097.symm)
   have f1097_64 := Nat.le_trans Z0 E1097.1
   have F1097heap : Fld Z h1097 b1097 HSn "heap" "[D" .null := D1097 (Or.inr (ww hw 12 rfl)) (ty := (.array .double)) (by decide)
   have F1097size : Fld Z h1097 b1097 HSn "size" "I" (.int (0 : Int32)) := D1097 (Or.inl (ww hw 19 rfl)) (ty := .int) (by decide)
   refine GoW.sg (mkF m 102 (Sh18 q1 q2 q3 q4 q5 q6 3 3 mi va vb vc vd ve) [(.ref b1097)]) (fun t k => st1097 t k) ?_
   refine GoW.sg (mkF m 105 (Sh18 q1 q2 q3 q4 q5 q6 3 3 mi va vb vc vd ve) [(.int 3), (.ref b1097), (.ref b1097)]) (fun t k => XS.dup X1097.here hx rfl (B at_102) rfl rfl (XS.iload X1097.here hx rfl (B at_103) rfl k)) ?_
   obtain ⟨_, T1098, L1098, X1098, hQ1098, st1098⟩ := own_spec X1097 hx hZ (y := Y1) rfl hown (ww hw 4 rfl) (ww hw 5 rfl) (ww hw 3 rfl) (ww hw 6 rfl) (by decide) 1 (a := b1097) (rm1_37 l Z a0 hw b1097 h1097 n0 f1097_64 A1097 F1097heap F1097size g_b1097 ) (by decide) (by decide) e1097 (by decide) (by decide) (g := (mkF m 105 (Sh18 q1 q2 q3 q4 q5 q6 3 3 mi va vb vc vd ve) [(.int 3), (.ref b1097), (.ref b1097)])) rfl (by rw [hml]; rfl) (argsL := [(.int (3 : Int32))]) (rest := [(.ref b1097)]) (lenOf pd_28I29V rfl) rfl (Nat.le_of_eq rfl) (B at_105)
   obtain ⟨b1098_e0, k1098_ke0, rfl, N1098q, K1098, p1098_0, p1098_1, p1098_2, p1098_3, hz_b1098_e0⟩ := hQ1098
   have g_b1098_e0 : n0 ≤ b1098_e0 := Nat.le_trans f1097_64 hz_b1098_e0
   have ne_b1097_b1098_e0 : b1097 ≠ b1098_e0 := Nat.ne_of_lt (Nat.lt_of_lt_of_le A1097.lt hz_b1098_e0)
   have N1098 := Fr.app N0 N1098q
   refine GoW.sg (mkF m 108 (Sh18 q1 q2 q3 q4 q5 q6 3 3 mi va vb vc vd ve) [(.ref b1097)]) (fun t k => st1098 t k) ?_
   refine GoW.sg (mkF m 118 (Sh19 q1 q2 q3 q4 q5 q6 3 3 mi va vb vc vd ve b1097) [(.int q2), (.ref b1097)]) (fun t k => XS.astore X1098.here hx rfl (B at_108) rfl rfl (l' := (Sh19 q1 q2 q3 q4 q5 q6 3 3 mi va vb vc vd ve b1097)) rfl (XS.iload X1098.here hx rfl (B at_110) rfl (XS.ifNo X1098.here hx rfl (B at_112) rfl (by decide) (XS.aload X1098.here hx rfl (B at_115) rfl rfl (XS.iloadN X1098.here hx rfl (B at_117) rfl k))))) ?_
   obtain ⟨d1099, hd1099⟩ : ∃ d : UInt64, d = FP.l2d q2.toInt64 := ⟨_, rfl⟩
   refine GoW.sg (mkF m 119 (Sh19 q1 q2 q3 q4 q5 q6 3 3 mi va vb vc vd ve b1097) [(.double d1099), (.ref b1097)]) (fun t k => XS.i2dS X1098.here hx rfl (B at_118) rfl (v := d1099) ((i2d_w _).trans hd1099.symm) k) ?_
   obtain ⟨_, T1100, L1100, X1100, hQ1100, st1100⟩ := own_virt X1098 hx hZ (y := Y4) hown (ww hw 22 rfl) (ww hw 23 rfl) (ww hw 25 rfl) (ww hw 24 rfl) (ww hw 26 rfl) (ww hw 3 rfl) (by decide) 0 (a := b1097) (rmO30 l Z a0 hw b1097 d1099 q2 b1098_e0 k1098_ke0 T1098.heap n0 p1098_0 p1098_2 p1098_1 p1098_3 g_b1097 g_b1098_e0 ne_b1097_b1098_e0 hd1099 trivial) (by decide) (by decide) rfl p1098_0 (by decide) (by decide) (g := (mkF m 119 (Sh19 q1 q2 q3 q4 q5 q6 3 3 mi va vb vc vd ve b1097) [(.double d1099), (.ref b1097)])) rfl (by rw [hml]; rfl) (argsL := [(.double d1099)]) (rest := []) (lenOf pd_28D29V rfl) rfl (Nat.le_of_eq rfl) (B at_119)
   obtain ⟨k1100_w0, k1100_f0, rfl, N1100q, K1100, p1100_0, p1100_1, p1100_2, p1100_3, LQ1100⟩ := hQ1100
   have N1100 := Fr.app N1098 N1100q
   refine GoW.sg (mkF m 122 (Sh19 q1 q2 q3 q4 q5 q6 3 3 mi va vb vc vd ve b1097) []) (fun t k => st1100 t k) ?_
   obtain ⟨hf1100_0, hH1100, hR1100⟩ := LQ1100
   have A1100 : ∀ z : Int, cn z k1100_w0 = cn z q2 := fun z => by have _a := hR1100 z; have _c := own_cn z q2; omega
   refine GoW.sg (mkF m 131 (Sh19 q1 q2 q3 q4 q5 q6 3 3 mi va vb vc vd ve b1097) [(.int q3), (.ref b1097)]) (fun t k => XS.iload X1100.here hx rfl (B at_122) rfl (XS.iconst X1100.here hx rfl (B at_124) (XS.icmpNo X1100.here hx rfl (B at_125) rfl (by decide) (XS.aload X1100.here hx rfl (B at_128) rfl rfl (XS.iloadN X1100.here hx rfl (B at_130) rfl k))))) ?_
   obtain ⟨d1101, hd1101⟩ : ∃ d : UInt64, d = FP.l2d q3.toInt64 := ⟨_, rfl⟩
   refine GoW.sg (mkF m 132 (Sh19 q1 q2 q3 q4 q5 q6 3 3 mi va vb vc vd ve b1097) [(.double d1101), (.ref b1097)]) (fun t k => XS.i2dS X1100.here hx rfl (B at_131) rfl (v := d1101) ((i2d_w _).trans hd1101.symm) k) ?_
   obtain ⟨_, T1102, L1102, X1102, hQ1102, st1102⟩ := own_virt X1100 hx hZ (y := Y4) hown (ww hw 22 rfl) (ww hw 23 rfl) (ww hw 25 rfl) (ww hw 24 rfl) (ww hw 26 rfl) (ww hw 3 rfl) (by decide) 0 (a := b1097) (rmO31 l Z a0 hw b1097 d1101 q3 k1100_w0 k1100_f0 b1098_e0 k1098_ke0 T1100.heap n0 p1100_0 p1100_1 p1100_2 p1100_3 g_b1097 g_b1098_e0 ne_b1097_b1098_e0 hf1100_0 hd1101 hH1100) (by decide) (by decide) rfl p1100_0 (by decide) (by decide) (g := (mkF m 132 (Sh19 q1 q2 q3 q4 q5 q6 3 3 mi va vb vc vd ve b1097) [(.double d1101), (.ref b1097)])) rfl (by rw [hml]; rfl) (argsL := [(.double d1101)]) (rest := []) (lenOf pd_28D29V rfl) rfl (Nat.le_of_eq rfl) (B at_132)
   obtain ⟨k1102_w0, k1102_w1, k1102_f0, k1102_f1, rfl, N1102q, K1102, p1102_0, p1102_1, p1102_2, p1102_3, LQ1102⟩ := hQ1102
   have N1102 := Fr.app N1100 N1102q
   refine GoW.sg (mkF m 135 (Sh19 q1 q2 q3 q4 q5 q6 3 3 mi va vb vc vd ve b1097) []) (fun t k => st1102 t k) ?_
   obtain ⟨hf1102_0, hf1102_1, hH1102, hR1102⟩ := LQ1102
   have A1102 : ∀ z : Int, cn z k1102_w0 + cn z k1102_w1 = cn z q2 + cn z q3 := fun z => by have _a := hR1102 z; have _b := A1100 z; have _c := own_cn z q3; omega
   refine GoW.sg (mkF m 144 (Sh19 q1 q2 q3 q4 q5 q6 3 3 mi va vb vc vd ve b1097) [(.int q4), (.ref b1097)]) (fun t k => XS.iload X1102.here hx rfl (B at_135) rfl (XS.iconst X1102.here hx rfl (B at_137) (XS.icmpNo X1102.here hx rfl (B at_138) rfl (by decide) (XS.aload X1102.here hx rfl (B at_141) rfl rfl (XS.iloadN X1102.here hx rfl (B at_143) rfl k))))) ?_
   obtain ⟨d1103, hd1103⟩ : ∃ d : UInt64, d = FP.l2d q4.toInt64 := ⟨_, rfl⟩
   refine GoW.sg (mkF m 145 (Sh19 q1 q2 q3 q4 q5 q6 3 3 mi va vb vc vd ve b1097) [(.double d1103), (.ref b1097)]) (fun t k => XS.i2dS X1102.here hx rfl (B at_144) rfl (v := d1103) ((i2d_w _).trans hd1103.symm) k) ?_
   obtain ⟨_, T1104, L1104, X1104, hQ1104, st1104⟩ := own_virt X1102 hx hZ (y := Y4) hown (ww hw 22 rfl) (ww hw 23 rfl) (ww hw 25 rfl) (ww hw 24 rfl) (ww hw 26 rfl) (ww hw 3 rfl) (by decide) 0 (a := b1097) (rmO32 l Z a0 hw b1097 d1103 q4 k1102_w0 k1102_w1 k1102_f0 k1102_f1 b1098_e0 k1098_ke0 T1102.heap n0 p1102_0 p1102_1 p1102_2 p1102_3 g_b1097 g_b1098_e0 ne_b1097_b1098_e0 hf1102_0 hf1102_1 hd1103 hH1102) (by decide) (by decide) rfl p1102_0 (by decide) (by decide) (g := (mkF m 145 (Sh19 q1 q2 q3 q4 q5 q6 3 3 mi va vb vc vd ve b1097) [(.double d1103), (.ref b1097)])) rfl (by rw [hml]; rfl) (argsL := [(.double d1103)]) (rest := []) (lenOf pd_28D29V rfl) rfl (Nat.le_of_eq rfl) (B at_145)
   obtain ⟨k1104_w0, k1104_w1, k1104_w2, k1104_f0, k1104_f1, k1104_f2, rfl, N1104q, K1104, p1104_0, p1104_1, p1104_2, p1104_3, LQ1104⟩ := hQ1104
   have N1104 := Fr.app N1102 N1104q
   refine GoW.sg (mkF m 148 (Sh19 q1 q2 q3 q4 q5 q6 3 3 mi va vb vc vd ve b1097) []) (fun t k => st1104 t k) ?_
   obtain ⟨hf1104_0, hf1104_1, hf1104_2, hH1104, hR1104⟩ := LQ1104
   have A1104 : ∀ z : Int, cn z k1104_w0 + cn z k1104_w1 + cn z k1104_w2 = cn z q2 + cn z q3 + cn z q4 := fun z => by have _a := hR1104 z; have _b := A1102 z; have _c := own_cn z q4; omega
   refine GoW.sg (mkF m 178 (Sh19 q1 q2 q3 q4 q5 q6 3 3 mi va vb vc vd ve b1097) [(.ref b1097)]) (fun t k => XS.iload X1104.here hx rfl (B at_148) rfl (XS.iconst X1104.here hx rfl (B at_150) (XS.icmpYes X1104.here hx rfl (pc0 := 151) (pc' := 162) rfl (B at_151) rfl (by decide) (by decide) (by decide) (XS.iload X1104.here hx rfl (B at_162) rfl (XS.iconst X1104.here hx rfl (B at_164) (XS.icmpYes X1104.here hx rfl (pc0 := 165) (pc' := 176) rfl (B at_165) rfl (by decide) (by decide) (by decide) (XS.aload X1104.here hx rfl (B at_176) rfl rfl k))))))) ?_
   obtain ⟨_, T1115, L1115, X1115, hQ1115, st1115⟩ := own_virt X1104 hx hZ (y := Y3) hown (ww hw 13 rfl) (ww hw 14 rfl) (ww hw 16 rfl) (ww hw 15 rfl) (ww hw 17 rfl) (ww hw 3 rfl) (by decide) 0 (a := b1097) (rm3_41 l Z a0 hw b1097 b1098_e0 k1098_ke0 k1104_f0 k1104_f1 k1104_f2 k1104_w0 k1104_w1 k1104_w2 T1104.heap n0 p1104_2 p1104_1 p1104_3 hf1104_0 hf1104_1 hf1104_2 ) (by decide) (by decide) rfl p1104_0 (by decide) (by decide) (g := (mkF m 178 (Sh19 q1 q2 q3 q4 q5 q6 3 3 mi va vb vc vd ve b1097) [(.ref b1097)])) rfl (by rw [hml]; rfl) (argsL := []) (rest := []) (lenOf pd_2829D rfl) rfl (Nat.le_of_eq rfl) (B at_178)
   obtain ⟨rfl, N1115q, e1115⟩ := hQ1115
   have N1115 := Fr.app N1104 N1115q
   refine GoW.sg (mkF m 181 (Sh19 q1 q2 q3 q4 q5 q6 3 3 mi va vb vc vd ve b1097) [(.double k1104_f0)]) (fun t k => st1115 t k) ?_
   refine GoW.sg (mkF m 205 (Sh10 q1 q2 q3 q4 q5 q6 3 3 mi va vb vc vd ve b1097 k1104_f0) []) (fun t k => XS.dstore X1115.here hx rfl (B at_181) rfl (l' := (Sh10 q1 q2 q3 q4 q5 q6 3 3 mi va vb vc vd ve b1097 k1104_f0)) rfl (XS.iload X1115.here hx rfl (B at_183) rfl (XS.iload X1115.here hx rfl (B at_185) rfl (XS.icmpYes X1115.here hx rfl (pc0 := 187) (pc' := 205) rfl (B at_187) rfl (by decide) (by decide) (by decide) k)))) ?_
   exact J _ _ _ _ _ _ _ _ _ _ _ _ k1104_w0 X1115 e1115 N1115 hf1104_0 (fun r1 r2 r3 r4 r5 h1 h2 h3 h4 h5 => by subst hva hvb hvc hvd hve hmi; exact own_fin33 h1 h2 h3 h4 h5 hH1104 A1104)
  ·rw [vv]
   show GoW p e below s (ValQ (.int (1 : Int32)) n0) room_1.cells room_1.slots (s₁.setTop (mkF m 18 (Sh12 q1 q2 q3 q4 q5 q6 3 4) []))
   refine GoW.sg (mkF m 21 (Sh12 q1 q2 q3 q4 q5 q6 3 4) [(.long (-9223372036854775808))]) (fun t k => X0.ldc2Long hx hown (mvT hZ (ww hw 0 rfl)) (g := (mkF m 18 (Sh12 q1 q2 q3 q4 q5 q6 3 4) [])) rfl (B at_18) t k) ?_
   refine GoW.sg (mkF m 39 (Sh14 q1 q2 q3 q4 q5 q6 3 4 (-9223372036854775808) (Int32.toInt64 q2)) [(.int 4)]) (fun t k => XS.lstore X0.here hx rfl (B at_21) rfl (l' := (Sh13 q1 q2 q3 q4 q5 q6 3 4 (-9223372036854775808))) rfl (XS.iload X0.here hx rfl (B at_23) rfl (XS.ifNo X0.here hx rfl (B at_25) rfl (by decide) (XS.iloadN X0.here hx rfl (B at_28) rfl (XS.i2l X0.here hx rfl (B at_29) rfl (XS.goto X0.here hx rfl (pc0 := 30) (pc' := 35) rfl (B at_30) (by decide) (by decide) (XS.lstore X0.here hx rfl (B at_35) rfl (l' := (Sh14 q1 q2 q3 q4 q5 q6 3 4 (-9223372036854775808) (Int32.toInt64 q2))) rfl (XS.iload X0.here hx rfl (B at_37) rfl k)))))))) ?_
   refine GoW.sg (mkF m 55 (Sh15 q1 q2 q3 q4 q5 q6 3 4 (-9223372036854775808) (Int32.toInt64 q2) (Int32.toInt64 q3)) [(.int 2), (.int 4)]) (fun t k => XS.iconst X0.here hx rfl (B at_39) (XS.icmpNo X0.here hx rfl (B at_40) rfl (by decide) (XS.iloadN X0.here hx rfl (B at_43) rfl (XS.i2l X0.here hx rfl (B at_44) rfl (XS.goto X0.here hx rfl (pc0 := 45) (pc' := 50) rfl (B at_45) (by decide) (by decide) (XS.lstore X0.here hx rfl (B at_50) rfl (l' := (Sh15 q1 q2 q3 q4 q5 q6 3 4 (-9223372036854775808) (Int32.toInt64 q2) (Int32.toInt64 q3))) rfl (XS.iload X0.here hx rfl (B at_52) rfl (XS.iconst X0.here hx rfl (B at_54) k)))))))) ?_
   refine GoW.sg (mkF m 73 (Sh16 q1 q2 q3 q4 q5 q6 3 4 (-9223372036854775808) (Int32.toInt64 q2) (Int32.toInt64 q3) (Int32.toInt64 q4)) []) (fun t k => XS.icmpNo X0.here hx rfl (B at_55) rfl (by decide) (XS.iloadN X0.here hx rfl (B at_58) rfl (XS.i2l X0.here hx rfl (B at_59) rfl (XS.goto X0.here hx rfl (pc0 := 60) (pc' := 65) rfl (B at_60) (by decide) (by decide) (XS.lstore X0.here hx rfl (B at_65) rfl (l' := (Sh16 q1 q2 q3 q4 q5 q6 3 4 (-9223372036854775808) (Int32.toInt64 q2) (Int32.toInt64 q3) (Int32.toInt64 q4))) rfl (XS.iload X0.here hx rfl (B at_67) rfl (XS.iconst X0.here hx rfl (B at_69) (XS.icmpNo X0.here hx rfl (B at_70) rfl (by decide) k)))))))) ?_
   refine GoW.sg (mkF m 97 (Sh17 q1 q2 q3 q4 q5 q6 3 4 (-9223372036854775808) (Int32.toInt64 q2) (Int32.toInt64 q3) (Int32.toInt64 q4) (Int32.toInt64 q5)) [(.long (-9223372036854775808))]) (fun t k => XS.iload X0.here hx rfl (B at_73) rfl (XS.i2l X0.here hx rfl (B at_75) rfl (XS.goto X0.here hx rfl (pc0 := 76) (pc' := 81) rfl (B at_76) (by decide) (by decide) (XS.lstore X0.here hx rfl (B at_81) rfl (l' := (Sh17 q1 q2 q3 q4 q5 q6 3 4 (-9223372036854775808) (Int32.toInt64 q2) (Int32.toInt64 q3) (Int32.toInt64 q4) (Int32.toInt64 q5))) rfl (XS.iload X0.here hx rfl (B at_83) rfl (XS.iconst X0.here hx rfl (B at_85) (XS.icmpYes X0.here hx rfl (pc0 := 86) (pc' := 95) rfl (B at_86) rfl (by decide) (by decide) (by decide) (XS.lload X0.here hx rfl (B at_95) rfl k)))))))) ?_
   refine GoW.sg (mkF m 99 (Sh18 q1 q2 q3 q4 q5 q6 3 4 (-9223372036854775808) (Int32.toInt64 q2) (Int32.toInt64 q3) (Int32.toInt64 q4) (Int32.toInt64 q5) (-9223372036854775808)) []) (fun t k => XS.lstore X0.here hx rfl (B at_97) rfl (l' := (Sh18 q1 q2 q3 q4 q5 q6 3 4 (-9223372036854775808) (Int32.toInt64 q2) (Int32.toInt64 q3) (Int32.toInt64 q4) (Int32.toInt64 q5) (-9223372036854775808))) rfl k) ?_
   obtain ⟨va, hva⟩ : ∃ z : Int64, z = (Int32.toInt64 q2) := ⟨_, rfl⟩
   obtain ⟨vb, hvb⟩ : ∃ z : Int64, z = (Int32.toInt64 q3) := ⟨_, rfl⟩
   obtain ⟨vc, hvc⟩ : ∃ z : Int64, z = (Int32.toInt64 q4) := ⟨_, rfl⟩
   obtain ⟨vd, hvd⟩ : ∃ z : Int64, z = (Int32.toInt64 q5) := ⟨_, rfl⟩
   obtain ⟨ve, hve⟩ : ∃ z : Int64, z = (-9223372036854775808 : Int64) := ⟨_, rfl⟩
   obtain ⟨mi, hmi⟩ : ∃ z : Int64, z = (-9223372036854775808 : Int64) := ⟨_, rfl⟩
   refine GoW.st (fun t k => by rw [hva, hvb, hvc, hvd, hve, hmi] at k; exact k) ?_ (u := s₁.setTop (mkF m 99 (Sh18 q1 q2 q3 q4 q5 q6 3 4 mi va vb vc vd ve) []))
   show GoW p e below s (ValQ (.int (1 : Int32)) n0) room_1.cells room_1.slots (s₁.setTop (mkF m 99 (Sh18 q1 q2 q3 q4 q5 q6 3 4 mi va vb vc vd ve) []))
   obtain ⟨T1116, h1116, X1116, e1116, E1116, A1116, D1116, -, st1116⟩ := newO X0 hx hZ hown (ww hw 1 rfl) (ww hw 2 rfl) (ww hw 3 rfl) e0 (g := (mkF m 99 (Sh18 q1 q2 q3 q4 q5 q6 3 4 mi va vb vc vd ve) [])) rfl (B at_99) (by decide) (by decide)
   obtain ⟨b1116, g1116⟩ : ∃ z, z = h0.size := ⟨_, rfl⟩
   rw [← g1116] at A1116 D1116 st1116
   have g_b1116 : n0 ≤ b1116 := Nat.le_trans Z0 (Nat.le_of_eq g1116.symm)
   have f1116_69 := Nat.le_trans Z0 E1116.1
   have F1116heap : Fld Z h1116 b1116 HSn "heap" "[D" .null := D1116 (Or.inr (ww hw 12 rfl)) (ty := (.array .double)) (by decide)
   have F1116size : Fld Z h1116 b1116 HSn "size" "I" (.int (0 : Int32)) := D1116 (Or.inl (ww hw 19 rfl)) (ty := .int) (by decide)
   refine GoW.sg (mkF m 102 (Sh18 q1 q2 q3 q4 q5 q6 3 4 mi va vb vc vd ve) [(.ref b1116)]) (fun t k => st1116 t k) ?_
   refine GoW.sg (mkF m 105 (Sh18 q1 q2 q3 q4 q5 q6 3 4 mi va vb vc vd ve) [(.int 3), (.ref b1116), (.ref b1116)]) (fun t k => XS.dup X1116.here hx rfl (B at_102) rfl rfl (XS.iload X1116.here hx rfl (B at_103) rfl k)) ?_
   obtain ⟨_, T1117, L1117, X1117, hQ1117, st1117⟩ := own_spec X1116 hx hZ (y := Y1) rfl hown (ww hw 4 rfl) (ww hw 5 rfl) (ww hw 3 rfl) (ww hw 6 rfl) (by decide) 1 (a := b1116) (rm1_37 l Z a0 hw b1116 h1116 n0 f1116_69 A1116 F1116heap F1116size g_b1116 ) (by decide) (by decide) e1116 (by decide) (by decide) (g := (mkF m 105 (Sh18 q1 q2 q3 q4 q5 q6 3 4 mi va vb vc vd ve) [(.int 3), (.ref b1116), (.ref b1116)])) rfl (by rw [hml]; rfl) (argsL := [(.int (3 : Int32))]) (rest := [(.ref b1116)]) (lenOf pd_28I29V rfl) rfl (Nat.le_of_eq rfl) (B at_105)
   obtain ⟨b1117_e0, k1117_ke0, rfl, N1117q, K1117, p1117_0, p1117_1, p1117_2, p1117_3, hz_b1117_e0⟩ := hQ1117
   have g_b1117_e0 : n0 ≤ b1117_e0 := Nat.le_trans f1116_69 hz_b1117_e0
   have ne_b1116_b1117_e0 : b1116 ≠ b1117_e0 := Nat.ne_of_lt (Nat.lt_of_lt_of_le A1116.lt hz_b1117_e0)
   have N1117 := Fr.app N0 N1117q
   refine GoW.sg (mkF m 108 (Sh18 q1 q2 q3 q4 q5 q6 3 4 mi va vb vc vd ve) [(.ref b1116)]) (fun t k => st1117 t k) ?_
   refine GoW.sg (mkF m 118 (Sh19 q1 q2 q3 q4 q5 q6 3 4 mi va vb vc vd ve b1116) [(.int q2), (.ref b1116)]) (fun t k => XS.astore X1117.here hx rfl (B at_108) rfl rfl (l' := (Sh19 q1 q2 q3 q4 q5 q6 3 4 mi va vb vc vd ve b1116)) rfl (XS.iload X1117.here hx rfl (B at_110) rfl (XS.ifNo X1117.here hx rfl (B at_112) rfl (by decide) (XS.aload X1117.here hx rfl (B at_115) rfl rfl (XS.iloadN X1117.here hx rfl (B at_117) rfl k))))) ?_
   obtain ⟨d1118, hd1118⟩ : ∃ d : UInt64, d = FP.l2d q2.toInt64 := ⟨_, rfl⟩
   refine GoW.sg (mkF m 119 (Sh19 q1 q2 q3 q4 q5 q6 3 4 mi va vb vc vd ve b1116) [(.double d1118), (.ref b1116)]) (fun t k => XS.i2dS X1117.here hx rfl (B at_118) rfl (v := d1118) ((i2d_w _).trans hd1118.symm) k) ?_
   obtain ⟨_, T1119, L1119, X1119, hQ1119, st1119⟩ := own_virt X1117 hx hZ (y := Y4) hown (ww hw 22 rfl) (ww hw 23 rfl) (ww hw 25 rfl) (ww hw 24 rfl) (ww hw 26 rfl) (ww hw 3 rfl) (by decide) 0 (a := b1116) (rmO30 l Z a0 hw b1116 d1118 q2 b1117_e0 k1117_ke0 T1117.heap n0 p1117_0 p1117_2 p1117_1 p1117_3 g_b1116 g_b1117_e0 ne_b1116_b1117_e0 hd1118 trivial) (by decide) (by decide) rfl p1117_0 (by decide) (by decide) (g := (mkF m 119 (Sh19 q1 q2 q3 q4 q5 q6 3 4 mi va vb vc vd ve b1116) [(.double d1118), (.ref b1116)])) rfl (by rw [hml]; rfl) (argsL := [(.double d1118)]) (rest := []) (lenOf pd_28D29V rfl) rfl (Nat.le_of_eq rfl) (B at_119)
   obtain ⟨k1119_w0, k1119_f0, rfl, N1119q, K1119, p1119_0, p1119_1, p1119_2, p1119_3, LQ1119⟩ := hQ1119
   have N1119 := Fr.app N1117 N1119q
   refine GoW.sg (mkF m 122 (Sh19 q1 q2 q3 q4 q5 q6 3 4 mi va vb vc vd ve b1116) []) (fun t k => st1119 t k) ?_
   obtain ⟨hf1119_0, hH1119, hR1119⟩ := LQ1119
   have A1119 : ∀ z : Int, cn z k1119_w0 = cn z q2 := fun z => by have _a := hR1119 z; have _c := own_cn z q2; omega
   refine GoW.sg (mkF m 131 (Sh19 q1 q2 q3 q4 q5 q6 3 4 mi va vb vc vd ve b1116) [(.int q3), (.ref b1116)]) (fun t k => XS.iload X1119.here hx rfl (B at_122) rfl (XS.iconst X1119.here hx rfl (B at_124) (XS.icmpNo X1119.here hx rfl (B at_125) rfl (by decide) (XS.aload X1119.here hx rfl (B at_128) rfl rfl (XS.iloadN X1119.here hx rfl (B at_130) rfl k))))) ?_
   obtain ⟨d1120, hd1120⟩ : ∃ d : UInt64, d = FP.l2d q3.toInt64 := ⟨_, rfl⟩
   refine GoW.sg (mkF m 132 (Sh19 q1 q2 q3 q4 q5 q6 3 4 mi va vb vc vd ve b1116) [(.double d1120), (.ref b1116)]) (fun t k => XS.i2dS X1119.here hx rfl (B at_131) rfl (v := d1120) ((i2d_w _).trans hd1120.symm) k) ?_
   obtain ⟨_, T1121, L1121, X1121, hQ1121, st1121⟩ := own_virt X1119 hx hZ (y := Y4) hown (ww hw 22 rfl) (ww hw 23 rfl) (ww hw 25 rfl) (ww hw 24 rfl) (ww hw 26 rfl) (ww hw 3 rfl) (by decide) 0 (a := b1116) (rmO31 l Z a0 hw b1116 d1120 q3 k1119_w0 k1119_f0 b1117_e0 k1117_ke0 T1119.heap n0 p1119_0 p1119_1 p1119_2 p1119_3 g_b1116 g_b1117_e0 ne_b1116_b1117_e0 hf1119_0 hd1120 hH1119) (by decide) (by decide) rfl p1119_0 (by decide) (by decide) (g := (mkF m 132 (Sh19 q1 q2 q3 q4 q5 q6 3 4 mi va vb vc vd ve b1116) [(.double d1120), (.ref b1116)])) rfl (by rw [hml]; rfl) (argsL := [(.double d1120)]) (rest := []) (lenOf pd_28D29V rfl) rfl (Nat.le_of_eq rfl) (B at_132)
   obtain ⟨k1121_w0, k1121_w1, k1121_f0, k1121_f1, rfl, N1121q, K1121, p1121_0, p1121_1, p1121_2, p1121_3, LQ1121⟩ := hQ1121
   have N1121 := Fr.app N1119 N1121q
   refine GoW.sg (mkF m 135 (Sh19 q1 q2 q3 q4 q5 q6 3 4 mi va vb vc vd ve b1116) []) (fun t k => st1121 t k) ?_
   obtain ⟨hf1121_0, hf1121_1, hH1121, hR1121⟩ := LQ1121
   have A1121 : ∀ z : Int, cn z k1121_w0 + cn z k1121_w1 = cn z q2 + cn z q3 := fun z => by have _a := hR1121 z; have _b := A1119 z; have _c := own_cn z q3; omega
   refine GoW.sg (mkF m 144 (Sh19 q1 q2 q3 q4 q5 q6 3 4 mi va vb vc vd ve b1116) [(.int q4), (.ref b1116)]) (fun t k => XS.iload X1121.here hx rfl (B at_135) rfl (XS.iconst X1121.here hx rfl (B at_137) (XS.icmpNo X1121.here hx rfl (B at_138) rfl (by decide) (XS.aload X1121.here hx rfl (B at_141) rfl rfl (XS.iloadN X1121.here hx rfl (B at_143) rfl k))))) ?_
   obtain ⟨d1122, hd1122⟩ : ∃ d : UInt64, d = FP.l2d q4.toInt64 := ⟨_, rfl⟩
   refine GoW.sg (mkF m 145 (Sh19 q1 q2 q3 q4 q5 q6 3 4 mi va vb vc vd ve b1116) [(.double d1122), (.ref b1116)]) (fun t k => XS.i2dS X1121.here hx rfl (B at_144) rfl (v := d1122) ((i2d_w _).trans hd1122.symm) k) ?_
   obtain ⟨_, T1123, L1123, X1123, hQ1123, st1123⟩ := own_virt X1121 hx hZ (y := Y4) hown (ww hw 22 rfl) (ww hw 23 rfl) (ww hw 25 rfl) (ww hw 24 rfl) (ww hw 26 rfl) (ww hw 3 rfl) (by decide) 0 (a := b1116) (rmO32 l Z a0 hw b1116 d1122 q4 k1121_w0 k1121_w1 k1121_f0 k1121_f1 b1117_e0 k1117_ke0 T1121.heap n0 p1121_0 p1121_1 p1121_2 p1121_3 g_b1116 g_b1117_e0 ne_b1116_b1117_e0 hf1121_0 hf1121_1 hd1122 hH1121) (by decide) (by decide) rfl p1121_0 (by decide) (by decide) (g := (mkF m 145 (Sh19 q1 q2 q3 q4 q5 q6 3 4 mi va vb vc vd ve b1116) [(.double d1122), (.ref b1116)])) rfl (by rw [hml]; rfl) (argsL := [(.double d1122)]) (rest := []) (lenOf pd_28D29V rfl) rfl (Nat.le_of_eq rfl) (B at_145)
   obtain ⟨k1123_w0, k1123_w1, k1123_w2, k1123_f0, k1123_f1, k1123_f2, rfl, N1123q, K1123, p1123_0, p1123_1, p1123_2, p1123_3, LQ1123⟩ := hQ1123
   have N1123 := Fr.app N1121 N1123q
   refine GoW.sg (mkF m 148 (Sh19 q1 q2 q3 q4 q5 q6 3 4 mi va vb vc vd ve b1116) []) (fun t k => st1123 t k) ?_
   obtain ⟨hf1123_0, hf1123_1, hf1123_2, hH1123, hR1123⟩ := LQ1123
   have A1123 : ∀ z : Int, cn z k1123_w0 + cn z k1123_w1 + cn z k1123_w2 = cn z q2 + cn z q3 + cn z q4 := fun z => by have _a := hR1123 z; have _b := A1121 z; have _c := own_cn z q4; omega
   refine GoW.sg (mkF m 158 (Sh19 q1 q2 q3 q4 q5 q6 3 4 mi va vb vc vd ve b1116) [(.int q5), (.ref b1116)]) (fun t k => XS.iload X1123.here hx rfl (B at_148) rfl (XS.iconst X1123.here hx rfl (B at_150) (XS.icmpNo X1123.here hx rfl (B at_151) rfl (by decide) (XS.aload X1123.here hx rfl (B at_154) rfl rfl (XS.iload X1123.here hx rfl (B at_156) rfl k))))) ?_
   obtain ⟨d1124, hd1124⟩ : ∃ d : UInt64, d = FP.l2d q5.toInt64 := ⟨_, rfl⟩
   refine GoW.sg (mkF m 159 (Sh19 q1 q2 q3 q4 q5 q6 3 4 mi va vb vc vd ve b1116) [(.double d1124), (.ref b1116)]) (fun t k => XS.i2dS X1123.here hx rfl (B at_158) rfl (v := d1124) ((i2d_w _).trans hd1124.symm) k) ?_
   obtain ⟨_, T1125, L1125, X1125, hQ1125, st1125⟩ := own_virt X1123 hx hZ (y := Y4) hown (ww hw 22 rfl) (ww hw 23 rfl) (ww hw 25 rfl) (ww hw 24 rfl) (ww hw 26 rfl) (ww hw 3 rfl) (by decide) 0 (a := b1116) (rmO33 l Z a0 hw b1116 d1124 q5 k1123_w0 k1123_w1 k1123_w2 k1123_f0 k1123_f1 k1123_f2 b1117_e0 k1117_ke0 T1123.heap n0 p1123_0 p1123_1 p1123_2 p1123_3 g_b1116 g_b1117_e0 ne_b1116_b1117_e0 hf1123_0 hf1123_1 hf1123_2 hd1124 hH1123) (by decide) (by decide) rfl p1123_0 (by decide) (by decide) (g := (mkF m 159 (Sh19 q1 q2 q3 q4 q5 q6 3 4 mi va vb vc vd ve b1116) [(.double d1124), (.ref b1116)])) rfl (by rw [hml]; rfl) (argsL := [(.double d1124)]) (rest := []) (lenOf pd_28D29V rfl) rfl (Nat.le_of_eq rfl) (B at_159)
   obtain ⟨k1125_w0, k1125_w1, k1125_w2, k1125_f0, k1125_f1, k1125_f2, rfl, N1125q, K1125, p1125_0, p1125_1, p1125_2, p1125_3, LQ1125⟩ := hQ1125
   have N1125 := Fr.app N1123 N1125q
   refine GoW.sg (mkF m 162 (Sh19 q1 q2 q3 q4 q5 q6 3 4 mi va vb vc vd ve b1116) []) (fun t k => st1125 t k) ?_
   obtain ⟨hf1125_0, hf1125_1, hf1125_2, hH1125, hR1125⟩ := LQ1125
   have A1125 : ∀ z : Int, cn z k1125_w0 + cn z k1125_w1 + cn z k1125_w2 = min 3 (cn z q2 + cn z q3 + cn z q4 + cn z q5) := fun z => by have _a := hR1125 z; have _b := A1123 z; have _c := own_cn z q5; omega
   refine GoW.sg (mkF m 178 (Sh19 q1 q2 q3 q4 q5 q6 3 4 mi va vb vc vd ve b1116) [(.ref b1116)]) (fun t k => XS.iload X1125.here hx rfl (B at_162) rfl (XS.iconst X1125.here hx rfl (B at_164) (XS.icmpYes X1125.here hx rfl (pc0 := 165) (pc' := 176) rfl (B at_165) rfl (by decide) (by decide) (by decide) (XS.aload X1125.here hx rfl (B at_176) rfl rfl k)))) ?_
   obtain ⟨_, T1126, L1126, X1126, hQ1126, st1126⟩ := own_virt X1125 hx hZ (y := Y3) hown (ww hw 13 rfl) (ww hw 14 rfl) (ww hw 16 rfl) (ww hw 15 rfl) (ww hw 17 rfl) (ww hw 3 rfl) (by decide) 0 (a := b1116) (rm3_41 l Z a0 hw b1116 b1117_e0 k1117_ke0 k1125_f0 k1125_f1 k1125_f2 k1125_w0 k1125_w1 k1125_w2 T1125.heap n0 p1125_2 p1125_1 p1125_3 hf1125_0 hf1125_1 hf1125_2 ) (by decide) (by decide) rfl p1125_0 (by decide) (by decide) (g := (mkF m 178 (Sh19 q1 q2 q3 q4 q5 q6 3 4 mi va vb vc vd ve b1116) [(.ref b1116)])) rfl (by rw [hml]; rfl) (argsL := []) (rest := []) (lenOf pd_2829D rfl) rfl (Nat.le_of_eq rfl) (B at_178)
   obtain ⟨rfl, N1126q, e1126⟩ := hQ1126
   have N1126 := Fr.app N1125 N1126q
   refine GoW.sg (mkF m 181 (Sh19 q1 q2 q3 q4 q5 q6 3 4 mi va vb vc vd ve b1116) [(.double k1125_f0)]) (fun t k => st1126 t k) ?_
   refine GoW.sg (mkF m 205 (Sh10 q1 q2 q3 q4 q5 q6 3 4 mi va vb vc vd ve b1116 k1125_f0) []) (fun t k => XS.dstore X1126.here hx rfl (B at_181) rfl (l' := (Sh10 q1 q2 q3 q4 q5 q6 3 4 mi va vb vc vd ve b1116 k1125_f0)) rfl (XS.iload X1126.here hx rfl (B at_183) rfl (XS.iload X1126.here hx rfl (B at_185) rfl (XS.icmpYes X1126.here hx rfl (pc0 := 187) (pc' := 205) rfl (B at_187) rfl (by decide) (by decide) (by decide) k)))) ?_
   exact J _ _ _ _ _ _ _ _ _ _ _ _ k1125_w0 X1126 e1126 N1126 hf1125_0 (fun r1 r2 r3 r4 r5 h1 h2 h3 h4 h5 => by subst hva hvb hvc hvd hve hmi; exact own_fin34 h1 h2 h3 h4 h5 hH1125 A1125)
  ·rw [vv]
   show GoW p e below s (ValQ (.int (1 : Int32)) n0) room_1.cells room_1.slots (s₁.setTop (mkF m 18 (Sh12 q1 q2 q3 q4 q5 q6 3 5) []))
   refine GoW.sg (mkF m 21 (Sh12 q1 q2 q3 q4 q5 q6 3 5) [(.long (-9223372036854775808))]) (fun t k => X0.ldc2Long hx hown (mvT hZ (ww hw 0 rfl)) (g := (mkF m 18 (Sh12 q1 q2 q3 q4 q5 q6 3 5) [])) rfl (B at_18) t k) ?_
   refine GoW.sg (mkF m 39 (Sh14 q1 q2 q3 q4 q5 q6 3 5 (-9223372036854775808) (Int32.toInt64 q2)) [(.int 5)]) (fun t k => XS.lstore X0.here hx rfl (B at_21) rfl (l' := (Sh13 q1 q2 q3 q4 q5 q6 3 5 (-9223372036854775808))) rfl (XS.iload X0.here hx rfl (B at_23) rfl (XS.ifNo X0.here hx rfl (B at_25) rfl (by decide) (XS.iloadN X0.here hx rfl (B at_28) rfl (XS.i2l X0.here hx rfl (B at_29) rfl (XS.goto X0.here hx rfl (pc0 := 30) (pc' := 35) rfl (B at_30) (by decide) (by decide) (XS.lstore X0.here hx rfl (B at_35) rfl (l' := (Sh14 q1 q2 q3 q4 q5 q6 3 5 (-9223372036854775808) (Int32.toInt64 q2))) rfl (XS.iload X0.here hx rfl (B at_37) rfl k)))))))) ?_
   refine GoW.sg (mkF m 55 (Sh15 q1 q2 q3 q4 q5 q6 3 5 (-9223372036854775808) (Int32.toInt64 q2) (Int32.toInt64 q3)) [(.int 2), (.int 5)]) (fun t k => XS.iconst X0.here hx rfl (B at_39) (XS.icmpNo X0.here hx rfl (B at_40) rfl (by decide) (XS.iloadN X0.here hx rfl (B at_43) rfl (XS.i2l X0.here hx rfl (B at_44) rfl (XS.goto X0.here hx rfl (pc0 := 45) (pc' := 50) rfl (B at_45) (by decide) (by decide) (XS.lstore X0.here hx rfl (B at_50) rfl (l' := (Sh15 q1 q2 q3 q4 q5 q6 3 5 (-9223372036854775808) (Int32.toInt64 q2) (Int32.toInt64 q3))) rfl (XS.iload X0.here hx rfl (B at_52) rfl (XS.iconst X0.here hx rfl (B at_54) k)))))))) ?_
   refine GoW.sg (mkF m 73 (Sh16 q1 q2 q3 q4 q5 q6 3 5 (-9223372036854775808) (Int32.toInt64 q2) (Int32.toInt64 q3) (Int32.toInt64 q4)) []) (fun t k => XS.icmpNo X0.here hx rfl (B at_55) rfl (by decide) (XS.iloadN X0.here hx rfl (B at_58) rfl (XS.i2l X0.here hx rfl (B at_59) rfl (XS.goto X0.here hx rfl (pc0 := 60) (pc' := 65) rfl (B at_60) (by decide) (by decide) (XS.lstore X0.here hx rfl (B at_65) rfl (l' := (Sh16 q1 q2 q3 q4 q5 q6 3 5 (-9223372036854775808) (Int32.toInt64 q2) (Int32.toInt64 q3) (Int32.toInt64 q4))) rfl (XS.iload X0.here hx rfl (B at_67) rfl (XS.iconst X0.here hx rfl (B at_69) (XS.icmpNo X0.here hx rfl (B at_70) rfl (by decide) k)))))))) ?_
   refine GoW.sg (mkF m 91 (Sh17 q1 q2 q3 q4 q5 q6 3 5 (-9223372036854775808) (Int32.toInt64 q2) (Int32.toInt64 q3) (Int32.toInt64 q4) (Int32.toInt64 q5)) [(.int q6)]) (fun t k => XS.iload X0.here hx rfl (B at_73) rfl (XS.i2l X0.here hx rfl (B at_75) rfl (XS.goto X0.here hx rfl (pc0 := 76) (pc' := 81) rfl (B at_76) (by decide) (by decide) (XS.lstore X0.here hx rfl (B at_81) rfl (l' := (Sh17 q1 q2 q3 q4 q5 q6 3 5 (-9223372036854775808) (Int32.toInt64 q2) (Int32.toInt64 q3) (Int32.toInt64 q4) (Int32.toInt64 q5))) rfl (XS.iload X0.here hx rfl (B at_83) rfl (XS.iconst X0.here hx rfl (B at_85) (XS.icmpNo X0.here hx rfl (B at_86) rfl (by decide) (XS.iload X0.here hx rfl (B at_89) rfl k)))))))) ?_
   refine GoW.sg (mkF m 99 (Sh18 q1 q2 q3 q4 q5 q6 3 5 (-9223372036854775808) (Int32.toInt64 q2) (Int32.toInt64 q3) (Int32.toInt64 q4) (Int32.toInt64 q5) (Int32.toInt64 q6)) []) (fun t k => XS.i2l X0.here hx rfl (B at_91) rfl (XS.goto X0.here hx rfl (pc0 := 92) (pc' := 97) rfl (B at_92) (by decide) (by decide) (XS.lstore X0.here hx rfl (B at_97) rfl (l' := (Sh18 q1 q2 q3 q4 q5 q6 3 5 (-9223372036854775808) (Int32.toInt64 q2) (Int32.toInt64 q3) (Int32.toInt64 q4) (Int32.toInt64 q5) (Int32.toInt64 q6))) rfl k))) ?_
   obtain ⟨va, hva⟩ : ∃ z : Int64, z = (Int32.toInt64 q2) := ⟨_, rfl⟩
   obtain ⟨vb, hvb⟩ : ∃ z : Int64, z = (Int32.toInt64 q3) := ⟨_, rfl⟩
   obtain ⟨vc, hvc⟩ : ∃ z : Int64, z = (Int32.toInt64 q4) := ⟨_, rfl⟩
   obtain ⟨vd, hvd⟩ : ∃ z : Int64, z = (Int32.toInt64 q5) := ⟨_, rfl⟩
   obtain ⟨ve, hve⟩ : ∃ z : Int64, z = (Int32.toInt64 q6) := ⟨_, rfl⟩
   obtain ⟨mi, hmi⟩ : ∃ z : Int64, z = (-9223372036854775808 : Int64) := ⟨_, rfl⟩
   refine GoW.st (fun t k => by rw [hva, hvb, hvc, hvd, hve, hmi] at k; exact k) ?_ (u := s₁.setTop (mkF m 99 (Sh18 q1 q2 q3 q4 q5 q6 3 5 mi va vb vc vd ve) []))
   show GoW p e below s (ValQ (.int (1 : Int32)) n0) room_1.cells room_1.slots (s₁.setTop (mkF m 99 (Sh18 q1 q2 q3 q4 q5 q6 3 5 mi va vb vc vd ve) []))
   obtain ⟨T1127, h1127, X1127, e1127, E1127, A1127, D1127, -, st1127⟩ := newO X0 hx hZ hown (ww hw 1 rfl) (ww hw 2 rfl) (ww hw 3 rfl) e0 (g := (mkF m 99 (Sh18 q1 q2 q3 q4 q5 q6 3 5 mi va vb vc vd ve) [])) rfl (B at_99) (by decide) (by decide)
   obtain ⟨b1127, g1127⟩ : ∃ z, z = h0.size := ⟨_, rfl⟩
   rw [← g1127] at A1127 D1127 st1127
   have g_b1127 : n0 ≤ b1127 := Nat.le_trans Z0 (Nat.le_of_eq g1127.symm)
   have f1127_75 := Nat.le_trans Z0 E1127.1
   have F1127heap : Fld Z h1127 b1127 HSn "heap" "[D" .null := D1127 (Or.inr (ww hw 12 rfl)) (ty := (.array .double)) (by decide)
   have F1127size : Fld Z h1127 b1127 HSn "size" "I" (.int (0 : Int32)) := D1127 (Or.inl (ww hw 19 rfl)) (ty := .int) (by decide)
   refine GoW.sg (mkF m 102 (Sh18 q1 q2 q3 q4 q5 q6 3 5 mi va vb vc vd ve) [(.ref b1127)]) (fun t k => st1127 t k) ?_
   refine GoW.sg (mkF m 105 (Sh18 q1 q2 q3 q4 q5 q6 3 5 mi va vb vc vd ve) [(.int 3), (.ref b1127), (.ref b1127)]) (fun t k => XS.dup X1127.here hx rfl (B at_102) rfl rfl (XS.iload X1127.here hx rfl (B at_103) rfl k)) ?_
   obtain ⟨_, T1128, L1128, X1128, hQ1128, st1128⟩ := own_spec X1127 hx hZ (y := Y1) rfl hown (ww hw 4 rfl) (ww hw 5 rfl) (ww hw 3 rfl) (ww hw 6 rfl) (by decide) 1 (a := b1127) (rm1_37 l Z a0 hw b1127 h1127 n0 f1127_75 A1127 F1127heap F1127size g_b1127 ) (by decide) (by decide) e1127 (by decide) (by decide) (g := (mkF m 105 (Sh18 q1 q2 q3 q4 q5 q6 3 5 mi va vb vc vd ve) [(.int 3), (.ref b1127), (.ref b1127)])) rfl (by rw [hml]; rfl) (argsL := [(.int (3 : Int32))]) (rest := [(.ref b1127)]) (lenOf pd_28I29V rfl) rfl (Nat.le_of_eq rfl) (B at_105)
   obtain ⟨b1128_e0, k1128_ke0, rfl, N1128q, K1128, p1128_0, p1128_1, p1128_2, p1128_3, hz_b1128_e0⟩ := hQ1128
   have g_b1128_e0 : n0 ≤ b1128_e0 := Nat.le_trans f1127_75 hz_b1128_e0
   have ne_b1127_b1128_e0 : b1127 ≠ b1128_e0 := Nat.ne_of_lt (Nat.lt_of_lt_of_le A1127.lt hz_b1128_e0)
   have N1128 := Fr.app N0 N1128q
   refine GoW.sg (mkF m 108 (Sh18 q1 q2 q3 q4 q5 q6 3 5 mi va vb vc vd ve) [(.ref b1127)]) (fun t k => st1128 t k) ?_
   refine GoW.sg (mkF m 118 (Sh19 q1 q2 q3 q4 q5 q6 3 5 mi va vb vc vd ve b1127) [(.int q2), (.ref b1127)]) (fun t k => XS.astore X1128.here hx rfl (B at_108) rfl rfl (l' := (Sh19 q1 q2 q3 q4 q5 q6 3 5 mi va vb vc vd ve b1127)) rfl (XS.iload X1128.here hx rfl (B at_110) rfl (XS.ifNo X1128.here hx rfl (B at_112) rfl (by decide) (XS.aload X1128.here hx rfl (B at_115) rfl rfl (XS.iloadN X1128.here hx rfl (B at_117) rfl k))))) ?_
   obtain ⟨d1129, hd1129⟩ : ∃ d : UInt64, d = FP.l2d q2.toInt64 := ⟨_, rfl⟩
   refine GoW.sg (mkF m 119 (Sh19 q1 q2 q3 q4 q5 q6 3 5 mi va vb vc vd ve b1127) [(.double d1129), (.ref b1127)]) (fun t k => XS.i2dS X1128.here hx rfl (B at_118) rfl (v := d1129) ((i2d_w _).trans hd1129.symm) k) ?_
   obtain ⟨_, T1130, L1130, X1130, hQ1130, st1130⟩ := own_virt X1128 hx hZ (y := Y4) hown (ww hw 22 rfl) (ww hw 23 rfl) (ww hw 25 rfl) (ww hw 24 rfl) (ww hw 26 rfl) (ww hw 3 rfl) (by decide) 0 (a := b1127) (rmO30 l Z a0 hw b1127 d1129 q2 b1128_e0 k1128_ke0 T1128.heap n0 p1128_0 p1128_2 p1128_1 p1128_3 g_b1127 g_b1128_e0 ne_b1127_b1128_e0 hd1129 trivial) (by decide) (by decide) rfl p1128_0 (by decide) (by decide) (g := (mkF m 119 (Sh19 q1 q2 q3 q4 q5 q6 3 5 mi va vb vc vd ve b1127) [(.double d1129), (.ref b1127)])) rfl (by rw [hml]; rfl) (argsL := [(.double d1129)]) (rest := []) (lenOf pd_28D29V rfl) rfl (Nat.le_of_eq rfl) (B at_119)
   obtain ⟨k1130_w0, k1130_f0, rfl, N1130q, K1130, p1130_0, p1130_1, p1130_2, p1130_3, LQ1130⟩ := hQ1130
   have N1130 := Fr.app N1128 N1130q
   refine GoW.sg (mkF m 122 (Sh19 q1 q2 q3 q4 q5 q6 3 5 mi va vb vc vd ve b1127) []) (fun t k => st1130 t k) ?_
   obtain ⟨hf1130_0, hH1130, hR1130⟩ := LQ1130
   have A1130 : ∀ z : Int, cn z k1130_w0 = cn z q2 := fun z => by have _a := hR1130 z; have _c := own_cn z q2; omega
   refine GoW.sg (mkF m 131 (Sh19 q1 q2 q3 q4 q5 q6 3 5 mi va vb vc vd ve b1127) [(.int q3), (.ref b1127)]) (fun t k => XS.iload X1130.here hx rfl (B at_122) rfl (XS.iconst X1130.here hx rfl (B at_124) (XS.icmpNo X1130.here hx rfl (B at_125) rfl (by decide) (XS.aload X1130.here hx rfl (B at_128) rfl rfl (XS.iloadN X1130.here hx rfl (B at_130) rfl k))))) ?_
   obtain ⟨d1131, hd1131⟩ : ∃ d : UInt64, d = FP.l2d q3.toInt64 := ⟨_, rfl⟩
   refine GoW.sg (mkF m 132 (Sh19 q1 q2 q3 q4 q5 q6 3 5 mi va vb vc vd ve b1127) [(.double d1131), (.ref b1127)]) (fun t k => XS.i2dS X1130.here hx rfl (B at_131) rfl (v := d1131) ((i2d_w _).trans hd1131.symm) k) ?_
   obtain ⟨_, T1132, L1132, X1132, hQ1132, st1132⟩ := own_virt X1130 hx hZ (y := Y4) hown (ww hw 22 rfl) (ww hw 23 rfl) (ww hw 25 rfl) (ww hw 24 rfl) (ww hw 26 rfl) (ww hw 3 rfl) (by decide) 0 (a := b1127) (rmO31 l Z a0 hw b1127 d1131 q3 k1130_w0 k1130_f0 b1128_e0 k1128_ke0 T1130.heap n0 p1130_0 p1130_1 p1130_2 p1130_3 g_b1127 g_b1128_e0 ne_b1127_b1128_e0 hf1130_0 hd1131 hH1130) (by decide) (by decide) rfl p1130_0 (by decide) (by decide) (g := (mkF m 132 (Sh19 q1 q2 q3 q4 q5 q6 3 5 mi va vb vc vd ve b1127) [(.double d1131), (.ref b1127)])) rfl (by rw [hml]; rfl) (argsL := [(.double d1131)]) (rest := []) (lenOf pd_28D29V rfl) rfl (Nat.le_of_eq rfl) (B at_132)
   obtain ⟨k1132_w0, k1132_w1, k1132_f0, k1132_f1, rfl, N1132q, K1132, p1132_0, p1132_1, p1132_2, p1132_3, LQ1132⟩ := hQ1132
   have N1132 := Fr.app N1130 N1132q
   refine GoW.sg (mkF m 135 (Sh19 q1 q2 q3 q4 q5 q6 3 5 mi va vb vc vd ve b1127) []) (fun t k => st1132 t k) ?_
   obtain ⟨hf1132_0, hf1132_1, hH1132, hR1132⟩ := LQ1132
   have A1132 : ∀ z : Int, cn z k1132_w0 + cn z k1132_w1 = cn z q2 + cn z q3 := fun z => by have _a := hR1132 z; have _b := A1130 z; have _c := own_cn z q3; omega
   refine GoW.sg (mkF m 144 (Sh19 q1 q2 q3 q4 q5 q6 3 5 mi va vb vc vd ve b1127) [(.int q4), (.ref b1127)]) (fun t k => XS.iload X1132.here hx rfl (B at_135) rfl (XS.iconst X1132.here hx rfl (B at_137) (XS.icmpNo X1132.here hx rfl (B at_138) rfl (by decide) (XS.aload X1132.here hx rfl (B at_141) rfl rfl (XS.iloadN X1132.here hx rfl (B at_143) rfl k))))) ?_
   obtain ⟨d1133, hd1133⟩ : ∃ d : UInt64, d = FP.l2d q4.toInt64 := ⟨_, rfl⟩
   refine GoW.sg (mkF m 145 (Sh19 q1 q2 q3 q4 q5 q6 3 5 mi va vb vc vd ve b1127) [(.double d1133), (.ref b1127)]) (fun t k => XS.i2dS X1132.here hx rfl (B at_144) rfl (v := d1133) ((i2d_w _).trans hd1133.symm) k) ?_
   obtain ⟨_, T1134, L1134, X1134, hQ1134, st1134⟩ := own_virt X1132 hx hZ (y := Y4) hown (ww hw 22 rfl) (ww hw 23 rfl) (ww hw 25 rfl) (ww hw 24 rfl) (ww hw 26 rfl) (ww hw 3 rfl) (by decide) 0 (a := b1127) (rmO32 l Z a0 hw b1127 d1133 q4 k1132_w0 k1132_w1 k1132_f0 k1132_f1 b1128_e0 k1128_ke0 T1132.heap n0 p1132_0 p1132_1 p1132_2 p1132_3 g_b1127 g_b1128_e0 ne_b1127_b1128_e0 hf1132_0 hf1132_1 hd1133 hH1132) (by decide) (by decide) rfl p1132_0 (by decide) (by decide) (g := (mkF m 145 (Sh19 q1 q2 q3 q4 q5 q6 3 5 mi va vb vc vd ve b1127) [(.double d1133), (.ref b1127)])) rfl (by rw [hml]; rfl) (argsL := [(.double d1133)]) (rest := []) (lenOf pd_28D29V rfl) rfl (Nat.le_of_eq rfl) (B at_145)
   obtain ⟨k1134_w0, k1134_w1, k1134_w2, k1134_f0, k1134_f1, k1134_f2, rfl, N1134q, K1134, p1134_0, p1134_1, p1134_2, p1134_3, LQ1134⟩ := hQ1134
   have N1134 := Fr.app N1132 N1134q
   refine GoW.sg (mkF m 148 (Sh19 q1 q2 q3 q4 q5 q6 3 5 mi va vb vc vd ve b1127) []) (fun t k => st1134 t k) ?_
   obtain ⟨hf1134_0, hf1134_1, hf1134_2, hH1134, hR1134⟩ := LQ1134
   have A1134 : ∀ z : Int, cn z k1134_w0 + cn z k1134_w1 + cn z k1134_w2 = cn z q2 + cn z q3 + cn z q4 := fun z => by have _a := hR1134 z; have _b := A1132 z; have _c := own_cn z q4; omega
   refine GoW.sg (mkF m 158 (Sh19 q1 q2 q3 q4 q5 q6 3 5 mi va vb vc vd ve b1127) [(.int q5), (.ref b1127)]) (fun t k => XS.iload X1134.here hx rfl (B at_148) rfl (XS.iconst X1134.here hx rfl (B at_150) (XS.icmpNo X1134.here hx rfl (B at_151) rfl (by decide) (XS.aload X1134.here hx rfl (B at_154) rfl rfl (XS.iload X1134.here hx rfl (B at_156) rfl k))))) ?_
   obtain ⟨d1135, hd1135⟩ : ∃ d : UInt64, d = FP.l2d q5.toInt64 := ⟨_, rfl⟩
   refine GoW.sg (mkF m 159 (Sh19 q1 q2 q3 q4 q5 q6 3 5 mi va vb vc vd ve b1127) [(.double d1135), (.ref b1127)]) (fun t k => XS.i2dS X1134.here hx rfl (B at_158) rfl (v := d1135) ((i2d_w _).trans hd1135.symm) k) ?_
   obtain ⟨_, T1136, L1136, X1136, hQ1136, st1136⟩ := own_virt X1134 hx hZ (y := Y4) hown (ww hw 22 rfl) (ww hw 23 rfl) (ww hw 25 rfl) (ww hw 24 rfl) (ww hw 26 rfl) (ww hw 3 rfl) (by decide) 0 (a := b1127) (rmO33 l Z a0 hw b1127 d1135 q5 k1134_w0 k1134_w1 k1134_w2 k1134_f0 k1134_f1 k1134_f2 b1128_e0 k1128_ke0 T1134.heap n0 p1134_0 p1134_1 p1134_2 p1134_3 g_b1127 g_b1128_e0 ne_b1127_b1128_e0 hf1134_0 hf1134_1 hf1134_2 hd1135 hH1134) (by decide) (by decide) rfl p1134_0 (by decide) (by decide) (g := (mkF m 159 (Sh19 q1 q2 q3 q4 q5 q6 3 5 mi va vb vc vd ve b1127) [(.double d1135), (.ref b1127)])) rfl (by rw [hml]; rfl) (argsL := [(.double d1135)]) (rest := []) (lenOf pd_28D29V rfl) rfl (Nat.le_of_eq rfl) (B at_159)
   obtain ⟨k1136_w0, k1136_w1, k1136_w2, k1136_f0, k1136_f1, k1136_f2, rfl, N1136q, K1136, p1136_0, p1136_1, p1136_2, p1136_3, LQ1136⟩ := hQ1136
   have N1136 := Fr.app N1134 N1136q
   refine GoW.sg (mkF m 162 (Sh19 q1 q2 q3 q4 q5 q6 3 5 mi va vb vc vd ve b1127) []) (fun t k => st1136 t k) ?_
   obtain ⟨hf1136_0, hf1136_1, hf1136_2, hH1136, hR1136⟩ := LQ1136
   have A1136 : ∀ z : Int, cn z k1136_w0 + cn z k1136_w1 + cn z k1136_w2 = min 3 (cn z q2 + cn z q3 + cn z q4 + cn z q5) := fun z => by have _a := hR1136 z; have _b := A1134 z; have _c := own_cn z q5; omega
   refine GoW.sg (mkF m 172 (Sh19 q1 q2 q3 q4 q5 q6 3 5 mi va vb vc vd ve b1127) [(.int q6), (.ref b1127)]) (fun t k => XS.iload X1136.here hx rfl (B at_162) rfl (XS.iconst X1136.here hx rfl (B at_164) (XS.icmpNo X1136.here hx rfl (B at_165) rfl (by decide) (XS.aload X1136.here hx rfl (B at_168) rfl rfl (XS.iload X1136.here hx rfl (B at_170) rfl k))))) ?_
   obtain ⟨d1137, hd1137⟩ : ∃ d : UInt64, d = FP.l2d q6.toInt64 := ⟨_, rfl⟩
   refine GoW.sg (mkF m 173 (Sh19 q1 q2 q3 q4 q5 q6 3 5 mi va vb vc vd ve b1127) [(.double d1137), (.ref b1127)]) (fun t k => XS.i2dS X1136.here hx rfl (B at_172) rfl (v := d1137) ((i2d_w _).trans hd1137.symm) k) ?_
   obtain ⟨_, T1138, L1138, X1138, hQ1138, st1138⟩ := own_virt X1136 hx hZ (y := Y4) hown (ww hw 22 rfl) (ww hw 23 rfl) (ww hw 25 rfl) (ww hw 24 rfl) (ww hw 26 rfl) (ww hw 3 rfl) (by decide) 0 (a := b1127) (rmO33 l Z a0 hw b1127 d1137 q6 k1136_w0 k1136_w1 k1136_w2 k1136_f0 k1136_f1 k1136_f2 b1128_e0 k1128_ke0 T1136.heap n0 p1136_0 p1136_1 p1136_2 p1136_3 g_b1127 g_b1128_e0 ne_b1127_b1128_e0 hf1136_0 hf1136_1 hf1136_2 hd1137 hH1136) (by decide) (by decide) rfl p1136_0 (by decide) (by decide) (g := (mkF m 173 (Sh19 q1 q2 q3 q4 q5 q6 3 5 mi va vb vc vd ve b1127) [(.double d1137), (.ref b1127)])) rfl (by rw [hml]; rfl) (argsL := [(.double d1137)]) (rest := []) (lenOf pd_28D29V rfl) rfl (Nat.le_of_eq rfl) (B at_173)
   obtain ⟨k1138_w0, k1138_w1, k1138_w2, k1138_f0, k1138_f1, k1138_f2, rfl, N1138q, K1138, p1138_0, p1138_1, p1138_2, p1138_3, LQ1138⟩ := hQ1138
   have N1138 := Fr.app N1136 N1138q
   refine GoW.sg (mkF m 176 (Sh19 q1 q2 q3 q4 q5 q6 3 5 mi va vb vc vd ve b1127) []) (fun t k => st1138 t k) ?_
   obtain ⟨hf1138_0, hf1138_1, hf1138_2, hH1138, hR1138⟩ := LQ1138
   have A1138 : ∀ z : Int, cn z k1138_w0 + cn z k1138_w1 + cn z k1138_w2 = min 3 (cn z q2 + cn z q3 + cn z q4 + cn z q5 + cn z q6) := fun z => by have _a := hR1138 z; have _b := A1136 z; have _c := own_cn z q6; omega
   refine GoW.sg (mkF m 178 (Sh19 q1 q2 q3 q4 q5 q6 3 5 mi va vb vc vd ve b1127) [(.ref b1127)]) (fun t k => XS.aload X1138.here hx rfl (B at_176) rfl rfl k) ?_
   obtain ⟨_, T1139, L1139, X1139, hQ1139, st1139⟩ := own_virt X1138 hx hZ (y := Y3) hown (ww hw 13 rfl) (ww hw 14 rfl) (ww hw 16 rfl) (ww hw 15 rfl) (ww hw 17 rfl) (ww hw 3 rfl) (by decide) 0 (a := b1127) (rm3_41 l Z a0 hw b1127 b1128_e0 k1128_ke0 k1138_f0 k1138_f1 k1138_f2 k1138_w0 k1138_w1 k1138_w2 T1138.heap n0 p1138_2 p1138_1 p1138_3 hf1138_0 hf1138_1 hf1138_2 ) (by decide) (by decide) rfl p1138_0 (by decide) (by decide) (g := (mkF m 178 (Sh19 q1 q2 q3 q4 q5 q6 3 5 mi va vb vc vd ve b1127) [(.ref b1127)])) rfl (by rw [hml]; rfl) (argsL := []) (rest := []) (lenOf pd_2829D rfl) rfl (Nat.le_of_eq rfl) (B at_178)
   obtain ⟨rfl, N1139q, e1139⟩ := hQ1139
   have N1139 := Fr.app N1138 N1139q
   refine GoW.sg (mkF m 181 (Sh19 q1 q2 q3 q4 q5 q6 3 5 mi va vb vc vd ve b1127) [(.double k1138_f0)]) (fun t k => st1139 t k) ?_
   refine GoW.sg (mkF m 205 (Sh10 q1 q2 q3 q4 q5 q6 3 5 mi va vb vc vd ve b1127 k1138_f0) []) (fun t k => XS.dstore X1139.here hx rfl (B at_181) rfl (l' := (Sh10 q1 q2 q3 q4 q5 q6 3 5 mi va vb vc vd ve b1127 k1138_f0)) rfl (XS.iload X1139.here hx rfl (B at_183) rfl (XS.iload X1139.here hx rfl (B at_185) rfl (XS.icmpYes X1139.here hx rfl (pc0 := 187) (pc' := 205) rfl (B at_187) rfl (by decide) (by decide) (by decide) k)))) ?_
   exact J _ _ _ _ _ _ _ _ _ _ _ _ k1138_w0 X1139 e1139 N1139 hf1138_0 (fun r1 r2 r3 r4 r5 h1 h2 h3 h4 h5 => by subst hva hvb hvc hvd hve hmi; exact own_fin35 h1 h2 h3 h4 h5 hH1138 A1138)
 ·rw [vv]
  show GoW p e below s (ValQ (.int (1 : Int32)) n0) room_1.cells room_1.slots (s₁.setTop (mkF m 7 (Sh9 q1 q2 q3 q4 q5 q6 4) []))
  refine GoW.sg (mkF m 10 (Sh9 q1 q2 q3 q4 q5 q6 4) [(.int (q1.toUInt32 >>> ((2 : Int32) &&& 31).toUInt32).toInt32)]) (fun t k => XS.iloadN X0.here hx rfl (B at_7) rfl (XS.iconst X0.here hx rfl (B at_8) (XS.iushr X0.here hx rfl (B at_9) rfl k))) ?_
  have J : ∀ (Tj : State) (Lj : List Loc) (hj : Heap) (nn : Int32) (mi va vb vc vd ve : Int64) (bb : Addr) (f0 : UInt64) (w0 : Int32), Stand p l e room_1 s m #[(.int q1), (.int q2), (.int q3), (.int q4), (.int q5), (.int q6)] below meth c Tj Lj 2 6 → Tj.heap = hj → Fr n0 Lj → f0 = FP.l2d (Int32.toInt64 w0) → (∀ r1 r2 r3 r4 r5 : Int64, r1 = (F6 mi va (4 : Int32) va vb vc vd ve) → r2 = (F6 r1 vb (4 : Int32) va vb vc vd ve) → r3 = (F6 r2 vc (4 : Int32) va vb vc vd ve) → r4 = (F6 r3 vd (4 : Int32) va vb vc vd ve) → r5 = (F6 r4 ve (4 : Int32) va vb vc vd ve) → r5 = (Int32.toInt64 w0)) → GoW p e below s (ValQ (.int (1 : Int32)) n0) room_1.cells room_1.slots (Tj.setTop (mkF m 205 (Sh10 q1 q2 q3 q4 q5 q6 4 nn mi va vb vc vd ve bb f0) [])) := by
   intro Tj Lj hj nn mi va vb vc vd ve bb f0 w0 Xj ej Nj hf0 hF
   refine GoW.sg (mkF m 221 (Sh11 q1 q2 q3 q4 q5 q6 4 nn mi va vb vc vd ve bb f0 mi) [(.long vc), (.long vb), (.long va), (.int 4), (.long va), (.long mi)]) (fun t k => XS.lload Xj.here hx rfl (B at_205) rfl (XS.lstore Xj.here hx rfl (B at_207) rfl (l' := (Sh11 q1 q2 q3 q4 q5 q6 4 nn mi va vb vc vd ve bb f0 mi)) rfl (XS.lload Xj.here hx rfl (B at_209) rfl (XS.lload Xj.here hx rfl (B at_211) rfl (XS.iload Xj.here hx rfl (B at_213) rfl (XS.lload Xj.here hx rfl (B at_215) rfl (XS.lload Xj.here hx rfl (B at_217) rfl (XS.lload Xj.here hx rfl (B at_219) rfl k)))))))) ?_
   refine GoW.sg (mkF m 225 (Sh11 q1 q2 q3 q4 q5 q6 4 nn mi va vb vc vd ve bb f0 mi) [(.long ve), (.long vd), (.long vc), (.long vb), (.long va), (.int 4), (.long va), (.long mi)]) (fun t k => XS.lload Xj.here hx rfl (B at_221) rfl (XS.lload Xj.here hx rfl (B at_223) rfl k)) ?_
   obtain ⟨_, T1140, L1140, X1140, hQ1140, st1140⟩ := own_callS Xj hx hZ hown (y := Y6) (ww hw 31 rfl) (ww hw 32 rfl) (ww hw 33 rfl) (ww hw 34 rfl) (by decide) 0 (rm6 l Z a0 hw mi va (4 : Int32) va vb vc vd ve hj n0) (by decide) (by decide) ej (by decide) (by decide) (g := (mkF m 225 (Sh11 q1 q2 q3 q4 q5 q6 4 nn mi va vb vc vd ve bb f0 mi) [(.long ve), (.long vd), (.long vc), (.long vb), (.long va), (.int 4), (.long va), (.long mi)])) rfl (by rw [hml]; rfl) (argsL := [(.long mi), (.long va), (.int (4 : Int32)), (.long va), (.long vb), (.long vc), (.long vd), (.long ve)]) (rest := []) (lenOf pd_28JJIJJJJJ29J rfl) rfl (Nat.le_of_eq rfl) (B at_225)
   obtain ⟨rfl, N1140q, e1140⟩ := hQ1140
   have N1140 := Fr.app Nj N1140q
   refine GoW.sg (mkF m 228 (Sh11 q1 q2 q3 q4 q5 q6 4 nn mi va vb vc vd ve bb f0 mi) [(.long (F6 mi va (4 : Int32) va vb vc vd ve))]) (fun t k => st1140 t k) ?_
   refine GoW.sg (mkF m 230 (Sh11 q1 q2 q3 q4 q5 q6 4 nn mi va vb vc vd ve bb f0 (F6 mi va (4 : Int32) va vb vc vd ve)) []) (fun t k => XS.lstore X1140.here hx rfl (B at_228) rfl (l' := (Sh11 q1 q2 q3 q4 q5 q6 4 nn mi va vb vc vd ve bb f0 (F6 mi va (4 : Int32) va vb vc vd ve))) rfl k) ?_
   obtain ⟨r1, hr1⟩ : ∃ z : Int64, z = (F6 mi va (4 : Int32) va vb vc vd ve) := ⟨_, rfl⟩
   rw [← hr1]
   show GoW p e below s (ValQ (.int (1 : Int32)) n0) room_1.cells room_1.slots (T1140.setTop (mkF m 230 (Sh11 q1 q2 q3 q4 q5 q6 4 nn mi va vb vc vd ve bb f0 r1) []))
   refine GoW.sg (mkF m 246 (Sh11 q1 q2 q3 q4 q5 q6 4 nn mi va vb vc vd ve bb f0 r1) [(.long ve), (.long vd), (.long vc), (.long vb), (.long va), (.int 4), (.long vb), (.long r1)]) (fun t k => XS.lload X1140.here hx rfl (B at_230) rfl (XS.lload X1140.here hx rfl (B at_232) rfl (XS.iload X1140.here hx rfl (B at_234) rfl (XS.lload X1140.here hx rfl (B at_236) rfl (XS.lload X1140.here hx rfl (B at_238) rfl (XS.lload X1140.here hx rfl (B at_240) rfl (XS.lload X1140.here hx rfl (B at_242) rfl (XS.lload X1140.here hx rfl (B at_244) rfl k)))))))) ?_
   obtain ⟨_, T1141, L1141, X1141, hQ1141, st1141⟩ := own_callS X1140 hx hZ hown (y := Y6) (ww hw 31 rfl) (ww hw 32 rfl) (ww hw 33 rfl) (ww hw 34 rfl) (by decide) 0 (rm6 l Z a0 hw r1 vb (4 : Int32) va vb vc vd ve hj n0) (by decide) (by decide) e1140 (by decide) (by decide) (g := (mkF m 246 (Sh11 q1 q2 q3 q4 q5 q6 4 nn mi va vb vc vd ve bb f0 r1) [(.long ve), (.long vd), (.long vc), (.long vb), (.long va), (.int 4), (.long vb), (.long r1)])) rfl (by rw [hml]; rfl) (argsL := [(.long r1), (.long vb), (.int (4 : Int32)), (.long va), (.long vb), (.long vc), (.long vd), (.long ve)]) (rest := []) (lenOf pd_28JJIJJJJJ29J rfl) rfl (Nat.le_of_eq rfl) (B at_246)
   obtain ⟨rfl, N1141q, e1141⟩ := hQ1141
   have N1141 := Fr.app N1140 N1141q
   refine GoW.sg (mkF m 249 (Sh11 q1 q2 q3 q4 q5 q6 4 nn mi va vb vc vd ve bb f0 r1) [(.long (F6 r1 vb (4 : Int32) va vb vc vd ve))]) (fun t k => st1141 t k) ?_
   refine GoW.sg (mkF m 251 (Sh11 q1 q2 q3 q4 q5 q6 4 nn mi va vb vc vd ve bb f0 (F6 r1 vb (4 : Int32) va vb vc vd ve)) []) (fun t k => XS.lstore X1141.here hx rfl (B at_249) rfl (l' := (Sh11 q1 q2 q3 q4 q5 q6 4 nn mi va vb vc vd ve bb f0 (F6 r1 vb (4 : Int32) va vb vc vd ve))) rfl k) ?_
   obtain ⟨r2, hr2⟩ : ∃ z : Int64, z = (F6 r1 vb (4 : Int32) va vb vc vd ve) := ⟨_, rfl⟩
   rw [← hr2]
   show GoW p e below s (ValQ (.int (1 : Int32)) n0) room_1.cells room_1.slots (T1141.setTop (mkF m 251 (Sh11 q1 q2 q3 q4 q5 q6 4 nn mi va vb vc vd ve bb f0 r2) []))
   refine GoW.sg (mkF m 267 (Sh11 q1 q2 q3 q4 q5 q6 4 nn mi va vb vc vd ve bb f0 r2) [(.long ve), (.long vd), (.long vc), (.long vb), (.long va), (.int 4), (.long vc), (.long r2)]) (fun t k => XS.lload X1141.here hx rfl (B at_251) rfl (XS.lload X1141.here hx rfl (B at_253) rfl (XS.iload X1141.here hx rfl (B at_255) rfl (XS.lload X1141.here hx rfl (B at_257) rfl (XS.lload X1141.here hx rfl (B at_259) rfl (XS.lload X1141.here hx rfl (B at_261) rfl (XS.lload X1141.here hx rfl (B at_263) rfl (XS.lload X1141.here hx rfl (B at_265) rfl k)))))))) ?_
   obtain ⟨_, T1142, L1142, X1142, hQ1142, st1142⟩ := own_callS X1141 hx hZ hown (y := Y6) (ww hw 31 rfl) (ww hw 32 rfl) (ww hw 33 rfl) (ww hw 34 rfl) (by decide) 0 (rm6 l Z a0 hw r2 vc (4 : Int32) va vb vc vd ve hj n0) (by decide) (by decide) e1141 (by decide) (by decide) (g := (mkF m 267 (Sh11 q1 q2 q3 q4 q5 q6 4 nn mi va vb vc vd ve bb f0 r2) [(.long ve), (.long vd), (.long vc), (.long vb), (.long va), (.int 4), (.long vc), (.long r2)])) rfl (by rw [hml]; rfl) (argsL := [(.long r2), (.long vc), (.int (4 : Int32)), (.long va), (.long vb), (.long vc), (.long vd), (.long ve)]) (rest := []) (lenOf pd_28JJIJJJJJ29J rfl) rfl (Nat.le_of_eq rfl) (B at_267)
   obtain ⟨rfl, N1142q, e1142⟩ := hQ1142
   have N1142 := Fr.app N1141 N1142q
   refine GoW.sg (mkF m 270 (Sh11 q1 q2 q3 q4 q5 q6 4 nn mi va vb vc vd ve bb f0 r2) [(.long (F6 r2 vc (4 : Int32) va vb vc vd ve))]) (fun t k => st1142 t k) ?_
   refine GoW.sg (mkF m 272 (Sh11 q1 q2 q3 q4 q5 q6 4 nn mi va vb vc vd ve bb f0 (F6 r2 vc (4 : Int32) va vb vc vd ve)) []) (fun t k => XS.lstore X1142.here hx rfl (B at_270) rfl (l' := (Sh11 q1 q2 q3 q4 q5 q6 4 nn mi va vb vc vd ve bb f0 (F6 r2 vc (4 : Int32) va vb vc vd ve))) rfl k) ?_
   obtain ⟨r3, hr3⟩ : ∃ z : Int64, z = (F6 r2 vc (4 : Int32) va vb vc vd ve) := ⟨_, rfl⟩
   rw [← hr3]
   show GoW p e below s (ValQ (.int (1 : Int32)) n0) room_1.cells room_1.slots (T1142.setTop (mkF m 272 (Sh11 q1 q2 q3 q4 q5 q6 4 nn mi va vb vc vd ve bb f0 r3) []))
   refine GoW.sg (mkF m 288 (Sh11 q1 q2 q3 q4 q5 q6 4 nn mi va vb vc vd ve bb f0 r3) [(.long ve), (.long vd), (.long vc), (.long vb), (.long va), (.int 4), (.long vd), (.long r3)]) (fun t k => XS.lload X1142.here hx rfl (B at_272) rfl (XS.lload X1142.here hx rfl (B at_274) rfl (XS.iload X1142.here hx rfl (B at_276) rfl (XS.lload X1142.here hx rfl (B at_278) rfl (XS.lload X1142.here hx rfl (B at_280) rfl (XS.lload X1142.here hx rfl (B at_282) rfl (XS.lload X1142.here hx rfl (B at_284) rfl (XS.lload X1142.here hx rfl (B at_286) rfl k)))))))) ?_
   obtain ⟨_, T1143, L1143, X1143, hQ1143, st1143⟩ := own_callS X1142 hx hZ hown (y := Y6) (ww hw 31 rfl) (ww hw 32 rfl) (ww hw 33 rfl) (ww hw 34 rfl) (by decide) 0 (rm6 l Z a0 hw r3 vd (4 : Int32) va vb vc vd ve hj n0) (by decide) (by decide) e1142 (by decide) (by decide) (g := (mkF m 288 (Sh11 q1 q2 q3 q4 q5 q6 4 nn mi va vb vc vd ve bb f0 r3) [(.long ve), (.long vd), (.long vc), (.long vb), (.long va), (.int 4), (.long vd), (.long r3)])) rfl (by rw [hml]; rfl) (argsL := [(.long r3), (.long vd), (.int (4 : Int32)), (.long va), (.long vb), (.long vc), (.long vd), (.long ve)]) (rest := []) (lenOf pd_28JJIJJJJJ29J rfl) rfl (Nat.le_of_eq rfl) (B at_288)
   obtain ⟨rfl, N1143q, e1143⟩ := hQ1143
   have N1143 := Fr.app N1142 N1143q
   refine GoW.sg (mkF m 291 (Sh11 q1 q2 q3 q4 q5 q6 4 nn mi va vb vc vd ve bb f0 r3) [(.long (F6 r3 vd (4 : Int32) va vb vc vd ve))]) (fun t k => st1143 t k) ?_
   refine GoW.sg (mkF m 293 (Sh11 q1 q2 q3 q4 q5 q6 4 nn mi va vb vc vd ve bb f0 (F6 r3 vd (4 : Int32) va vb vc vd ve)) []) (fun t k => XS.lstore X1143.here hx rfl (B at_291) rfl (l' := (Sh11 q1 q2 q3 q4 q5 q6 4 nn mi va vb vc vd ve bb f0 (F6 r3 vd (4 : Int32) va vb vc vd ve))) rfl k) ?_
   obtain ⟨r4, hr4⟩ : ∃ z : Int64, z = (F6 r3 vd (4 : Int32) va vb vc vd ve) := ⟨_, rfl⟩
   rw [← hr4]
   show GoW p e below s (ValQ (.int (1 : Int32)) n0) room_1.cells room_1.slots (T1143.setTop (mkF m 293 (Sh11 q1 q2 q3 q4 q5 q6 4 nn mi va vb vc vd ve bb f0 r4) []))
   refine GoW.sg (mkF m 309 (Sh11 q1 q2 q3 q4 q5 q6 4 nn mi va vb vc vd ve bb f0 r4) [(.long ve), (.long vd), (.long vc), (.long vb), (.long va), (.int 4), (.long ve), (.long r4)]) (fun t k => XS.lload X1143.here hx rfl (B at_293) rfl (XS.lload X1143.here hx rfl (B at_295) rfl (XS.iload X1143.here hx rfl (B at_297) rfl (XS.lload X1143.here hx rfl (B at_299) rfl (XS.lload X1143.here hx rfl (B at_301) rfl (XS.lload X1143.here hx rfl (B at_303) rfl (XS.lload X1143.here hx rfl (B at_305) rfl (XS.lload X1143.here hx rfl (B at_307) rfl k)))))))) ?_
   obtain ⟨_, T1144, L1144, X1144, hQ1144, st1144⟩ := own_callS X1143 hx hZ hown (y := Y6) (ww hw 31 rfl) (ww hw 32 rfl) (ww hw 33 rfl) (ww hw 34 rfl) (by decide) 0 (rm6 l Z a0 hw r4 ve (4 : Int32) va vb vc vd ve hj n0) (by decide) (by decide) e1143 (by decide) (by decide) (g := (mkF m 309 (Sh11 q1 q2 q3 q4 q5 q6 4 nn mi va vb vc vd ve bb f0 r4) [(.long ve), (.long vd), (.long vc), (.long vb), (.long va), (.int 4), (.long ve), (.long r4)])) rfl (by rw [hml]; rfl) (argsL := [(.long r4), (.long ve), (.int (4 : Int32)), (.long va), (.long vb), (.long vc), (.long vd), (.long ve)]) (rest := []) (lenOf pd_28JJIJJJJJ29J rfl) rfl (Nat.le_of_eq rfl) (B at_309)
   obtain ⟨rfl, N1144q, e1144⟩ := hQ1144
   have N1144 := Fr.app N1143 N1144q
   refine GoW.sg (mkF m 312 (Sh11 q1 q2 q3 q4 q5 q6 4 nn mi va vb vc vd ve bb f0 r4) [(.long (F6 r4 ve (4 : Int32) va vb vc vd ve))]) (fun t k => st1144 t k) ?_
   refine GoW.sg (mkF m 314 (Sh11 q1 q2 q3 q4 q5 q6 4 nn mi va vb vc vd ve bb f0 (F6 r4 ve (4 : Int32) va vb vc vd ve)) []) (fun t k => XS.lstore X1144.here hx rfl (B at_312) rfl (l' := (Sh11 q1 q2 q3 q4 q5 q6 4 nn mi va vb vc vd ve bb f0 (F6 r4 ve (4 : Int32) va vb vc vd ve))) rfl k) ?_
   obtain ⟨r5, hr5⟩ : ∃ z : Int64, z = (F6 r4 ve (4 : Int32) va vb vc vd ve) := ⟨_, rfl⟩
   rw [← hr5]
   show GoW p e below s (ValQ (.int (1 : Int32)) n0) room_1.cells room_1.slots (T1144.setTop (mkF m 314 (Sh11 q1 q2 q3 q4 q5 q6 4 nn mi va vb vc vd ve bb f0 r5) []))
   refine GoW.sg (mkF m 318 (Sh11 q1 q2 q3 q4 q5 q6 4 nn mi va vb vc vd ve bb f0 r5) [(.long r5), (.double f0)]) (fun t k => XS.dload X1144.here hx rfl (B at_314) rfl (XS.lload X1144.here hx rfl (B at_316) rfl k)) ?_
   have hfin := hF r1 r2 r3 r4 r5 hr1 hr2 hr3 hr4 hr5
   obtain ⟨d1145, hd1145⟩ : ∃ d : UInt64, d = FP.l2d r5 := ⟨_, rfl⟩
   refine GoW.sg (mkF m 328 (Sh11 q1 q2 q3 q4 q5 q6 4 nn mi va vb vc vd ve bb f0 r5) [(.int 1)]) (fun t k => XS.l2dS X1144.here hx rfl (B at_318) rfl (v := d1145) hd1145.symm (XS.dcmpS X1144.here hx rfl (B at_319) rfl (v := (0 : Int32)) (by rw [hf0, hd1145, hfin, dcmpV_w (own_b53 _) (own_b53 _)]; exact own_lc _) (XS.ifNo X1144.here hx rfl (B at_320) rfl (by decide) (XS.iconst X1144.here hx rfl (B at_323) (XS.goto X1144.here hx rfl (pc0 := 324) (pc' := 328) rfl (B at_324) (by decide) (by decide) k))))) ?_
   refine GoW.retN X1144 hx (t := .boolean) Bd.returns (by simp) (B at_328) Bd.notSynchronized ?_ (by decide) (by decide)
   exact ⟨rfl, N1144⟩
  refine GoW.sg (mkF m 15 (Sh9 q1 q2 q3 q4 q5 q6 4) [(.int 6), (.int ((q1.toUInt32 >>> ((2 : Int32) &&& 31).toUInt32).toInt32 &&& (7 : Int32)))]) (fun t k => XS.bipush X0.here hx rfl (B at_10) (XS.iand X0.here hx rfl (B at_12) rfl (XS.bipush X0.here hx rfl (B at_13) k))) ?_
  refine GoW.sg (mkF m 16 (Sh9 q1 q2 q3 q4 q5 q6 4) [(.int (((q1.toUInt32 >>> ((2 : Int32) &&& 31).toUInt32).toInt32 &&& (7 : Int32)) % (6 : Int32)))]) (fun t k => iremM X0 hx rfl (B at_15) rfl (by decide) k) ?_
  refine GoW.sg (mkF m 18 (Sh12 q1 q2 q3 q4 q5 q6 4 (((q1.toUInt32 >>> ((2 : Int32) &&& 31).toUInt32).toInt32 &&& (7 : Int32)) % (6 : Int32))) []) (fun t k => XS.istore X0.here hx rfl (B at_16) rfl (l' := (Sh12 q1 q2 q3 q4 q5 q6 4 (((q1.toUInt32 >>> ((2 : Int32) &&& 31).toUInt32).toInt32 &&& (7 : Int32)) % (6 : Int32)))) rfl k) ?_
  rcases own_n6 (q1.toUInt32 >>> ((2 : Int32) &&& 31).toUInt32).toInt32 with vv | vv | vv | vv | vv | vv
  ·rw [vv]
   show GoW p e below s (ValQ (.int (1 : Int32)) n0) room_1.cells room_1.slots (s₁.setTop (mkF m 18 (Sh12 q1 q2 q3 q4 q5 q6 4 0) []))
   refine GoW.sg (mkF m 21 (Sh12 q1 q2 q3 q4 q5 q6 4 0) [(.long (-9223372036854775808))]) (fun t k => X0.ldc2Long hx hown (mvT hZ (ww hw 0 rfl)) (g := (mkF m 18 (Sh12 q1 q2 q3 q4 q5 q6 4 0) [])) rfl (B at_18) t k) ?_
   refine GoW.sg (mkF m 48 (Sh14 q1 q2 q3 q4 q5 q6 4 0 (-9223372036854775808) (-9223372036854775808)) []) (fun t k => XS.lstore X0.here hx rfl (B at_21) rfl (l' := (Sh13 q1 q2 q3 q4 q5 q6 4 0 (-9223372036854775808))) rfl (XS.iload X0.here hx rfl (B at_23) rfl (XS.ifYes X0.here hx rfl (pc0 := 25) (pc' := 33) rfl (B at_25) rfl (by decide) (by decide) (by decide) (XS.lload X0.here hx rfl (B at_33) rfl (XS.lstore X0.here hx rfl (B at_35) rfl (l' := (Sh14 q1 q2 q3 q4 q5 q6 4 0 (-9223372036854775808) (-9223372036854775808))) rfl (XS.iload X0.here hx rfl (B at_37) rfl (XS.iconst X0.here hx rfl (B at_39) (XS.icmpYes X0.here hx rfl (pc0 := 40) (pc' := 48) rfl (B at_40) rfl (by decide) (by decide) (by decide) k)))))))) ?_
   refine GoW.sg (mkF m 69 (Sh16 q1 q2 q3 q4 q5 q6 4 0 (-9223372036854775808) (-9223372036854775808) (-9223372036854775808) (-9223372036854775808)) [(.int 0)]) (fun t k => XS.lload X0.here hx rfl (B at_48) rfl (XS.lstore X0.here hx rfl (B at_50) rfl (l' := (Sh15 q1 q2 q3 q4 q5 q6 4 0 (-9223372036854775808) (-9223372036854775808) (-9223372036854775808))) rfl (XS.iload X0.here hx rfl (B at_52) rfl (XS.iconst X0.here hx rfl (B at_54) (XS.icmpYes X0.here hx rfl (pc0 := 55) (pc' := 63) rfl (B at_55) rfl (by decide) (by decide) (by decide) (XS.lload X0.here hx rfl (B at_63) rfl (XS.lstore X0.here hx rfl (B at_65) rfl (l' := (Sh16 q1 q2 q3 q4 q5 q6 4 0 (-9223372036854775808) (-9223372036854775808) (-9223372036854775808) (-9223372036854775808))) rfl (XS.iload X0.here hx rfl (B at_67) rfl k)))))))) ?_
   refine GoW.sg (mkF m 97 (Sh17 q1 q2 q3 q4 q5 q6 4 0 (-9223372036854775808) (-9223372036854775808) (-9223372036854775808) (-9223372036854775808) (-9223372036854775808)) [(.long (-9223372036854775808))]) (fun t k => XS.iconst X0.here hx rfl (B at_69) (XS.icmpYes X0.here hx rfl (pc0 := 70) (pc' := 79) rfl (B at_70) rfl (by decide) (by decide) (by decide) (XS.lload X0.here hx rfl (B at_79) rfl (XS.lstore X0.here hx rfl (B at_81) rfl (l' := (Sh17 q1 q2 q3 q4 q5 q6 4 0 (-9223372036854775808) (-9223372036854775808) (-9223372036854775808) (-9223372036854775808) (-9223372036854775808))) rfl (XS.iload X0.here hx rfl (B at_83) rfl (XS.iconst X0.here hx rfl (B at_85) (XS.icmpYes X0.here hx rfl (pc0 := 86) (pc' := 95) rfl (B at_86) rfl (by decide) (by decide) (by decide) (XS.lload X0.here hx rfl (B at_95) rfl k)))))))) ?_
   refine GoW.sg (mkF m 99 (Sh18 q1 q2 q3 q4 q5 q6 4 0 (-9223372036854775808) (-9223372036854775808) (-9223372036854775808) (-9223372036854775808) (-9223372036854775808) (-9223372036854775808)) []) (fun t k => XS.lstore X0.here hx rfl (B at_97) rfl (l' := (Sh18 q1 q2 q3 q4 q5 q6 4 0 (-9223372036854775808) (-9223372036854775808) (-9223372036854775808) (-9223372036854775808) (-9223372036854775808) (-9223372036854775808))) rfl k) ?_
   obtain ⟨va, hva⟩ : ∃ z : Int64, z = (-9223372036854775808 : Int64) := ⟨_, rfl⟩
   obtain ⟨vb, hvb⟩ : ∃ z : Int64, z = (-9223372036854775808 : Int64) := ⟨_, rfl⟩
   obtain ⟨vc, hvc⟩ : ∃ z : Int64, z = (-9223372036854775808 : Int64) := ⟨_, rfl⟩
   obtain ⟨vd, hvd⟩ : ∃ z : Int64, z = (-9223372036854775808 : Int64) := ⟨_, rfl⟩
   obtain ⟨ve, hve⟩ : ∃ z : Int64, z = (-9223372036854775808 : Int64) := ⟨_, rfl⟩
   obtain ⟨mi, hmi⟩ : ∃ z : Int64, z = (-9223372036854775808 : Int64) := ⟨_, rfl⟩
   refine GoW.st (fun t k => by rw [hva, hvb, hvc, hvd, hve, hmi] at k; exact k) ?_ (u := s₁.setTop (mkF m 99 (Sh18 q1 q2 q3 q4 q5 q6 4 0 mi va vb vc vd ve) []))
   show GoW p e below s (ValQ (.int (1 : Int32)) n0) room_1.cells room_1.slots (s₁.setTop (mkF m 99 (Sh18 q1 q2 q3 q4 q5 q6 4 0 mi va vb vc vd ve) []))
   obtain ⟨T1146, h1146, X1146, e1146, E1146, A1146, D1146, -, st1146⟩ := newO X0 hx hZ hown (ww hw 1 rfl) (ww hw 2 rfl) (ww hw 3 rfl) e0 (g := (mkF m 99 (Sh18 q1 q2 q3 q4 q5 q6 4 0 mi va vb vc vd ve) [])) rfl (B at_99) (by decide) (by decide)
   obtain ⟨b1146, g1146⟩ : ∃ z, z = h0.size := ⟨_, rfl⟩
   rw [← g1146] at A1146 D1146 st1146
   have g_b1146 : n0 ≤ b1146 := Nat.le_trans Z0 (Nat.le_of_eq g1146.symm)
   have f1146_82 := Nat.le_trans Z0 E1146.1
   have F1146heap : Fld Z h1146 b1146 HSn "heap" "[D" .null := D1146 (Or.inr (ww hw 12 rfl)) (ty := (.array .double)) (by decide)
   have F1146size : Fld Z h1146 b1146 HSn "size" "I" (.int (0 : Int32)) := D1146 (Or.inl (ww hw 19 rfl)) (ty := .int) (by decide)
   refine GoW.sg (mkF m 102 (Sh18 q1 q2 q3 q4 q5 q6 4 0 mi va vb vc vd ve) [(.ref b1146)]) (fun t k => st1146 t k) ?_
   refine GoW.sg (mkF m 105 (Sh18 q1 q2 q3 q4 q5 q6 4 0 mi va vb vc vd ve) [(.int 4), (.ref b1146), (.ref b1146)]) (fun t k => XS.dup X1146.here hx rfl (B at_102) rfl rfl (XS.iload X1146.here hx rfl (B at_103) rfl k)) ?_
   obtain ⟨_, T1153, L1153, X1153, hQ1153, st1153⟩ := own_spec X1146 hx hZ (y := Y1) rfl hown (ww hw 4 rfl) (ww hw 5 rfl) (ww hw 3 rfl) (ww hw 6 rfl) (by decide) 1 (a := b1146) (rm1_42 l Z a0 hw b1146 h1146 n0 f1146_82 A1146 F1146heap F1146size g_b1146 ) (by decide) (by decide) e1146 (by decide) (by decide) (g := (mkF m 105 (Sh18 q1 q2 q3 q4 q5 q6 4 0 mi va vb vc vd ve) [(.int 4), (.ref b1146), (.ref b1146)])) rfl (by rw [hml]; rfl) (argsL := [(.int (4 : Int32))]) (rest := [(.ref b1146)]) (lenOf pd_28I29V rfl) rfl (Nat.le_of_eq rfl) (B at_105)
   obtain ⟨b1153_e0, k1153_ke0, rfl, N1153q, K1153, p1153_0, p1153_1, p1153_2, p1153_3, hz_b1153_e0⟩ := hQ1153
   have N1153 := Fr.app N0 N1153q
   refine GoW.sg (mkF m 108 (Sh18 q1 q2 q3 q4 q5 q6 4 0 mi va vb vc vd ve) [(.ref b1146)]) (fun t k => st1153 t k) ?_
   refine GoW.sg (mkF m 138 (Sh19 q1 q2 q3 q4 q5 q6 4 0 mi va vb vc vd ve b1146) [(.int 2), (.int 0)]) (fun t k => XS.astore X1153.here hx rfl (B at_108) rfl rfl (l' := (Sh19 q1 q2 q3 q4 q5 q6 4 0 mi va vb vc vd ve b1146)) rfl (XS.iload X1153.here hx rfl (B at_110) rfl (XS.ifYes X1153.here hx rfl (pc0 := 112) (pc' := 122) rfl (B at_112) rfl (by decide) (by decide) (by decide) (XS.iload X1153.here hx rfl (B at_122) rfl (XS.iconst X1153.here hx rfl (B at_124) (XS.icmpYes X1153.here hx rfl (pc0 := 125) (pc' := 135) rfl (B at_125) rfl (by decide) (by decide) (by decide) (XS.iload X1153.here hx rfl (B at_135) rfl (XS.iconst X1153.here hx rfl (B at_137) k)))))))) ?_
   refine GoW.sg (mkF m 178 (Sh19 q1 q2 q3 q4 q5 q6 4 0 mi va vb vc vd ve b1146) [(.ref b1146)]) (fun t k => XS.icmpYes X1153.here hx rfl (pc0 := 138) (pc' := 148) rfl (B at_138) rfl (by decide) (by decide) (by decide) (XS.iload X1153.here hx rfl (B at_148) rfl (XS.iconst X1153.here hx rfl (B at_150) (XS.icmpYes X1153.here hx rfl (pc0 := 151) (pc' := 162) rfl (B at_151) rfl (by decide) (by decide) (by decide) (XS.iload X1153.here hx rfl (B at_162) rfl (XS.iconst X1153.here hx rfl (B at_164) (XS.icmpYes X1153.here hx rfl (pc0 := 165) (pc' := 176) rfl (B at_165) rfl (by decide) (by decide) (by decide) (XS.aload X1153.here hx rfl (B at_176) rfl rfl k)))))))) ?_
   obtain ⟨_, T1160, L1160, X1160, hQ1160, st1160⟩ := own_virt X1153 hx hZ (y := Y3) hown (ww hw 13 rfl) (ww hw 14 rfl) (ww hw 16 rfl) (ww hw 15 rfl) (ww hw 17 rfl) (ww hw 3 rfl) (by decide) 0 (a := b1146) (rm3_43 l Z a0 hw b1146 b1153_e0 k1153_ke0 T1153.heap n0 p1153_1 p1153_2 p1153_3 ) (by decide) (by decide) rfl p1153_0 (by decide) (by decide) (g := (mkF m 178 (Sh19 q1 q2 q3 q4 q5 q6 4 0 mi va vb vc vd ve b1146) [(.ref b1146)])) rfl (by rw [hml]; rfl) (argsL := []) (rest := []) (lenOf pd_2829D rfl) rfl (Nat.le_of_eq rfl) (B at_178)
   obtain ⟨rfl, N1160q, e1160⟩ := hQ1160
   have N1160 := Fr.app N1153 N1160q
   refine GoW.sg (mkF m 181 (Sh19 q1 q2 q3 q4 q5 q6 4 0 mi va vb vc vd ve b1146) [(.double 18442240474082181120)]) (fun t k => st1160 t k) ?_
   refine GoW.sg (mkF m 192 (Sh10 q1 q2 q3 q4 q5 q6 4 0 mi va vb vc vd ve b1146 18442240474082181120) [(.double 18442240474082181120)]) (fun t k => XS.dstore X1160.here hx rfl (B at_181) rfl (l' := (Sh10 q1 q2 q3 q4 q5 q6 4 0 mi va vb vc vd ve b1146 18442240474082181120)) rfl (XS.iload X1160.here hx rfl (B at_183) rfl (XS.iload X1160.here hx rfl (B at_185) rfl (XS.icmpNo X1160.here hx rfl (B at_187) rfl (by decide) (XS.dload X1160.here hx rfl (B at_190) rfl k))))) ?_
   refine GoW.sg (mkF m 195 (Sh10 q1 q2 q3 q4 q5 q6 4 0 mi va vb vc vd ve b1146 18442240474082181120) [(.double 18442240474082181120), (.double 18442240474082181120)]) (fun t k => X1160.ldc2DoubleC hx hown (mvT hZ (ww hw 21 rfl)) (g := (mkF m 192 (Sh10 q1 q2 q3 q4 q5 q6 4 0 mi va vb vc vd ve b1146 18442240474082181120) [(.double 18442240474082181120)])) rfl (B at_192) t k) ?_
   refine GoW.sg (mkF m 204 (Sh10 q1 q2 q3 q4 q5 q6 4 0 mi va vb vc vd ve b1146 18442240474082181120) [(.int 1)]) (fun t k => XS.dcmpS X1160.here hx rfl (B at_195) rfl (v := (0 : Int32)) (by decide +kernel) (XS.ifNo X1160.here hx rfl (B at_196) rfl (by decide) (XS.iconst X1160.here hx rfl (B at_199) (XS.goto X1160.here hx rfl (pc0 := 200) (pc' := 204) rfl (B at_200) (by decide) (by decide) k)))) ?_
   refine GoW.retN X1160 hx (t := .boolean) Bd.returns (by simp) (B at_204) Bd.notSynchronized ?_ (by decide) (by decide)
   exact ⟨rfl, N1160⟩
  ·rw [vv]
   show GoW p e below s (ValQ (.int (1 : Int32)) n0) room_1.cells room_1.slots (s₁.setTop (mkF m 18 (Sh12 q1 q2 q3 q4 q5 q6 4 1) []))
   refine GoW.sg (mkF m 21 (Sh12 q1 q2 q3 q4 q5 q6 4 1) [(.long (-9223372036854775808))]) (fun t k => X0.ldc2Long hx hown (mvT hZ (ww hw 0 rfl)) (g := (mkF m 18 (Sh12 q1 q2 q3 q4 q5 q6 4 1) [])) rfl (B at_18) t k) ?_
   refine GoW.sg (mkF m 39 (Sh14 q1 q2 q3 q4 q5 q6 4 1 (-9223372036854775808) (Int32.toInt64 q2)) [(.int 1)]) (fun t k => XS.lstore X0.here hx rfl (B at_21) rfl (l' := (Sh13 q1 q2 q3 q4 q5 q6 4 1 (-9223372036854775808))) rfl (XS.iload X0.here hx rfl (B at_23) rfl (XS.ifNo X0.here hx rfl (B at_25) rfl (by decide) (XS.iloadN X0.here hx rfl (B at_28) rfl (XS.i2l X0.here hx rfl (B at_29) rfl (XS.goto X0.here hx rfl (pc0 := 30) (pc' := 35) rfl (B at_30) (by decide) (by decide) (XS.lstore X0.here hx rfl (B at_35) rfl (l' := (Sh14 q1 q2 q3 q4 q5 q6 4 1 (-9223372036854775808) (Int32.toInt64 q2))) rfl (XS.iload X0.here hx rfl (B at_37) rfl k)))))))) ?_
   refine GoW.sg (mkF m 65 (Sh15 q1 q2 q3 q4 q5 q6 4 1 (-9223372036854775808) (Int32.toInt64 q2) (-9223372036854775808)) [(.long (-9223372036854775808))]) (fun t k => XS.iconst X0.here hx rfl (B at_39) (XS.icmpYes X0.here hx rfl (pc0 := 40) (pc' := 48) rfl (B at_40) rfl (by decide) (by decide) (by decide) (XS.lload X0.here hx rfl (B at_48) rfl (XS.lstore X0.here hx rfl (B at_50) rfl (l' := (Sh15 q1 q2 q3 q4 q5 q6 4 1 (-9223372036854775808) (Int32.toInt64 q2) (-9223372036854775808))) rfl (XS.iload X0.here hx rfl (B at_52) rfl (XS.iconst X0.here hx rfl (B at_54) (XS.icmpYes X0.here hx rfl (pc0 := 55) (pc' := 63) rfl (B at_55) rfl (by decide) (by decide) (by decide) (XS.lload X0.here hx rfl (B at_63) rfl k)))))))) ?_
   refine GoW.sg (mkF m 86 (Sh17 q1 q2 q3 q4 q5 q6 4 1 (-9223372036854775808) (Int32.toInt64 q2) (-9223372036854775808) (-9223372036854775808) (-9223372036854775808)) [(.int 4), (.int 1)]) (fun t k => XS.lstore X0.here hx rfl (B at_65) rfl (l' := (Sh16 q1 q2 q3 q4 q5 q6 4 1 (-9223372036854775808) (Int32.toInt64 q2) (-9223372036854775808) (-9223372036854775808))) rfl (XS.iload X0.here hx rfl (B at_67) rfl (XS.iconst X0.here hx rfl (B at_69) (XS.icmpYes X0.here hx rfl (pc0 := 70) (pc' := 79) rfl (B at_70) rfl (by decide) (by decide) (by decide) (XS.lload X0.here hx rfl (B at_79) rfl (XS.lstore X0.here hx rfl (B at_81) rfl (l' := (Sh17 q1 q2 q3 q4 q5 q6 4 1 (-9223372036854775808) (Int32.toInt64 q2) (-9223372036854775808) (-9223372036854775808) (-9223372036854775808))) rfl (XS.iload X0.here hx rfl (B at_83) rfl (XS.iconst X0.here hx rfl (B at_85) k)))))))) ?_
   refine GoW.sg (mkF m 99 (Sh18 q1 q2 q3 q4 q5 q6 4 1 (-9223372036854775808) (Int32.toInt64 q2) (-9223372036854775808) (-9223372036854775808) (-9223372036854775808) (-9223372036854775808)) []) (fun t k => XS.icmpYes X0.here hx rfl (pc0 := 86) (pc' := 95) rfl (B at_86) rfl (by decide) (by decide) (by decide) (XS.lload X0.here hx rfl (B at_95) rfl (XS.lstore X0.here hx rfl (B at_97) rfl (l' := (Sh18 q1 q2 q3 q4 q5 q6 4 1 (-9223372036854775808) (Int32.toInt64 q2) (-9223372036854775808) (-9223372036854775808) (-9223372036854775808) (-9223372036854775808))) rfl k))) ?_
   obtain ⟨va, hva⟩ : ∃ z : Int64, z = (Int32.toInt64 q2) := ⟨_, rfl⟩
   obtain ⟨vb, hvb⟩ : ∃ z : Int64, z = (-9223372036854775808 : Int64) := ⟨_, rfl⟩
   obtain ⟨vc, hvc⟩ : ∃ z : Int64, z = (-9223372036854775808 : Int64) := ⟨_, rfl⟩
   obtain ⟨vd, hvd⟩ : ∃ z : Int64, z = (-9223372036854775808 : Int64) := ⟨_, rfl⟩
   obtain ⟨ve, hve⟩ : ∃ z : Int64, z = (-9223372036854775808 : Int64) := ⟨_, rfl⟩
   obtain ⟨mi, hmi⟩ : ∃ z : Int64, z = (-9223372036854775808 : Int64) := ⟨_, rfl⟩
   refine GoW.st (fun t k => by rw [hva, hvb, hvc, hvd, hve, hmi] at k; exact k) ?_ (u := s₁.setTop (mkF m 99 (Sh18 q1 q2 q3 q4 q5 q6 4 1 mi va vb vc vd ve) []))
   show GoW p e below s (ValQ (.int (1 : Int32)) n0) room_1.cells room_1.slots (s₁.setTop (mkF m 99 (Sh18 q1 q2 q3 q4 q5 q6 4 1 mi va vb vc vd ve) []))
   obtain ⟨T1161, h1161, X1161, e1161, E1161, A1161, D1161, -, st1161⟩ := newO X0 hx hZ hown (ww hw 1 rfl) (ww hw 2 rfl) (ww hw 3 rfl) e0 (g := (mkF m 99 (Sh18 q1 q2 q3 q4 q5 q6 4 1 mi va vb vc vd ve) [])) rfl (B at_99) (by decide) (by decide)
   obtain ⟨b1161, g1161⟩ : ∃ z, z = h0.size := ⟨_, rfl⟩
   rw [← g1161] at A1161 D1161 st1161
   have g_b1161 : n0 ≤ b1161 := Nat.le_trans Z0 (Nat.le_of_eq g1161.symm)
   have f1161_84 := Nat.le_trans Z0 E1161.1
   have F1161heap : Fld Z h1161 b1161 HSn "heap" "[D" .null := D1161 (Or.inr (ww hw 12 rfl)) (ty := (.array .double)) (by decide)
   have F1161size : Fld Z h1161 b1161 HSn "size" "I" (.int (0 : Int32)) := D1161 (Or.inl (ww hw 19 rfl)) (ty := .int) (by decide)
   refine GoW.sg (mkF m 102 (Sh18 q1 q2 q3 q4 q5 q6 4 1 mi va vb vc vd ve) [(.ref b1161)]) (fun t k => st1161 t k) ?_
   refine GoW.sg (mkF m 105 (Sh18 q1 q2 q3 q4 q5 q6 4 1 mi va vb vc vd ve) [(.int 4), (.ref b1161), (.ref b1161)]) (fun t k => XS.dup X1161.here hx rfl (B at_102) rfl rfl (XS.iload X1161.here hx rfl (B at_103) rfl k)) ?_
   obtain ⟨_, T1162, L1162, X1162, hQ1162, st1162⟩ := own_spec X1161 hx hZ (y := Y1) rfl hown (ww hw 4 rfl) (ww hw 5 rfl) (ww hw 3 rfl) (ww hw 6 rfl) (by decide) 1 (a := b1161) (rm1_42 l Z a0 hw b1161 h1161 n0 f1161_84 A1161 F1161heap F1161size g_b1161 ) (by decide) (by decide) e1161 (by decide) (by decide) (g := (mkF m 105 (Sh18 q1 q2 q3 q4 q5 q6 4 1 mi va vb vc vd ve) [(.int 4), (.ref b1161), (.ref b1161)])) rfl (by rw [hml]; rfl) (argsL := [(.int (4 : Int32))]) (rest := [(.ref b1161)]) (lenOf pd_28I29V rfl) rfl (Nat.le_of_eq rfl) (B at_105)
   obtain ⟨b1162_e0, k1162_ke0, rfl, N1162q, K1162, p1162_0, p1162_1, p1162_2, p1162_3, hz_b1162_e0⟩ := hQ1162
   have g_b1162_e0 : n0 ≤ b1162_e0 := Nat.le_trans f1161_84 hz_b1162_e0
   have ne_b1161_b1162_e0 : b1161 ≠ b1162_e0 := Nat.ne_of_lt (Nat.lt_of_lt_of_le A1161.lt hz_b1162_e0)
   have N1162 := Fr.app N0 N1162q
   refine GoW.sg (mkF m 108 (Sh18 q1 q2 q3 q4 q5 q6 4 1 mi va vb vc vd ve) [(.ref b1161)]) (fun t k => st1162 t k) ?_
   refine GoW.sg (mkF m 118 (Sh19 q1 q2 q3 q4 q5 q6 4 1 mi va vb vc vd ve b1161) [(.int q2), (.ref b1161)]) (fun t k => XS.astore X1162.here hx rfl (B at_108) rfl rfl (l' := (Sh19 q1 q2 q3 q4 q5 q6 4 1 mi va vb vc vd ve b1161)) rfl (XS.iload X1162.here hx rfl (B at_110) rfl (XS.ifNo X1162.here hx rfl (B at_112) rfl (by decide) (XS.aload X1162.here hx rfl (B at_115) rfl rfl (XS.iloadN X1162.here hx rfl (B at_117) rfl k))))) ?_
   obtain ⟨d1163, hd1163⟩ : ∃ d : UInt64, d = FP.l2d q2.toInt64 := ⟨_, rfl⟩
   refine GoW.sg (mkF m 119 (Sh19 q1 q2 q3 q4 q5 q6 4 1 mi va vb vc vd ve b1161) [(.double d1163), (.ref b1161)]) (fun t k => XS.i2dS X1162.here hx rfl (B at_118) rfl (v := d1163) ((i2d_w _).trans hd1163.symm) k) ?_
   obtain ⟨_, T1164, L1164, X1164, hQ1164, st1164⟩ := own_virt X1162 hx hZ (y := Y4) hown (ww hw 22 rfl) (ww hw 23 rfl) (ww hw 25 rfl) (ww hw 24 rfl) (ww hw 26 rfl) (ww hw 3 rfl) (by decide) 0 (a := b1161) (rmO40 l Z a0 hw b1161 d1163 q2 b1162_e0 k1162_ke0 T1162.heap n0 p1162_0 p1162_2 p1162_1 p1162_3 g_b1161 g_b1162_e0 ne_b1161_b1162_e0 hd1163 trivial) (by decide) (by decide) rfl p1162_0 (by decide) (by decide) (g := (mkF m 119 (Sh19 q1 q2 q3 q4 q5 q6 4 1 mi va vb vc vd ve b1161) [(.double d1163), (.ref b1161)])) rfl (by rw [hml]; rfl) (argsL := [(.double d1163)]) (rest := []) (lenOf pd_28D29V rfl) rfl (Nat.le_of_eq rfl) (B at_119)
   obtain ⟨k1164_w0, k1164_f0, rfl, N1164q, K1164, p1164_0, p1164_1, p1164_2, p1164_3, LQ1164⟩ := hQ1164
   have N1164 := Fr.app N1162 N1164q
   refine GoW.sg (mkF m 122 (Sh19 q1 q2 q3 q4 q5 q6 4 1 mi va vb vc vd ve b1161) []) (fun t k => st1164 t k) ?_
   obtain ⟨hf1164_0, hH1164, hR1164⟩ := LQ1164
   have A1164 : ∀ z : Int, cn z k1164_w0 = cn z q2 := fun z => by have _a := hR1164 z; have _c := own_cn z q2; omega
   refine GoW.sg (mkF m 151 (Sh19 q1 q2 q3 q4 q5 q6 4 1 mi va vb vc vd ve b1161) [(.int 3), (.int 1)]) (fun t k => XS.iload X1164.here hx rfl (B at_122) rfl (XS.iconst X1164.here hx rfl (B at_124) (XS.icmpYes X1164.here hx rfl (pc0 := 125) (pc' := 135) rfl (B at_125) rfl (by decide) (by decide) (by decide) (XS.iload X1164.here hx rfl (B at_135) rfl (XS.iconst X1164.here hx rfl (B at_137) (XS.icmpYes X1164.here hx rfl (pc0 := 138) (pc' := 148) rfl (B at_138) rfl (by decide) (by decide) (by decide) (XS.iload X1164.here hx rfl (B at_148) rfl (XS.iconst X1164.here hx rfl (B at_150) k)))))))) ?_
   refine GoW.sg (mkF m 178 (Sh19 q1 q2 q3 q4 q5 q6 4 1 mi va vb vc vd ve b1161) [(.ref b1161)]) (fun t k => XS.icmpYes X1164.here hx rfl (pc0 := 151) (pc' := 162) rfl (B at_151) rfl (by decide) (by decide) (by decide) (XS.iload X1164.here hx rfl (B at_162) rfl (XS.iconst X1164.here hx rfl (B at_164) (XS.icmpYes X1164.here hx rfl (pc0 := 165) (pc' := 176) rfl (B at_165) rfl (by decide) (by decide) (by decide) (XS.aload X1164.here hx rfl (B at_176) rfl rfl k))))) ?_
   obtain ⟨_, T1171, L1171, X1171, hQ1171, st1171⟩ := own_virt X1164 hx hZ (y := Y3) hown (ww hw 13 rfl) (ww hw 14 rfl) (ww hw 16 rfl) (ww hw 15 rfl) (ww hw 17 rfl) (ww hw 3 rfl) (by decide) 0 (a := b1161) (rm3_44 l Z a0 hw b1161 b1162_e0 k1162_ke0 k1164_f0 k1164_w0 T1164.heap n0 p1164_2 p1164_1 p1164_3 hf1164_0 ) (by decide) (by decide) rfl p1164_0 (by decide) (by decide) (g := (mkF m 178 (Sh19 q1 q2 q3 q4 q5 q6 4 1 mi va vb vc vd ve b1161) [(.ref b1161)])) rfl (by rw [hml]; rfl) (argsL := []) (rest := []) (lenOf pd_2829D rfl) rfl (Nat.le_of_eq rfl) (B at_178)
   obtain ⟨rfl, N1171q, e1171⟩ := hQ1171
   have N1171 := Fr.app N1164 N1171q
   refine GoW.sg (mkF m 181 (Sh19 q1 q2 q3 q4 q5 q6 4 1 mi va vb vc vd ve b1161) [(.double 18442240474082181120)]) (fun t k => st1171 t k) ?_
   refine GoW.sg (mkF m 192 (Sh10 q1 q2 q3 q4 q5 q6 4 1 mi va vb vc vd ve b1161 18442240474082181120) [(.double 18442240474082181120)]) (fun t k => XS.dstore X1171.here hx rfl (B at_181) rfl (l' := (Sh10 q1 q2 q3 q4 q5 q6 4 1 mi va vb vc vd ve b1161 18442240474082181120)) rfl (XS.iload X1171.here hx rfl (B at_183) rfl (XS.iload X1171.here hx rfl (B at_185) rfl (XS.icmpNo X1171.here hx rfl (B at_187) rfl (by decide) (XS.dload X1171.here hx rfl (B at_190) rfl k))))) ?_
   refine GoW.sg (mkF m 195 (Sh10 q1 q2 q3 q4 q5 q6 4 1 mi va vb vc vd ve b1161 18442240474082181120) [(.double 18442240474082181120), (.double 18442240474082181120)]) (fun t k => X1171.ldc2DoubleC hx hown (mvT hZ (ww hw 21 rfl)) (g := (mkF m 192 (Sh10 q1 q2 q3 q4 q5 q6 4 1 mi va vb vc vd ve b1161 18442240474082181120) [(.double 18442240474082181120)])) rfl (B at_192) t k) ?_
   refine GoW.sg (mkF m 204 (Sh10 q1 q2 q3 q4 q5 q6 4 1 mi va vb vc vd ve b1161 18442240474082181120) [(.int 1)]) (fun t k => XS.dcmpS X1171.here hx rfl (B at_195) rfl (v := (0 : Int32)) (by decide +kernel) (XS.ifNo X1171.here hx rfl (B at_196) rfl (by decide) (XS.iconst X1171.here hx rfl (B at_199) (XS.goto X1171.here hx rfl (pc0 := 200) (pc' := 204) rfl (B at_200) (by decide) (by decide) k)))) ?_
   refine GoW.retN X1171 hx (t := .boolean) Bd.returns (by simp) (B at_204) Bd.notSynchronized ?_ (by decide) (by decide)
   exact ⟨rfl, N1171⟩
  ·rw [vv]
   show GoW p e below s (ValQ (.int (1 : Int32)) n0) room_1.cells room_1.slots (s₁.setTop (mkF m 18 (Sh12 q1 q2 q3 q4 q5 q6 4 2) []))
   refine GoW.sg (mkF m 21 (Sh12 q1 q2 q3 q4 q5 q6 4 2) [(.long (-9223372036854775808))]) (fun t k => X0.ldc2Long hx hown (mvT hZ (ww hw 0 rfl)) (g := (mkF m 18 (Sh12 q1 q2 q3 q4 q5 q6 4 2) [])) rfl (B at_18) t k) ?_
   refine GoW.sg (mkF m 39 (Sh14 q1 q2 q3 q4 q5 q6 4 2 (-9223372036854775808) (Int32.toInt64 q2)) [(.int 2)]) (fun t k => XS.lstore X0.here hx rfl (B at_21) rfl (l' := (Sh13 q1 q2 q3 q4 q5 q6 4 2 (-9223372036854775808))) rfl (XS.iload X0.here hx rfl (B at_23) rfl (XS.ifNo X0.here hx rfl (B at_25) rfl (by decide) (XS.iloadN X0.here hx rfl (B at_28) rfl (XS.i2l X0.here hx rfl (B at_29) rfl (XS.goto X0.here hx rfl (pc0 := 30) (pc' := 35) rfl (B at_30) (by decide) (by decide) (XS.lstore X0.here hx rfl (B at_35) rfl (l' := (Sh14 q1 q2 q3 q4 q5 q6 4 2 (-9223372036854775808) (Int32.toInt64 q2))) rfl (XS.iload X0.here hx rfl (B at_37) rfl k)))))))) ?_
   refine GoW.sg (mkF m 55 (Sh15 q1 q2 q3 q4 q5 q6 4 2 (-9223372036854775808) (Int32.toInt64 q2) (Int32.toInt64 q3)) [(.int 2), (.int 2)]) (fun t k => XS.iconst X0.here hx rfl (B at_39) (XS.icmpNo X0.here hx rfl (B at_40) rfl (by decide) (XS.iloadN X0.here hx rfl (B at_43) rfl (XS.i2l X0.here hx rfl (B at_44) rfl (XS.goto X0.here hx rfl (pc0 := 45) (pc' := 50) rfl (B at_45) (by decide) (by decide) (XS.lstore X0.here hx rfl (B at_50) rfl (l' := (Sh15 q1 q2 q3 q4 q5 q6 4 2 (-9223372036854775808) (Int32.toInt64 q2) (Int32.toInt64 q3))) rfl (XS.iload X0.here hx rfl (B at_52) rfl (XS.iconst X0.here hx rfl (B at_54) k)))))))) ?_
   refine GoW.sg (mkF m 83 (Sh17 q1 q2 q3 q4 q5 q6 4 2 (-9223372036854775808) (Int32.toInt64 q2) (Int32.toInt64 q3) (-9223372036854775808) (-9223372036854775808)) []) (fun t k => XS.icmpYes X0.here hx rfl (pc0 := 55) (pc' := 63) rfl (B at_55) rfl (by decide) (by decide) (by decide) (XS.lload X0.here hx rfl (B at_63) rfl (XS.lstore X0.here hx rfl (B at_65) rfl (l' := (Sh16 q1 q2 q3 q4 q5 q6 4 2 (-9223372036854775808) (Int32.toInt64 q2) (Int32.toInt64 q3) (-9223372036854775808))) rfl (XS.iload X0.here hx rfl (B at_67) rfl (XS.iconst X0.here hx rfl (B at_69) (XS.icmpYes X0.here hx rfl (pc0 := 70) (pc' := 79) rfl (B at_70) rfl (by decide) (by decide) (by decide) (XS.lload X0.here hx rfl (B at_79) rfl (XS.lstore X0.here hx rfl (B at_81) rfl (l' := (Sh17 q1 q2 q3 q4 q5 q6 4 2 (-9223372036854775808) (Int32.toInt64 q2) (Int32.toInt64 q3) (-9223372036854775808) (-9223372036854775808))) rfl k)))))))) ?_
   refine GoW.sg (mkF m 99 (Sh18 q1 q2 q3 q4 q5 q6 4 2 (-9223372036854775808) (Int32.toInt64 q2) (Int32.toInt64 q3) (-9223372036854775808) (-9223372036854775808) (-9223372036854775808)) []) (fun t k => XS.iload X0.here hx rfl (B at_83) rfl (XS.iconst X0.here hx rfl (B at_85) (XS.icmpYes X0.here hx rfl (pc0 := 86) (pc' := 95) rfl (B at_86) rfl (by decide) (by decide) (by decide) (XS.lload X0.here hx rfl (B at_95) rfl (XS.lstore X0.here hx rfl (B at_97) rfl (l' := (Sh18 q1 q2 q3 q4 q5 q6 4 2 (-9223372036854775808) (Int32.toInt64 q2) (Int32.toInt64 q3) (-9223372036854775808) (-9223372036854775808) (-9223372036854775808))) rfl k))))) ?_
   obtain ⟨va, hva⟩ : ∃ z : Int64, z = (Int32.toInt64 q2) := ⟨_, rfl⟩
   obtain ⟨vb, hvb⟩ : ∃ z : Int64, z = (Int32.toInt64 q3) := ⟨_, rfl⟩
   obtain ⟨vc, hvc⟩ : ∃ z : Int64, z = (-9223372036854775808 : Int64) := ⟨_, rfl⟩
   obtain ⟨vd, hvd⟩ : ∃ z : Int64, z = (-9223372036854775808 : Int64) := ⟨_, rfl⟩
   obtain ⟨ve, hve⟩ : ∃ z : Int64, z = (-9223372036854775808 : Int64) := ⟨_, rfl⟩
   obtain ⟨mi, hmi⟩ : ∃ z : Int64, z = (-9223372036854775808 : Int64) := ⟨_, rfl⟩
   refine GoW.st (fun t k => by rw [hva, hvb, hvc, hvd, hve, hmi] at k; exact k) ?_ (u := s₁.setTop (mkF m 99 (Sh18 q1 q2 q3 q4 q5 q6 4 2 mi va vb vc vd ve) []))
   show GoW p e below s (ValQ (.int (1 : Int32)) n0) room_1.cells room_1.slots (s₁.setTop (mkF m 99 (Sh18 q1 q2 q3 q4 q5 q6 4 2 mi va vb vc vd ve) []))
   obtain ⟨T1172, h1172, X1172, e1172, E1172, A1172, D1172, -, st1172⟩ := newO X0 hx hZ hown (ww hw 1 rfl) (ww hw 2 rfl) (ww hw 3 rfl) e0 (g := (mkF m 99 (Sh18 q1 q2 q3 q4 q5 q6 4 2 mi va vb vc vd ve) [])) rfl (B at_99) (by decide) (by decide)
   obtain ⟨b1172, g1172⟩ : ∃ z, z = h0.size := ⟨_, rfl⟩
   rw [← g1172] at A1172 D1172 st1172
   have g_b1172 : n0 ≤ b1172 := Nat.le_trans Z0 (Nat.le_of_eq g1172.symm)
   have f1172_87 := Nat.le_trans Z0 E1172.1
   have F1172heap : Fld Z h1172 b1172 HSn "heap" "[D" .null := D1172 (Or.inr (ww hw 12 rfl)) (ty := (.array .double)) (by decide)
   have F1172size : Fld Z h1172 b1172 HSn "size" "I" (.int (0 : Int32)) := D1172 (Or.inl (ww hw 19 rfl)) (ty := .int) (by decide)
   refine GoW.sg (mkF m 102 (Sh18 q1 q2 q3 q4 q5 q6 4 2 mi va vb vc vd ve) [(.ref b1172)]) (fun t k => st1172 t k) ?_
   refine GoW.sg (mkF m 105 (Sh18 q1 q2 q3 q4 q5 q6 4 2 mi va vb vc vd ve) [(.int 4), (.ref b1172), (.ref b1172)]) (fun t k => XS.dup X1172.here hx rfl (B at_102) rfl rfl (XS.iload X1172.here hx rfl (B at_103) rfl k)) ?_
   obtain ⟨_, T1173, L1173, X1173, hQ1173, st1173⟩ := own_spec X1172 hx hZ (y := Y1) rfl hown (ww hw 4 rfl) (ww hw 5 rfl) (ww hw 3 rfl) (ww hw 6 rfl) (by decide) 1 (a := b1172) (rm1_42 l Z a0 hw b1172 h1172 n0 f1172_87 A1172 F1172heap F1172size g_b1172 ) (by decide) (by decide) e1172 (by decide) (by decide) (g := (mkF m 105 (Sh18 q1 q2 q3 q4 q5 q6 4 2 mi va vb vc vd ve) [(.int 4), (.ref b1172), (.ref b1172)])) rfl (by rw [hml]; rfl) (argsL := [(.int (4 : Int32))]) (rest := [(.ref b1172)]) (lenOf pd_28I29V rfl) rfl (Nat.le_of_eq rfl) (B at_105)
   obtain ⟨b1173_e0, k1173_ke0, rfl, N1173q, K1173, p1173_0, p1173_1, p1173_2, p1173_3, hz_b1173_e0⟩ := hQ1173
   have g_b1173_e0 : n0 ≤ b1173_e0 := Nat.le_trans f1172_87 hz_b1173_e0
   have ne_b1172_b1173_e0 : b1172 ≠ b1173_e0 := Nat.ne_of_lt (Nat.lt_of_lt_of_le A1172.lt hz_b1173_e0)
   have N1173 := Fr.app N0 N1173q
   refine GoW.sg (mkF m 108 (Sh18 q1 q2 q3 q4 q5 q6 4 2 mi va vb vc vd ve) [(.ref b1172)]) (fun t k => st1173 t k) ?_
   refine GoW.sg (mkF m 118 (Sh19 q1 q2 q3 q4 q5 q6 4 2 mi va vb vc vd ve b1172) [(.int q2), (.ref b1172)]) (fun t k => XS.astore X1173.here hx rfl (B at_108) rfl rfl (l' := (Sh19 q1 q2 q3 q4 q5 q6 4 2 mi va vb vc vd ve b1172)) rfl (XS.iload X1173.here hx rfl (B at_110) rfl (XS.ifNo X1173.here hx rfl (B at_112) rfl (by decide) (XS.aload X1173.here hx rfl (B at_115) rfl rfl (XS.iloadN X1173.here hx rfl (B at_117) rfl k))))) ?_
   obtain ⟨d1174, hd1174⟩ : ∃ d : UInt64, d = FP.l2d q2.toInt64 := ⟨_, rfl⟩
   refine GoW.sg (mkF m 119 (Sh19 q1 q2 q3 q4 q5 q6 4 2 mi va vb vc vd ve b1172) [(.double d1174), (.ref b1172)]) (fun t k => XS.i2dS X1173.here hx rfl (B at_118) rfl (v := d1174) ((i2d_w _).trans hd1174.symm) k) ?_
   obtain ⟨_, T1175, L1175, X1175, hQ1175, st1175⟩ := own_virt X1173 hx hZ (y := Y4) hown (ww hw 22 rfl) (ww hw 23 rfl) (ww hw 25 rfl) (ww hw 24 rfl) (ww hw 26 rfl) (ww hw 3 rfl) (by decide) 0 (a := b1172) (rmO40 l Z a0 hw b1172 d1174 q2 b1173_e0 k1173_ke0 T1173.heap n0 p1173_0 p1173_2 p1173_1 p1173_3 g_b1172 g_b1173_e0 ne_b1172_b1173_e0 hd1174 trivial) (by decide) (by decide) rfl p1173_0 (by decide) (by decide) (g := (mkF m 119 (Sh19 q1 q2 q3 q4 q5 q6 4 2 mi va vb vc vd ve b1172) [(.double d1174), (.ref b1172)])) rfl (by rw [hml]; rfl) (argsL := [(.double d1174)]) (rest := []) (lenOf pd_28D29V rfl) rfl (Nat.le_of_eq rfl) (B at_119)
   obtain ⟨k1175_w0, k1175_f0, rfl, N1175q, K1175, p1175_0, p1175_1, p1175_2, p1175_3, LQ1175⟩ := hQ1175
   have N1175 := Fr.app N1173 N1175q
   refine GoW.sg (mkF m 122 (Sh19 q1 q2 q3 q4 q5 q6 4 2 mi va vb vc vd ve b1172) []) (fun t k => st1175 t k) ?_
   obtain ⟨hf1175_0, hH1175, hR1175⟩ := LQ1175
   have A1175 : ∀ z : Int, cn z k1175_w0 = cn z q2 := fun z => by have _a := hR1175 z; have _c := own_cn z q2; omega
   refine GoW.sg (mkF m 131 (Sh19 q1 q2 q3 q4 q5 q6 4 2 mi va vb vc vd ve b1172) [(.int q3), (.ref b1172)]) (fun t k => XS.iload X1175.here hx rfl (B at_122) rfl (XS.iconst X1175.here hx rfl (B at_124) (XS.icmpNo X1175.here hx rfl (B at_125) rfl (by decide) (XS.aload X1175.here hx rfl (B at_128) rfl rfl (XS.iloadN X1175.here hx rfl (B at_130) rfl k))))) ?_
   obtain ⟨d1176, hd1176⟩ : ∃ d : UInt64, d = FP.l2d q3.toInt64 := ⟨_, rfl⟩
   refine GoW.sg (mkF m 132 (Sh19 q1 q2 q3 q4 q5 q6 4 2 mi va vb vc vd ve b1172) [(.double d1176), (.ref b1172)]) (fun t k => XS.i2dS X1175.here hx rfl (B at_131) rfl (v := d1176) ((i2d_w _).trans hd1176.symm) k) ?_
   obtain ⟨_, T1177, L1177, X1177, hQ1177, st1177⟩ := own_virt X1175 hx hZ (y := Y4) hown (ww hw 22 rfl) (ww hw 23 rfl) (ww hw 25 rfl) (ww hw 24 rfl) (ww hw 26 rfl) (ww hw 3 rfl) (by decide) 0 (a := b1172) (rmO41 l Z a0 hw b1172 d1176 q3 k1175_w0 k1175_f0 b1173_e0 k1173_ke0 T1175.heap n0 p1175_0 p1175_1 p1175_2 p1175_3 g_b1172 g_b1173_e0 ne_b1172_b1173_e0 hf1175_0 hd1176 hH1175) (by decide) (by decide) rfl p1175_0 (by decide) (by decide) (g := (mkF m 132 (Sh19 q1 q2 q3 q4 q5 q6 4 2 mi va vb vc vd ve b1172) [(.double d1176), (.ref b1172)])) rfl (by rw [hml]; rfl) (argsL := [(.double d1176)]) (rest := []) (lenOf pd_28D29V rfl) rfl (Nat.le_of_eq rfl) (B at_132)
   obtain ⟨k1177_w0, k1177_w1, k1177_f0, k1177_f1, rfl, N1177q, K1177, p1177_0, p1177_1, p1177_2, p1177_3, LQ1177⟩ := hQ1177
   have N1177 := Fr.app N1175 N1177q
   refine GoW.sg (mkF m 135 (Sh19 q1 q2 q3 q4 q5 q6 4 2 mi va vb vc vd ve b1172) []) (fun t k => st1177 t k) ?_
   obtain ⟨hf1177_0, hf1177_1, hH1177, hR1177⟩ := LQ1177
   have A1177 : ∀ z : Int, cn z k1177_w0 + cn z k1177_w1 = cn z q2 + cn z q3 := fun z => by have _a := hR1177 z; have _b := A1175 z; have _c := own_cn z q3; omega
   refine GoW.sg (mkF m 165 (Sh19 q1 q2 q3 q4 q5 q6 4 2 mi va vb vc vd ve b1172) [(.int 4), (.int 2)]) (fun t k => XS.iload X1177.here hx rfl (B at_135) rfl (XS.iconst X1177.here hx rfl (B at_137) (XS.icmpYes X1177.here hx rfl (pc0 := 138) (pc' := 148) rfl (B at_138) rfl (by decide) (by decide) (by decide) (XS.iload X1177.here hx rfl (B at_148) rfl (XS.iconst X1177.here hx rfl (B at_150) (XS.icmpYes X1177.here hx rfl (pc0 := 151) (pc' := 162) rfl (B at_151) rfl (by decide) (by decide) (by decide) (XS.iload X1177.here hx rfl (B at_162) rfl (XS.iconst X1177.here hx rfl (B at_164) k)))))))) ?_
   refine GoW.sg (mkF m 178 (Sh19 q1 q2 q3 q4 q5 q6 4 2 mi va vb vc vd ve b1172) [(.ref b1172)]) (fun t k => XS.icmpYes X1177.here hx rfl (pc0 := 165) (pc' := 176) rfl (B at_165) rfl (by decide) (by decide) (by decide) (XS.aload X1177.here hx rfl (B at_176) rfl rfl k)) ?_
   obtain ⟨_, T1184, L1184, X1184, hQ1184, st1184⟩ := own_virt X1177 hx hZ (y := Y3) hown (ww hw 13 rfl) (ww hw 14 rfl) (ww hw 16 rfl) (ww hw 15 rfl) (ww hw 17 rfl) (ww hw 3 rfl) (by decide) 0 (a := b1172) (rm3_45 l Z a0 hw b1172 b1173_e0 k1173_ke0 k1177_f0 k1177_f1 k1177_w0 k1177_w1 T1177.heap n0 p1177_2 p1177_1 p1177_3 hf1177_0 hf1177_1 ) (by decide) (by decide) rfl p1177_0 (by decide) (by decide) (g := (mkF m 178 (Sh19 q1 q2 q3 q4 q5 q6 4 2 mi va vb vc vd ve b1172) [(.ref b1172)])) rfl (by rw [hml]; rfl) (argsL := []) (rest := []) (lenOf pd_2829D rfl) rfl (Nat.le_of_eq rfl) (B at_178)
   obtain ⟨rfl, N1184q, e1184⟩ := hQ1184
   have N1184 := Fr.app N1177 N1184q
   refine GoW.sg (mkF m 181 (Sh19 q1 q2 q3 q4 q5 q6 4 2 mi va vb vc vd ve b1172) [(.double 18442240474082181120)]) (fun t k => st1184 t k) ?_
   refine GoW.sg (mkF m 192 (Sh10 q1 q2 q3 q4 q5 q6 4 2 mi va vb vc vd ve b1172 18442240474082181120) [(.double 18442240474082181120)]) (fun t k => XS.dstore X1184.here hx rfl (B at_181) rfl (l' := (Sh10 q1 q2 q3 q4 q5 q6 4 2 mi va vb vc vd ve b1172 18442240474082181120)) rfl (XS.iload X1184.here hx rfl (B at_183) rfl (XS.iload X1184.here hx rfl (B at_185) rfl (XS.icmpNo X1184.here hx rfl (B at_187) rfl (by decide) (XS.dload X1184.here hx rfl (B at_190) rfl k))))) ?_
   refine GoW.sg (mkF m 195 (Sh10 q1 q2 q3 q4 q5 q6 4 2 mi va vb vc vd ve b1172 18442240474082181120) [(.double 18442240474082181120), (.double 18442240474082181120)]) (fun t k => X1184.ldc2DoubleC hx hown (mvT hZ (ww hw 21 rfl)) (g := (mkF m 192 (Sh10 q1 q2 q3 q4 q5 q6 4 2 mi va vb vc vd ve b1172 18442240474082181120) [(.double 18442240474082181120)])) rfl (B at_192) t k) ?_
   refine GoW.sg (mkF m 204 (Sh10 q1 q2 q3 q4 q5 q6 4 2 mi va vb vc vd ve b1172 18442240474082181120) [(.int 1)]) (fun t k => XS.dcmpS X1184.here hx rfl (B at_195) rfl (v := (0 : Int32)) (by decide +kernel) (XS.ifNo X1184.here hx rfl (B at_196) rfl (by decide) (XS.iconst X1184.here hx rfl (B at_199) (XS.goto X1184.here hx rfl (pc0 := 200) (pc' := 204) rfl (B at_200) (by decide) (by decide) k)))) ?_
   refine GoW.retN X1184 hx (t := .boolean) Bd.returns (by simp) (B at_204) Bd.notSynchronized ?_ (by decide) (by decide)
   exact ⟨rfl, N1184⟩
  ·rw [vv]
   show GoW p e below s (ValQ (.int (1 : Int32)) n0) room_1.cells room_1.slots (s₁.setTop (mkF m 18 (Sh12 q1 q2 q3 q4 q5 q6 4 3) []))
   refine GoW.sg (mkF m 21 (Sh12 q1 q2 q3 q4 q5 q6 4 3) [(.long (-9223372036854775808))]) (fun t k => X0.ldc2Long hx hown (mvT hZ (ww hw 0 rfl)) (g := (mkF m 18 (Sh12 q1 q2 q3 q4 q5 q6 4 3) [])) rfl (B at_18) t k) ?_
   refine GoW.sg (mkF m 39 (Sh14 q1 q2 q3 q4 q5 q6 4 3 (-9223372036854775808) (Int32.toInt64 q2)) [(.int 3)]) (fun t k => XS.lstore X0.here hx rfl (B at_21) rfl (l' := (Sh13 q1 q2 q3 q4 q5 q6 4 3 (-9223372036854775808))) rfl (XS.iload X0.here hx rfl (B at_23) rfl (XS.ifNo X0.here hx rfl (B at_25) rfl (by decide) (XS.iloadN X0.here hx rfl (B at_28) rfl (XS.i2l X0.here hx rfl (B at_29) rfl (XS.goto X0.here hx rfl (pc0 := 30) (pc' := 35) rfl (B at_30) (by decide) (by decide) (XS.lstore X0.here hx rfl (B at_35) rfl (l' := (Sh14 q1 q2 q3 q4 q5 q6 4 3 (-9223372036854775808) (Int32.toInt64 q2))) rfl (XS.iload X0.here hx rfl (B at_37) rfl k)))))))) ?_
   refine GoW.sg (mkF m 55 (Sh15 q1 q2 q3 q4 q5 q6 4 3 (-9223372036854775808) (Int32.toInt64 q2) (Int32.toInt64 q3)) [(.int 2), (.int 3)]) (fun t k => XS.iconst X0.here hx rfl (B at_39) (XS.icmpNo X0.here hx rfl (B at_40) rfl (by decide) (XS.iloadN X0.here hx rfl (B at_43) rfl (XS.i2l X0.here hx rfl (B at_44) rfl (XS.goto X0.here hx rfl (pc0 := 45) (pc' := 50) rfl (B at_45) (by decide) (by decide) (XS.lstore X0.here hx rfl (B at_50) rfl (l' := (Sh15 q1 q2 q3 q4 q5 q6 4 3 (-9223372036854775808) (Int32.toInt64 q2) (Int32.toInt64 q3))) rfl (XS.iload X0.here hx rfl (B at_52) rfl (XS.iconst X0.here hx rfl (B at_54) k)))))))) ?_
   refine GoW.sg (mkF m 79 (Sh16 q1 q2 q3 q4 q5 q6 4 3 (-9223372036854775808) (Int32.toInt64 q2) (Int32.toInt64 q3) (Int32.toInt64 q4)) []) (fun t k => XS.icmpNo X0.here hx rfl (B at_55) rfl (by decide) (XS.iloadN X0.here hx rfl (B at_58) rfl (XS.i2l X0.here hx rfl (B at_59) rfl (XS.goto X0.here hx rfl (pc0 := 60) (pc' := 65) rfl (B at_60) (by decide) (by decide) (XS.lstore X0.here hx rfl (B at_65) rfl (l' := (Sh16 q1 q2 q3 q4 q5 q6 4 3 (-9223372036854775808) (Int32.toInt64 q2) (Int32.toInt64 q3) (Int32.toInt64 q4))) rfl (XS.iload X0.here hx rfl (B at_67) rfl (XS.iconst X0.here hx rfl (B at_69) (XS.icmpYes X0.here hx rfl (pc0 := 70) (pc' := 79) rfl (B at_70) rfl (by decide) (by decide) (by decide) k)))))))) ?_
   refine GoW.sg (mkF m 99 (Sh18 q1 q2 q3 q4 q5 q6 4 3 (-9223372036854775808) (Int32.toInt64 q2) (Int32.toInt64 q3) (Int32.toInt64 q4) (-9223372036854775808) (-9223372036854775808)) []) (fun t k => XS.lload X0.here hx rfl (B at_79) rfl (XS.lstore X0.here hx rfl (B at_81) rfl (l' := (Sh17 q1 q2 q3 q4 q5 q6 4 3 (-9223372036854775808) (Int32.toInt64 q2) (Int32.toInt64 q3) (Int32.toInt64 q4) (-9223372036854775808))) rfl (XS.iload X0.here hx rfl (B at_83) rfl (XS.iconst X0.here hx rfl (B at_85) (XS.icmpYes X0.here hx rfl (pc0 := 86) (pc' := 95) rfl (B at_86) rfl (by decide) (by decide) (by decide) (XS.lload X0.here hx rfl (B at_95) rfl (XS.lstore X0.here hx rfl (B at_97) rfl (l' := (Sh18 q1 q2 q3 q4 q5 q6 4 3 (-9223372036854775808) (Int32.toInt64 q2) (Int32.toInt64 q3) (Int32.toInt64 q4) (-9223372036854775808) (-9223372036854775808))) rfl k))))))) ?_
   obtain ⟨va, hva⟩ : ∃ z : Int64, z = (Int32.toInt64 q2) := ⟨_, rfl⟩
   obtain ⟨vb, hvb⟩ : ∃ z : Int64, z = (Int32.toInt64 q3) := ⟨_, rfl⟩
   obtain ⟨vc, hvc⟩ : ∃ z : Int64, z = (Int32.toInt64 q4) := ⟨_, rfl⟩
   obtain ⟨vd, hvd⟩ : ∃ z : Int64, z = (-9223372036854775808 : Int64) := ⟨_, rfl⟩
   obtain ⟨ve, hve⟩ : ∃ z : Int64, z = (-9223372036854775808 : Int64) := ⟨_, rfl⟩
   obtain ⟨mi, hmi⟩ : ∃ z : Int64, z = (-9223372036854775808 : Int64) := ⟨_, rfl⟩
   refine GoW.st (fun t k => by rw [hva, hvb, hvc, hvd, hve, hmi] at k; exact k) ?_ (u := s₁.setTop (mkF m 99 (Sh18 q1 q2 q3 q4 q5 q6 4 3 mi va vb vc vd ve) []))
   show GoW p e below s (ValQ (.int (1 : Int32)) n0) room_1.cells room_1.slots (s₁.setTop (mkF m 99 (Sh18 q1 q2 q3 q4 q5 q6 4 3 mi va vb vc vd ve) []))
   obtain ⟨T1185, h1185, X1185, e1185, E1185, A1185, D1185, -, st1185⟩ := newO X0 hx hZ hown (ww hw 1 rfl) (ww hw 2 rfl) (ww hw 3 rfl) e0 (g := (mkF m 99 (Sh18 q1 q2 q3 q4 q5 q6 4 3 mi va vb vc vd ve) [])) rfl (B at_99) (by decide) (by decide)
   obtain ⟨b1185, g1185⟩ : ∃ z, z = h0.size := ⟨_, rfl⟩
   rw [← g1185] at A1185 D1185 st1185
   have g_b1185 : n0 ≤ b1185 := Nat.le_trans Z0 (Nat.le_of_eq g1185.symm)
   have f1185_91 := Nat.le_trans Z0 E1185.1
   have F1185heap : Fld Z h1185 b1185 HSn "heap" "[D" .null := D1185 (Or.inr (ww hw 12 rfl)) (ty := (.array .double)) (by decide)
   have F1185size : Fld Z h1185 b1185 HSn "size" "I" (.int (0 : Int32)) := D1185 (Or.inl (ww hw 19 rfl)) (ty := .int) (by decide)
   refine GoW.sg (mkF m 102 (Sh18 q1 q2 q3 q4 q5 q6 4 3 mi va vb vc vd ve) [(.ref b1185)]) (fun t k => st1185 t k) ?_
   refine GoW.sg (mkF m 105 (Sh18 q1 q2 q3 q4 q5 q6 4 3 mi va vb vc vd ve) [(.int 4), (.ref b1185), (.ref b1185)]) (fun t k => XS.dup X1185.here hx rfl (B at_102) rfl rfl (XS.iload X1185.here hx rfl (B at_103) rfl k)) ?_
   obtain ⟨_, T1186, L1186, X1186, hQ1186, st1186⟩ := own_spec X1185 hx hZ (y := Y1) rfl hown (ww hw 4 rfl) (ww hw 5 rfl) (ww hw 3 rfl) (ww hw 6 rfl) (by decide) 1 (a := b1185) (rm1_42 l Z a0 hw b1185 h1185 n0 f1185_91 A1185 F1185heap F1185size g_b1185 ) (by decide) (by decide) e1185 (by decide) (by decide) (g := (mkF m 105 (Sh18 q1 q2 q3 q4 q5 q6 4 3 mi va vb vc vd ve) [(.int 4), (.ref b1185), (.ref b1185)])) rfl (by rw [hml]; rfl) (argsL := [(.int (4 : Int32))]) (rest := [(.ref b1185)]) (lenOf pd_28I29V rfl) rfl (Nat.le_of_eq rfl) (B at_105)
   obtain ⟨b1186_e0, k1186_ke0, rfl, N1186q, K1186, p1186_0, p1186_1, p1186_2, p1186_3, hz_b1186_e0⟩ := hQ1186
   have g_b1186_e0 : n0 ≤ b1186_e0 := Nat.le_trans f1185_91 hz_b1186_e0
   have ne_b1185_b1186_e0 : b1185 ≠ b1186_e0 := Nat.ne_of_lt (Nat.lt_of_lt_of_le A1185.lt hz_b1186_e0)
   have N1186 := Fr.app N0 N1186q
   refine GoW.sg (mkF m 108 (Sh18 q1 q2 q3 q4 q5 q6 4 3 mi va vb vc vd ve) [(.ref b1185)]) (fun t k => st1186 t k) ?_
   refine GoW.sg (mkF m 118 (Sh19 q1 q2 q3 q4 q5 q6 4 3 mi va vb vc vd ve b1185) [(.int q2), (.ref b1185)]) (fun t k => XS.astore X1186.here hx rfl (B at_108) rfl rfl (l' := (Sh19 q1 q2 q3 q4 q5 q6 4 3 mi va vb vc vd ve b1185)) rfl (XS.iload X1186.here hx rfl (B at_110) rfl (XS.ifNo X1186.here hx rfl (B at_112) rfl (by decide) (XS.aload X1186.here hx rfl (B at_115) rfl rfl (XS.iloadN X1186.here hx rfl (B at_117) rfl k))))) ?_
   obtain ⟨d1187, hd1187⟩ : ∃ d : UInt64, d = FP.l2d q2.toInt64 := ⟨_, rfl⟩
   refine GoW.sg (mkF m 119 (Sh19 q1 q2 q3 q4 q5 q6 4 3 mi va vb vc vd ve b1185) [(.double d1187), (.ref b1185)]) (fun t k => XS.i2dS X1186.here hx rfl (B at_118) rfl (v := d1187) ((i2d_w _).trans hd1187.symm) k) ?_
   obtain ⟨_, T1188, L1188, X1188, hQ1188, st1188⟩ := own_virt X1186 hx hZ (y := Y4) hown (ww hw 22 rfl) (ww hw 23 rfl) (ww hw 25 rfl) (ww hw 24 rfl) (ww hw 26 rfl) (ww hw 3 rfl) (by decide) 0 (a := b1185) (rmO40 l Z a0 hw b1185 d1187 q2 b1186_e0 k1186_ke0 T1186.heap n0 p1186_0 p1186_2 p1186_1 p1186_3 g_b1185 g_b1186_e0 ne_b1185_b1186_e0 hd1187 trivial) (by decide) (by decide) rfl p1186_0 (by decide) (by decide) (g := (mkF m 119 (Sh19 q1 q2 q3 q4 q5 q6 4 3 mi va vb vc vd ve b1185) [(.double d1187), (.ref b1185)])) rfl (by rw [hml]; rfl) (argsL := [(.double d1187)]) (rest := []) (lenOf pd_28D29V rfl) rfl (Nat.le_of_eq rfl) (B at_119)
   obtain ⟨k1188_w0, k1188_f0, rfl, N1188q, K1188, p1188_0, p1188_1, p1188_2, p1188_3, LQ1188⟩ := hQ1188
   have N1188 := Fr.app N1186 N1188q
   refine GoW.sg (mkF m 122 (Sh19 q1 q2 q3 q4 q5 q6 4 3 mi va vb vc vd ve b1185) []) (fun t k => st1188 t k) ?_
   obtain ⟨hf1188_0, hH1188, hR1188⟩ := LQ1188
   have A1188 : ∀ z : Int, cn z k1188_w0 = cn z q2 := fun z => by have _a := hR1188 z; have _c := own_cn z q2; omega
   refine GoW.sg (mkF m 131 (Sh19 q1 q2 q3 q4 q5 q6 4 3 mi va vb vc vd ve b1185) [(.int q3), (.ref b1185)]) (fun t k => XS.iload X1188.here hx rfl (B at_122) rfl (XS.iconst X1188.here hx rfl (B at_124) (XS.icmpNo X1188.here hx rfl (B at_125) rfl (by decide) (XS.aload X1188.here hx rfl (B at_128) rfl rfl (XS.iloadN X1188.here hx rfl (B at_130) rfl k))))) ?_
   obtain ⟨d1189, hd1189⟩ : ∃ d : UInt64, d = FP.l2d q3.toInt64 := ⟨_, rfl⟩
   refine GoW.sg (mkF m 132 (Sh19 q1 q2 q3 q4 q5 q6 4 3 mi va vb vc vd ve b1185) [(.double d1189), (.ref b1185)]) (fun t k => XS.i2dS X1188.here hx rfl (B at_131) rfl (v := d1189) ((i2d_w _).trans hd1189.symm) k) ?_
   obtain ⟨_, T1190, L1190, X1190, hQ1190, st1190⟩ := own_virt X1188 hx hZ (y := Y4) hown (ww hw 22 rfl) (ww hw 23 rfl) (ww hw 25 rfl) (ww hw 24 rfl) (ww hw 26 rfl) (ww hw 3 rfl) (by decide) 0 (a := b1185) (rmO41 l Z a0 hw b1185 d1189 q3 k1188_w0 k1188_f0 b1186_e0 k1186_ke0 T1188.heap n0 p1188_0 p1188_1 p1188_2 p1188_3 g_b1185 g_b1186_e0 ne_b1185_b1186_e0 hf1188_0 hd1189 hH1188) (by decide) (by decide) rfl p1188_0 (by decide) (by decide) (g := (mkF m 132 (Sh19 q1 q2 q3 q4 q5 q6 4 3 mi va vb vc vd ve b1185) [(.double d1189), (.ref b1185)])) rfl (by rw [hml]; rfl) (argsL := [(.double d1189)]) (rest := []) (lenOf pd_28D29V rfl) rfl (Nat.le_of_eq rfl) (B at_132)
   obtain ⟨k1190_w0, k1190_w1, k1190_f0, k1190_f1, rfl, N1190q, K1190, p1190_0, p1190_1, p1190_2, p1190_3, LQ1190⟩ := hQ1190
   have N1190 := Fr.app N1188 N1190q
   refine GoW.sg (mkF m 135 (Sh19 q1 q2 q3 q4 q5 q6 4 3 mi va vb vc vd ve b1185) []) (fun t k => st1190 t k) ?_
   obtain ⟨hf1190_0, hf1190_1, hH1190, hR1190⟩ := LQ1190
   have A1190 : ∀ z : Int, cn z k1190_w0 + cn z k1190_w1 = cn z q2 + cn z q3 := fun z => by have _a := hR1190 z; have _b := A1188 z; have _c := own_cn z q3; omega
   refine GoW.sg (mkF m 144 (Sh19 q1 q2 q3 q4 q5 q6 4 3 mi va vb vc vd ve b1185) [(.int q4), (.ref b1185)]) (fun t k => XS.iload X1190.here hx rfl (B at_135) rfl (XS.iconst X1190.here hx rfl (B at_137) (XS.icmpNo X1190.here hx rfl (B at_138) rfl (by decide) (XS.aload X1190.here hx rfl (B at_141) rfl rfl (XS.iloadN X1190.here hx rfl (B at_143) rfl k))))) ?_
   obtain ⟨d1191, hd1191⟩ : ∃ d : UInt64, d = FP.l2d q4.toInt64 := ⟨_, rfl⟩
   refine GoW.sg (mkF m 145 (Sh19 q1 q2 q3 q4 q5 q6 4 3 mi va vb vc vd ve b1185) [(.double d1191), (.ref b1185)]) (fun t k => XS.i2dS X1190.here hx rfl (B at_144) rfl (v := d1191) ((i2d_w _).trans hd1191.symm) k) ?_
   obtain ⟨_, T1192, L1192, X1192, hQ1192, st1192⟩ := own_virt X1190 hx hZ (y := Y4) hown (ww hw 22 rfl) (ww hw 23 rfl) (ww hw 25 rfl) (ww hw 24 rfl) (ww hw 26 rfl) (ww hw 3 rfl) (by decide) 0 (a := b1185) (rmO42 l Z a0 hw b1185 d1191 q4 k1190_w0 k1190_w1 k1190_f0 k1190_f1 b1186_e0 k1186_ke0 T1190.heap n0 p1190_0 p1190_1 p1190_2 p1190_3 g_b1185 g_b1186_e0 ne_b1185_b1186_e0 hf1190_0 hf1190_1 hd1191 hH1190) (by decide) (by decide) rfl p1190_0 (by decide) (by decide) (g := (mkF m 145 (Sh19 q1 q2 q3 q4 q5 q6 4 3 mi va vb vc vd ve b1185) [(.double d1191), (.ref b1185)])) rfl (by rw [hml]; rfl) (argsL := [(.double d1191)]) (rest := []) (lenOf pd_28D29V rfl) rfl (Nat.le_of_eq rfl) (B at_145)
   obtain ⟨k1192_w0, k1192_w1, k1192_w2, k1192_f0, k1192_f1, k1192_f2, rfl, N1192q, K1192, p1192_0, p1192_1, p1192_2, p1192_3, LQ1192⟩ := hQ1192
   have N1192 := Fr.app N1190 N1192q
   refine GoW.sg (mkF m 148 (Sh19 q1 q2 q3 q4 q5 q6 4 3 mi va vb vc vd ve b1185) []) (fun t k => st1192 t k) ?_
   obtain ⟨hf1192_0, hf1192_1, hf1192_2, hH1192, hR1192⟩ := LQ1192
   have A1192 : ∀ z : Int, cn z k1192_w0 + cn z k1192_w1 + cn z k1192_w2 = cn z q2 + cn z q3 + cn z q4 := fun z => by have _a := hR1192 z; have _b := A1190 z; have _c := own_cn z q4; omega
   refine GoW.sg (mkF m 178 (Sh19 q1 q2 q3 q4 q5 q6 4 3 mi va vb vc vd ve b1185) [(.ref b1185)]) (fun t k => XS.iload X1192.here hx rfl (B at_148) rfl (XS.iconst X1192.here hx rfl (B at_150) (XS.icmpYes X1192.here hx rfl (pc0 := 151) (pc' := 162) rfl (B at_151) rfl (by decide) (by decide) (by decide) (XS.iload X1192.here hx rfl (B at_162) rfl (XS.iconst X1192.here hx rfl (B at_164) (XS.icmpYes X1192.here hx rfl (pc0 := 165) (pc' := 176) rfl (B at_165) rfl (by decide) (by decide) (by decide) (XS.aload X1192.here hx rfl (B at_176) rfl rfl k))))))) ?_
   obtain ⟨_, T1199, L1199, X1199, hQ1199, st1199⟩ := own_virt X1192 hx hZ (y := Y3) hown (ww hw 13 rfl) (ww hw 14 rfl) (ww hw 16 rfl) (ww hw 15 rfl) (ww hw 17 rfl) (ww hw 3 rfl) (by decide) 0 (a := b1185) (rm3_46 l Z a0 hw b1185 b1186_e0 k1186_ke0 k1192_f0 k1192_f1 k1192_f2 k1192_w0 k1192_w1 k1192_w2 T1192.heap n0 p1192_2 p1192_1 p1192_3 hf1192_0 hf1192_1 hf1192_2 ) (by decide) (by decide) rfl p1192_0 (by decide) (by decide) (g := (mkF m 178 (Sh19 q1 q2 q3 q4 q5 q6 4 3 mi va vb vc vd ve b1185) [(.ref b1185)])) rfl (by rw [hml]; rfl) (argsL := []) (rest := []) (lenOf pd_2829D rfl) rfl (Nat.le_of_eq rfl) (B at_178)
   obtain ⟨rfl, N1199q, e1199⟩ := hQ1199
   have N1199 := Fr.app N1192 N1199q
   refine GoW.sg (mkF m 181 (Sh19 q1 q2 q3 q4 q5 q6 4 3 mi va vb vc vd ve b1185) [(.double 18442240474082181120)]) (fun t k => st1199 t k) ?_
   refine GoW.sg (mkF m 192 (Sh10 q1 q2 q3 q4 q5 q6 4 3 mi va vb vc vd ve b1185 18442240474082181120) [(.double 18442240474082181120)]) (fun t k => XS.dstore X1199.here hx rfl (B at_181) rfl (l' := (Sh10 q1 q2 q3 q4 q5 q6 4 3 mi va vb vc vd ve b1185 18442240474082181120)) rfl (XS.iload X1199.here hx rfl (B at_183) rfl (XS.iload X1199.here hx rfl (B at_185) rfl (XS.icmpNo X1199.here hx rfl (B at_187) rfl (by decide) (XS.dload X1199.here hx rfl (B at_190) rfl k))))) ?_
   refine GoW.sg (mkF m 195 (Sh10 q1 q2 q3 q4 q5 q6 4 3 mi va vb vc vd ve b1185 18442240474082181120) [(.double 18442240474082181120), (.double 18442240474082181120)]) (fun t k => X1199.ldc2DoubleC hx hown (mvT hZ (ww hw 21 rfl)) (g := (mkF m 192 (Sh10 q1 q2 q3 q4 q5 q6 4 3 mi va vb vc vd ve b1185 18442240474082181120) [(.double 18442240474082181120)])) rfl (B at_192) t k) ?_
   refine GoW.sg (mkF m 204 (Sh10 q1 q2 q3 q4 q5 q6 4 3 mi va vb vc vd ve b1185 18442240474082181120) [(.int 1)]) (fun t k => XS.dcmpS X1199.here hx rfl (B at_195) rfl (v := (0 : Int32)) (by decide +kernel) (XS.ifNo X1199.here hx rfl (B at_196) rfl (by decide) (XS.iconst X1199.here hx rfl (B at_199) (XS.goto X1199.here hx rfl (pc0 := 200) (pc' := 204) rfl (B at_200) (by decide) (by decide) k)))) ?_
   refine GoW.retN X1199 hx (t := .boolean) Bd.returns (by simp) (B at_204) Bd.notSynchronized ?_ (by decide) (by decide)
   exact ⟨rfl, N1199⟩
  ·rw [vv]
   show GoW p e below s (ValQ (.int (1 : Int32)) n0) room_1.cells room_1.slots (s₁.setTop (mkF m 18 (Sh12 q1 q2 q3 q4 q5 q6 4 4) []))
   refine GoW.sg (mkF m 21 (Sh12 q1 q2 q3 q4 q5 q6 4 4) [(.long (-9223372036854775808))]) (fun t k => X0.ldc2Long hx hown (mvT hZ (ww hw 0 rfl)) (g := (mkF m 18 (Sh12 q1 q2 q3 q4 q5 q6 4 4) [])) rfl (B at_18) t k) ?_
   refine GoW.sg (mkF m 39 (Sh14 q1 q2 q3 q4 q5 q6 4 4 (-9223372036854775808) (Int32.toInt64 q2)) [(.int 4)]) (fun t k => XS.lstore X0.here hx rfl (B at_21) rfl (l' := (Sh13 q1 q2 q3 q4 q5 q6 4 4 (-9223372036854775808))) rfl (XS.iload X0.here hx rfl (B at_23) rfl (XS.ifNo X0.here hx rfl (B at_25) rfl (by decide) (XS.iloadN X0.here hx rfl (B at_28) rfl (XS.i2l X0.here hx rfl (B at_29) rfl (XS.goto X0.here hx rfl (pc0 := 30) (pc' := 35) rfl (B at_30) (by decide) (by decide) (XS.lstore X0.here hx rfl (B at_35) rfl (l' := (Sh14 q1 q2 q3 q4 q5 q6 4 4 (-9223372036854775808) (Int32.toInt64 q2))) rfl (XS.iload X0.here hx rfl (B at_37) rfl k)))))))) ?_
   refine GoW.sg (mkF m 55 (Sh15 q1 q2 q3 q4 q5 q6 4 4 (-9223372036854775808) (Int32.toInt64 q2) (Int32.toInt64 q3)) [(.int 2), (.int 4)]) (fun t k => XS.iconst X0.here hx rfl (B at_39) (XS.icmpNo X0.here hx rfl (B at_40) rfl (by decide) (XS.iloadN X0.here hx rfl (B at_43) rfl (XS.i2l X0.here hx rfl (B at_44) rfl (XS.goto X0.here hx rfl (pc0 := 45) (pc' := 50) rfl (B at_45) (by decide) (by decide) (XS.lstore X0.here hx rfl (B at_50) rfl (l' := (Sh15 q1 q2 q3 q4 q5 q6 4 4 (-9223372036854775808) (Int32.toInt64 q2) (Int32.toInt64 q3))) rfl (XS.iload X0.here hx rfl (B at_52) rfl (XS.iconst X0.here hx rfl (B at_54) k)))))))) ?_
   refine GoW.sg (mkF m 73 (Sh16 q1 q2 q3 q4 q5 q6 4 4 (-9223372036854775808) (Int32.toInt64 q2) (Int32.toInt64 q3) (Int32.toInt64 q4)) []) (fun t k => XS.icmpNo X0.here hx rfl (B at_55) rfl (by decide) (XS.iloadN X0.here hx rfl (B at_58) rfl (XS.i2l X0.here hx rfl (B at_59) rfl (XS.goto X0.here hx rfl (pc0 := 60) (pc' := 65) rfl (B at_60) (by decide) (by decide) (XS.lstore X0.here hx rfl (B at_65) rfl (l' := (Sh16 q1 q2 q3 q4 q5 q6 4 4 (-9223372036854775808) (Int32.toInt64 q2) (Int32.toInt64 q3) (Int32.toInt64 q4))) rfl (XS.iload X0.here hx rfl (B at_67) rfl (XS.iconst X0.here hx rfl (B at_69) (XS.icmpNo X0.here hx rfl (B at_70) rfl (by decide) k)))))))) ?_
   refine GoW.sg (mkF m 97 (Sh17 q1 q2 q3 q4 q5 q6 4 4 (-9223372036854775808) (Int32.toInt64 q2) (Int32.toInt64 q3) (Int32.toInt64 q4) (Int32.toInt64 q5)) [(.long (-9223372036854775808))]) (fun t k => XS.iload X0.here hx rfl (B at_73) rfl (XS.i2l X0.here hx rfl (B at_75) rfl (XS.goto X0.here hx rfl (pc0 := 76) (pc' := 81) rfl (B at_76) (by decide) (by decide) (XS.lstore X0.here hx rfl (B at_81) rfl (l' := (Sh17 q1 q2 q3 q4 q5 q6 4 4 (-9223372036854775808) (Int32.toInt64 q2) (Int32.toInt64 q3) (Int32.toInt64 q4) (Int32.toInt64 q5))) rfl (XS.iload X0.here hx rfl (B at_83) rfl (XS.iconst X0.here hx rfl (B at_85) (XS.icmpYes X0.here hx rfl (pc0 := 86) (pc' := 95) rfl (B at_86) rfl (by decide) (by decide) (by decide) (XS.lload X0.here hx rfl (B at_95) rfl k)))))))) ?_
   refine GoW.sg (mkF m 99 (Sh18 q1 q2 q3 q4 q5 q6 4 4 (-9223372036854775808) (Int32.toInt64 q2) (Int32.toInt64 q3) (Int32.toInt64 q4) (Int32.toInt64 q5) (-9223372036854775808)) []) (fun t k => XS.lstore X0.here hx rfl (B at_97) rfl (l' := (Sh18 q1 q2 q3 q4 q5 q6 4 4 (-9223372036854775808) (Int32.toInt64 q2) (Int32.toInt64 q3) (Int32.toInt64 q4) (Int32.toInt64 q5) (-9223372036854775808))) rfl k) ?_
   obtain ⟨va, hva⟩ : ∃ z : Int64, z = (Int32.toInt64 q2) := ⟨_, rfl⟩
   obtain ⟨vb, hvb⟩ : ∃ z : Int64, z = (Int32.toInt64 q3) := ⟨_, rfl⟩
   obtain ⟨vc, hvc⟩ : ∃ z : Int64, z = (Int32.toInt64 q4) := ⟨_, rfl⟩
   obtain ⟨vd, hvd⟩ : ∃ z : Int64, z = (Int32.toInt64 q5) := ⟨_, rfl⟩
   obtain ⟨ve, hve⟩ : ∃ z : Int64, z = (-9223372036854775808 : Int64) := ⟨_, rfl⟩
   obtain ⟨mi, hmi⟩ : ∃ z : Int64, z = (-9223372036854775808 : Int64) := ⟨_, rfl⟩
   refine GoW.st (fun t k => by rw [hva, hvb, hvc, hvd, hve, hmi] at k; exact k) ?_ (u := s₁.setTop (mkF m 99 (Sh18 q1 q2 q3 q4 q5 q6 4 4 mi va vb vc vd ve) []))
   show GoW p e below s (ValQ (.int (1 : Int32)) n0) room_1.cells room_1.slots (s₁.setTop (mkF m 99 (Sh18 q1 q2 q3 q4 q5 q6 4 4 mi va vb vc vd ve) []))
   obtain ⟨T1200, h1200, X1200, e1200, E1200, A1200, D1200, -, st1200⟩ := newO X0 hx hZ hown (ww hw 1 rfl) (ww hw 2 rfl) (ww hw 3 rfl) e0 (g := (mkF m 99 (Sh18 q1 q2 q3 q4 q5 q6 4 4 mi va vb vc vd ve) [])) rfl (B at_99) (by decide) (by decide)
   obtain ⟨b1200, g1200⟩ : ∃ z, z = h0.size := ⟨_, rfl⟩
   rw [← g1200] at A1200 D1200 st1200
   have g_b1200 : n0 ≤ b1200 := Nat.le_trans Z0 (Nat.le_of_eq g1200.symm)
   have f1200_96 := Nat.le_trans Z0 E1200.1
   have F1200heap : Fld Z h1200 b1200 HSn "heap" "[D" .null := D1200 (Or.inr (ww hw 12 rfl)) (ty := (.array .double)) (by decide)
   have F1200size : Fld Z h1200 b1200 HSn "size" "I" (.int (0 : Int32)) := D1200 (Or.inl (ww hw 19 rfl)) (ty := .int) (by decide)
   refine GoW.sg (mkF m 102 (Sh18 q1 q2 q3 q4 q5 q6 4 4 mi va vb vc vd ve) [(.ref b1200)]) (fun t k => st1200 t k) ?_
   refine GoW.sg (mkF m 105 (Sh18 q1 q2 q3 q4 q5 q6 4 4 mi va vb vc vd ve) [(.int 4), (.ref b1200), (.ref b1200)]) (fun t k => XS.dup X1200.here hx rfl (B at_102) rfl rfl (XS.iload X1200.here hx rfl (B at_103) rfl k)) ?_
   obtain ⟨_, T1201, L1201, X1201, hQ1201, st1201⟩ := own_spec X1200 hx hZ (y := Y1) rfl hown (ww hw 4 rfl) (ww hw 5 rfl) (ww hw 3 rfl) (ww hw 6 rfl) (by decide) 1 (a := b1200) (rm1_42 l Z a0 hw b1200 h1200 n0 f1200_96 A1200 F1200heap F1200size g_b1200 ) (by decide) (by decide) e1200 (by decide) (by decide) (g := (mkF m 105 (Sh18 q1 q2 q3 q4 q5 q6 4 4 mi va vb vc vd ve) [(.int 4), (.ref b1200), (.ref b1200)])) rfl (by rw [hml]; rfl) (argsL := [(.int (4 : Int32))]) (rest := [(.ref b1200)]) (lenOf pd_28I29V rfl) rfl (Nat.le_of_eq rfl) (B at_105)
   obtain ⟨b1201_e0, k1201_ke0, rfl, N1201q, K1201, p1201_0, p1201_1, p1201_2, p1201_3, hz_b1201_e0⟩ := hQ1201
   have g_b1201_e0 : n0 ≤ b1201_e0 := Nat.le_trans f1200_96 hz_b1201_e0
   have ne_b1200_b1201_e0 : b1200 ≠ b1201_e0 := Nat.ne_of_lt (Nat.lt_of_lt_of_le A1200.lt hz_b1201_e0)
   have N1201 := Fr.app N0 N1201q
   refine GoW.sg (mkF m 108 (Sh18 q1 q2 q3 q4 q5 q6 4 4 mi va vb vc vd ve) [(.ref b1200)]) (fun t k => st1201 t k) ?_
   refine GoW.sg (mkF m 118 (Sh19 q1 q2 q3 q4 q5 q6 4 4 mi va vb vc vd ve b1200) [(.int q2), (.ref b1200)]) (fun t k => XS.astore X1201.here hx rfl (B at_108) rfl rfl (l' := (Sh19 q1 q2 q3 q4 q5 q6 4 4 mi va vb vc vd ve b1200)) rfl (XS.iload X1201.here hx rfl (B at_110) rfl (XS.ifNo X1201.here hx rfl (B at_112) rfl (by decide) (XS.aload X1201.here hx rfl (B at_115) rfl rfl (XS.iloadN X1201.here hx rfl (B at_117) rfl k))))) ?_
   obtain ⟨d1202, hd1202⟩ : ∃ d : UInt64, d = FP.l2d q2.toInt64 := ⟨_, rfl⟩
   refine GoW.sg (mkF m 119 (Sh19 q1 q2 q3 q4 q5 q6 4 4 mi va vb vc vd ve b1200) [(.double d1202), (.ref b1200)]) (fun t k => XS.i2dS X1201.here hx rfl (B at_118) rfl (v := d1202) ((i2d_w _).trans hd1202.symm) k) ?_
   obtain ⟨_, T1203, L1203, X1203, hQ1203, st1203⟩ := own_virt X1201 hx hZ (y := Y4) hown (ww hw 22 rfl) (ww hw 23 rfl) (ww hw 25 rfl) (ww hw 24 rfl) (ww hw 26 rfl) (ww hw 3 rfl) (by decide) 0 (a := b1200) (rmO40 l Z a0 hw b1200 d1202 q2 b1201_e0 k1201_ke0 T1201.heap n0 p1201_0 p1201_2 p1201_1 p1201_3 g_b1200 g_b1201_e0 ne_b1200_b1201_e0 hd1202 trivial) (by decide) (by decide) rfl p1201_0 (by decide) (by decide) (g := (mkF m 119 (Sh19 q1 q2 q3 q4 q5 q6 4 4 mi va vb vc vd ve b1200) [(.double d1202), (.ref b1200)])) rfl (by rw [hml]; rfl) (argsL := [(.double d1202)]) (rest := []) (lenOf pd_28D29V rfl) rfl (Nat.le_of_eq rfl) (B at_119)
   obtain ⟨k1203_w0, k1203_f0, rfl, N1203q, K1203, p1203_0, p1203_1, p1203_2, p1203_3, LQ1203⟩ := hQ1203
   have N1203 := Fr.app N1201 N1203q
   refine GoW.sg (mkF m 122 (Sh19 q1 q2 q3 q4 q5 q6 4 4 mi va vb vc vd ve b1200) []) (fun t k => st1203 t k) ?_
   obtain ⟨hf1203_0, hH1203, hR1203⟩ := LQ1203
   have A1203 : ∀ z : Int, cn z k1203_w0 = cn z q2 := fun z => by have _a := hR1203 z; have _c := own_cn z q2; omega
   refine GoW.sg (mkF m 131 (Sh19 q1 q2 q3 q4 q5 q6 4 4 mi va vb vc vd ve b1200) [(.int q3), (.ref b1200)]) (fun t k => XS.iload X1203.here hx rfl (B at_122) rfl (XS.iconst X1203.here hx rfl (B at_124) (XS.icmpNo X1203.here hx rfl (B at_125) rfl (by decide) (XS.aload X1203.here hx rfl (B at_128) rfl rfl (XS.iloadN X1203.here hx rfl (B at_130) rfl k))))) ?_
   obtain ⟨d1204, hd1204⟩ : ∃ d : UInt64, d = FP.l2d q3.toInt64 := ⟨_, rfl⟩
   refine GoW.sg (mkF m 132 (Sh19 q1 q2 q3 q4 q5 q6 4 4 mi va vb vc vd ve b1200) [(.double d1204), (.ref b1200)]) (fun t k => XS.i2dS X1203.here hx rfl (B at_131) rfl (v := d1204) ((i2d_w _).trans hd1204.symm) k) ?_
   obtain ⟨_, T1205, L1205, X1205, hQ1205, st1205⟩ := own_virt X1203 hx hZ (y := Y4) hown (ww hw 22 rfl) (ww hw 23 rfl) (ww hw 25 rfl) (ww hw 24 rfl) (ww hw 26 rfl) (ww hw 3 rfl) (by decide) 0 (a := b1200) (rmO41 l Z a0 hw b1200 d1204 q3 k1203_w0 k1203_f0 b1201_e0 k1201_ke0 T1203.heap n0 p1203_0 p1203_1 p1203_2 p1203_3 g_b1200 g_b1201_e0 ne_b1200_b1201_e0 hf1203_0 hd1204 hH1203) (by decide) (by decide) rfl p1203_0 (by decide) (by decide) (g := (mkF m 132 (Sh19 q1 q2 q3 q4 q5 q6 4 4 mi va vb vc vd ve b1200) [(.double d1204), (.ref b1200)])) rfl (by rw [hml]; rfl) (argsL := [(.double d1204)]) (rest := []) (lenOf pd_28D29V rfl) rfl (Nat.le_of_eq rfl) (B at_132)
   obtain ⟨k1205_w0, k1205_w1, k1205_f0, k1205_f1, rfl, N1205q, K1205, p1205_0, p1205_1, p1205_2, p1205_3, LQ1205⟩ := hQ1205
   have N1205 := Fr.app N1203 N1205q
   refine GoW.sg (mkF m 135 (Sh19 q1 q2 q3 q4 q5 q6 4 4 mi va vb vc vd ve b1200) []) (fun t k => st1205 t k) ?_
   obtain ⟨hf1205_0, hf1205_1, hH1205, hR1205⟩ := LQ1205
   have A1205 : ∀ z : Int, cn z k1205_w0 + cn z k1205_w1 = cn z q2 + cn z q3 := fun z => by have _a := hR1205 z; have _b := A1203 z; have _c := own_cn z q3; omega
   refine GoW.sg (mkF m 144 (Sh19 q1 q2 q3 q4 q5 q6 4 4 mi va vb vc vd ve b1200) [(.int q4), (.ref b1200)]) (fun t k => XS.iload X1205.here hx rfl (B at_135) rfl (XS.iconst X1205.here hx rfl (B at_137) (XS.icmpNo X1205.here hx rfl (B at_138) rfl (by decide) (XS.aload X1205.here hx rfl (B at_141) rfl rfl (XS.iloadN X1205.here hx rfl (B at_143) rfl k))))) ?_
   obtain ⟨d1206, hd1206⟩ : ∃ d : UInt64, d = FP.l2d q4.toInt64 := ⟨_, rfl⟩
   refine GoW.sg (mkF m 145 (Sh19 q1 q2 q3 q4 q5 q6 4 4 mi va vb vc vd ve b1200) [(.double d1206), (.ref b1200)]) (fun t k => XS.i2dS X1205.here hx rfl (B at_144) rfl (v := d1206) ((i2d_w _).trans hd1206.symm) k) ?_
   obtain ⟨_, T1207, L1207, X1207, hQ1207, st1207⟩ := own_virt X1205 hx hZ (y := Y4) hown (ww hw 22 rfl) (ww hw 23 rfl) (ww hw 25 rfl) (ww hw 24 rfl) (ww hw 26 rfl) (ww hw 3 rfl) (by decide) 0 (a := b1200) (rmO42 l Z a0 hw b1200 d1206 q4 k1205_w0 k1205_w1 k1205_f0 k1205_f1 b1201_e0 k1201_ke0 T1205.heap n0 p1205_0 p1205_1 p1205_2 p1205_3 g_b1200 g_b1201_e0 ne_b1200_b1201_e0 hf1205_0 hf1205_1 hd1206 hH1205) (by decide) (by decide) rfl p1205_0 (by decide) (by decide) (g := (mkF m 145 (Sh19 q1 q2 q3 q4 q5 q6 4 4 mi va vb vc vd ve b1200) [(.double d1206), (.ref b1200)])) rfl (by rw [hml]; rfl) (argsL := [(.double d1206)]) (rest := []) (lenOf pd_28D29V rfl) rfl (Nat.le_of_eq rfl) (B at_145)
   obtain ⟨k1207_w0, k1207_w1, k1207_w2, k1207_f0, k1207_f1, k1207_f2, rfl, N1207q, K1207, p1207_0, p1207_1, p1207_2, p1207_3, LQ1207⟩ := hQ1207
   have N1207 := Fr.app N1205 N1207q
   refine GoW.sg (mkF m 148 (Sh19 q1 q2 q3 q4 q5 q6 4 4 mi va vb vc vd ve b1200) []) (fun t k => st1207 t k) ?_
   obtain ⟨hf1207_0, hf1207_1, hf1207_2, hH1207, hR1207⟩ := LQ1207
   have A1207 : ∀ z : Int, cn z k1207_w0 + cn z k1207_w1 + cn z k1207_w2 = cn z q2 + cn z q3 + cn z q4 := fun z => by have _a := hR1207 z; have _b := A1205 z; have _c := own_cn z q4; omega
   refine GoW.sg (mkF m 158 (Sh19 q1 q2 q3 q4 q5 q6 4 4 mi va vb vc vd ve b1200) [(.int q5), (.ref b1200)]) (fun t k => XS.iload X1207.here hx rfl (B at_148) rfl (XS.iconst X1207.here hx rfl (B at_150) (XS.icmpNo X1207.here hx rfl (B at_151) rfl (by decide) (XS.aload X1207.here hx rfl (B at_154) rfl rfl (XS.iload X1207.here hx rfl (B at_156) rfl k))))) ?_
   obtain ⟨d1208, hd1208⟩ : ∃ d : UInt64, d = FP.l2d q5.toInt64 := ⟨_, rfl⟩
   refine GoW.sg (mkF m 159 (Sh19 q1 q2 q3 q4 q5 q6 4 4 mi va vb vc vd ve b1200) [(.double d1208), (.ref b1200)]) (fun t k => XS.i2dS X1207.here hx rfl (B at_158) rfl (v := d1208) ((i2d_w _).trans hd1208.symm) k) ?_
   obtain ⟨_, T1209, L1209, X1209, hQ1209, st1209⟩ := own_virt X1207 hx hZ (y := Y4) hown (ww hw 22 rfl) (ww hw 23 rfl) (ww hw 25 rfl) (ww hw 24 rfl) (ww hw 26 rfl) (ww hw 3 rfl) (by decide) 0 (a := b1200) (rmO43 l Z a0 hw b1200 d1208 q5 k1207_w0 k1207_w1 k1207_w2 k1207_f0 k1207_f1 k1207_f2 b1201_e0 k1201_ke0 T1207.heap n0 p1207_0 p1207_1 p1207_2 p1207_3 g_b1200 g_b1201_e0 ne_b1200_b1201_e0 hf1207_0 hf1207_1 hf1207_2 hd1208 hH1207) (by decide) (by decide) rfl p1207_0 (by decide) (by decide) (g := (mkF m 159 (Sh19 q1 q2 q3 q4 q5 q6 4 4 mi va vb vc vd ve b1200) [(.double d1208), (.ref b1200)])) rfl (by rw [hml]; rfl) (argsL := [(.double d1208)]) (rest := []) (lenOf pd_28D29V rfl) rfl (Nat.le_of_eq rfl) (B at_159)
   obtain ⟨k1209_w0, k1209_w1, k1209_w2, k1209_w3, k1209_f0, k1209_f1, k1209_f2, k1209_f3, rfl, N1209q, K1209, p1209_0, p1209_1, p1209_2, p1209_3, LQ1209⟩ := hQ1209
   have N1209 := Fr.app N1207 N1209q
   refine GoW.sg (mkF m 162 (Sh19 q1 q2 q3 q4 q5 q6 4 4 mi va vb vc vd ve b1200) []) (fun t k => st1209 t k) ?_
   obtain ⟨hf1209_0, hf1209_1, hf1209_2, hf1209_3, hH1209, hR1209⟩ := LQ1209
   have A1209 : ∀ z : Int, cn z k1209_w0 + cn z k1209_w1 + cn z k1209_w2 + cn z k1209_w3 = cn z q2 + cn z q3 + cn z q4 + cn z q5 := fun z => by have _a := hR1209 z; have _b := A1207 z; have _c := own_cn z q5; omega
   refine GoW.sg (mkF m 178 (Sh19 q1 q2 q3 q4 q5 q6 4 4 mi va vb vc vd ve b1200) [(.ref b1200)]) (fun t k => XS.iload X1209.here hx rfl (B at_162) rfl (XS.iconst X1209.here hx rfl (B at_164) (XS.icmpYes X1209.here hx rfl (pc0 := 165) (pc' := 176) rfl (B at_165) rfl (by decide) (by decide) (by decide) (XS.aload X1209.here hx rfl (B at_176) rfl rfl k)))) ?_
   obtain ⟨_, T1220, L1220, X1220, hQ1220, st1220⟩ := own_virt X1209 hx hZ (y := Y3) hown (ww hw 13 rfl) (ww hw 14 rfl) (ww hw 16 rfl) (ww hw 15 rfl) (ww hw 17 rfl) (ww hw 3 rfl) (by decide) 0 (a := b1200) (rm3_47 l Z a0 hw b1200 b1201_e0 k1201_ke0 k1209_f0 k1209_f1 k1209_f2 k1209_f3 k1209_w0 k1209_w1 k1209_w2 k1209_w3 T1209.heap n0 p1209_2 p1209_1 p1209_3 hf1209_0 hf1209_1 hf1209_2 hf1209_3 ) (by decide) (by decide) rfl p1209_0 (by decide) (by decide) (g := (mkF m 178 (Sh19 q1 q2 q3 q4 q5 q6 4 4 mi va vb vc vd ve b1200) [(.ref b1200)])) rfl (by rw [hml]; rfl) (argsL := []) (rest := []) (lenOf pd_2829D rfl) rfl (Nat.le_of_eq rfl) (B at_178)
   obtain ⟨rfl, N1220q, e1220⟩ := hQ1220
   have N1220 := Fr.app N1209 N1220q
   refine GoW.sg (mkF m 181 (Sh19 q1 q2 q3 q4 q5 q6 4 4 mi va vb vc vd ve b1200) [(.double k1209_f0)]) (fun t k => st1220 t k) ?_
   refine GoW.sg (mkF m 205 (Sh10 q1 q2 q3 q4 q5 q6 4 4 mi va vb vc vd ve b1200 k1209_f0) []) (fun t k => XS.dstore X1220.here hx rfl (B at_181) rfl (l' := (Sh10 q1 q2 q3 q4 q5 q6 4 4 mi va vb vc vd ve b1200 k1209_f0)) rfl (XS.iload X1220.here hx rfl (B at_183) rfl (XS.iload X1220.here hx rfl (B at_185) rfl (XS.icmpYes X1220.here hx rfl (pc0 := 187) (pc' := 205) rfl (B at_187) rfl (by decide) (by decide) (by decide) k)))) ?_
   exact J _ _ _ _ _ _ _ _ _ _ _ _ k1209_w0 X1220 e1220 N1220 hf1209_0 (fun r1 r2 r3 r4 r5 h1 h2 h3 h4 h5 => by subst hva hvb hvc hvd hve hmi; exact own_fin44 h1 h2 h3 h4 h5 hH1209 A1209)
  ·rw [vv]
   show GoW p e below s (ValQ (.int (1 : Int32)) n0) room_1.cells room_1.slots (s₁.setTop (mkF m 18 (Sh12 q1 q2 q3 q4 q5 q6 4 5) []))
   refine GoW.sg (mkF m 21 (Sh12 q1 q2 q3 q4 q5 q6 4 5) [(.long (-9223372036854775808))]) (fun t k => X0.ldc2Long hx hown (mvT hZ (ww hw 0 rfl)) (g := (mkF m 18 (Sh12 q1 q2 q3 q4 q5 q6 4 5) [])) rfl (B at_18) t k) ?_
   refine GoW.sg (mkF m 39 (Sh14 q1 q2 q3 q4 q5 q6 4 5 (-9223372036854775808) (Int32.toInt64 q2)) [(.int 5)]) (fun t k => XS.lstore X0.here hx rfl (B at_21) rfl (l' := (Sh13 q1 q2 q3 q4 q5 q6 4 5 (-9223372036854775808))) rfl (XS.iload X0.here hx rfl (B at_23) rfl (XS.ifNo X0.here hx rfl (B at_25) rfl (by decide) (XS.iloadN X0.here hx rfl (B at_28) rfl (XS.i2l X0.here hx rfl (B at_29) rfl (XS.goto X0.here hx rfl (pc0 := 30) (pc' := 35) rfl (B at_30) (by decide) (by decide) (XS.lstore X0.here hx rfl (B at_35) rfl (l' := (Sh14 q1 q2 q3 q4 q5 q6 4 5 (-9223372036854775808) (Int32.toInt64 q2))) rfl (XS.iload X0.here hx rfl (B at_37) rfl k)))))))) ?_
   refine GoW.sg (mkF m 55 (Sh15 q1 q2 q3 q4 q5 q6 4 5 (-9223372036854775808) (Int32.toInt64 q2) (Int32.toInt64 q3)) [(.int 2), (.int 5)]) (fun t k => XS.iconst X0.here hx rfl (B at_39) (XS.icmpNo X0.here hx rfl (B at_40) rfl (by decide) (XS.iloadN X0.here hx rfl (B at_43) rfl (XS.i2l X0.here hx rfl (B at_44) rfl (XS.goto X0.here hx rfl (pc0 := 45) (pc' := 50) rfl (B at_45) (by decide) (by decide) (XS.lstore X0.here hx rfl (B at_50) rfl (l' := (Sh15 q1 q2 q3 q4 q5 q6 4 5 (-9223372036854775808) (Int32.toInt64 q2) (Int32.toInt64 q3))) rfl (XS.iload X0.here hx rfl (B at_52) rfl (XS.iconst X0.here hx rfl (B at_54) k)))))))) ?_
   refine GoW.sg (mkF m 73 (Sh16 q1 q2 q3 q4 q5 q6 4 5 (-9223372036854775808) (Int32.toInt64 q2) (Int32.toInt64 q3) (Int32.toInt64 q4)) []) (fun t k => XS.icmpNo X0.here hx rfl (B at_55) rfl (by decide) (XS.iloadN X0.here hx rfl (B at_58) rfl (XS.i2l X0.here hx rfl (B at_59) rfl (XS.goto X0.here hx rfl (pc0 := 60) (pc' := 65) rfl (B at_60) (by decide) (by decide) (XS.lstore X0.here hx rfl (B at_65) rfl (l' := (Sh16 q1 q2 q3 q4 q5 q6 4 5 (-9223372036854775808) (Int32.toInt64 q2) (Int32.toInt64 q3) (Int32.toInt64 q4))) rfl (XS.iload X0.here hx rfl (B at_67) rfl (XS.iconst X0.here hx rfl (B at_69) (XS.icmpNo X0.here hx rfl (B at_70) rfl (by decide) k)))))))) ?_
   refine GoW.sg (mkF m 91 (Sh17 q1 q2 q3 q4 q5 q6 4 5 (-9223372036854775808) (Int32.toInt64 q2) (Int32.toInt64 q3) (Int32.toInt64 q4) (Int32.toInt64 q5)) [(.int q6)]) (fun t k => XS.iload X0.here hx rfl (B at_73) rfl (XS.i2l X0.here hx rfl (B at_75) rfl (XS.goto X0.here hx rfl (pc0 := 76) (pc' := 81) rfl (B at_76) (by decide) (by decide) (XS.lstore X0.here hx rfl (B at_81) rfl (l' := (Sh17 q1 q2 q3 q4 q5 q6 4 5 (-9223372036854775808) (Int32.toInt64 q2) (Int32.toInt64 q3) (Int32.toInt64 q4) (Int32.toInt64 q5))) rfl (XS.iload X0.here hx rfl (B at_83) rfl (XS.iconst X0.here hx rfl (B at_85) (XS.icmpNo X0.here hx rfl (B at_86) rfl (by decide) (XS.iload X0.here hx rfl (B at_89) rfl k)))))))) ?_
   refine GoW.sg (mkF m 99 (Sh18 q1 q2 q3 q4 q5 q6 4 5 (-9223372036854775808) (Int32.toInt64 q2) (Int32.toInt64 q3) (Int32.toInt64 q4) (Int32.toInt64 q5) (Int32.toInt64 q6)) []) (fun t k => XS.i2l X0.here hx rfl (B at_91) rfl (XS.goto X0.here hx rfl (pc0 := 92) (pc' := 97) rfl (B at_92) (by decide) (by decide) (XS.lstore X0.here hx rfl (B at_97) rfl (l' := (Sh18 q1 q2 q3 q4 q5 q6 4 5 (-9223372036854775808) (Int32.toInt64 q2) (Int32.toInt64 q3) (Int32.toInt64 q4) (Int32.toInt64 q5) (Int32.toInt64 q6))) rfl k))) ?_
   obtain ⟨va, hva⟩ : ∃ z : Int64, z = (Int32.toInt64 q2) := ⟨_, rfl⟩
   obtain ⟨vb, hvb⟩ : ∃ z : Int64, z = (Int32.toInt64 q3) := ⟨_, rfl⟩
   obtain ⟨vc, hvc⟩ : ∃ z : Int64, z = (Int32.toInt64 q4) := ⟨_, rfl⟩
   obtain ⟨vd, hvd⟩ : ∃ z : Int64, z = (Int32.toInt64 q5) := ⟨_, rfl⟩
   obtain ⟨ve, hve⟩ : ∃ z : Int64, z = (Int32.toInt64 q6) := ⟨_, rfl⟩
   obtain ⟨mi, hmi⟩ : ∃ z : Int64, z = (-9223372036854775808 : Int64) := ⟨_, rfl⟩
   refine GoW.st (fun t k => by rw [hva, hvb, hvc, hvd, hve, hmi] at k; exact k) ?_ (u := s₁.setTop (mkF m 99 (Sh18 q1 q2 q3 q4 q5 q6 4 5 mi va vb vc vd ve) []))
   show GoW p e below s (ValQ (.int (1 : Int32)) n0) room_1.cells room_1.slots (s₁.setTop (mkF m 99 (Sh18 q1 q2 q3 q4 q5 q6 4 5 mi va vb vc vd ve) []))
   obtain ⟨T1221, h1221, X1221, e1221, E1221, A1221, D1221, -, st1221⟩ := newO X0 hx hZ hown (ww hw 1 rfl) (ww hw 2 rfl) (ww hw 3 rfl) e0 (g := (mkF m 99 (Sh18 q1 q2 q3 q4 q5 q6 4 5 mi va vb vc vd ve) [])) rfl (B at_99) (by decide) (by decide)
   obtain ⟨b1221, g1221⟩ : ∃ z, z = h0.size := ⟨_, rfl⟩
   rw [← g1221] at A1221 D1221 st1221
   have g_b1221 : n0 ≤ b1221 := Nat.le_trans Z0 (Nat.le_of_eq g1221.symm)
   have f1221_102 := Nat.le_trans Z0 E1221.1
   have F1221heap : Fld Z h1221 b1221 HSn "heap" "[D" .null := D1221 (Or.inr (ww hw 12 rfl)) (ty := (.array .double)) (by decide)
   have F1221size : Fld Z h1221 b1221 HSn "size" "I" (.int (0 : Int32)) := D1221 (Or.inl (ww hw 19 rfl)) (ty := .int) (by decide)
   refine GoW.sg (mkF m 102 (Sh18 q1 q2 q3 q4 q5 q6 4 5 mi va vb vc vd ve) [(.ref b1221)]) (fun t k => st1221 t k) ?_
   refine GoW.sg (mkF m 105 (Sh18 q1 q2 q3 q4 q5 q6 4 5 mi va vb vc vd ve) [(.int 4), (.ref b1221), (.ref b1221)]) (fun t k => XS.dup X1221.here hx rfl (B at_102) rfl rfl (XS.iload X1221.here hx rfl (B at_103) rfl k)) ?_
   obtain ⟨_, T1222, L1222, X1222, hQ1222, st1222⟩ := own_spec X1221 hx hZ (y := Y1) rfl hown (ww hw 4 rfl) (ww hw 5 rfl) (ww hw 3 rfl) (ww hw 6 rfl) (by decide) 1 (a := b1221) (rm1_42 l Z a0 hw b1221 h1221 n0 f1221_102 A1221 F1221heap F1221size g_b1221 ) (by decide) (by decide) e1221 (by decide) (by decide) (g := (mkF m 105 (Sh18 q1 q2 q3 q4 q5 q6 4 5 mi va vb vc vd ve) [(.int 4), (.ref b1221), (.ref b1221)])) rfl (by rw [hml]; rfl) (argsL := [(.int (4 : Int32))]) (rest := [(.ref b1221)]) (lenOf pd_28I29V rfl) rfl (Nat.le_of_eq rfl) (B at_105)
   obtain ⟨b1222_e0, k1222_ke0, rfl, N1222q, K1222, p1222_0, p1222_1, p1222_2, p1222_3, hz_b1222_e0⟩ := hQ1222
   have g_b1222_e0 : n0 ≤ b1222_e0 := Nat.le_trans f1221_102 hz_b1222_e0
   have ne_b1221_b1222_e0 : b1221 ≠ b1222_e0 := Nat.ne_of_lt (Nat.lt_of_lt_of_le A1221.lt hz_b1222_e0)
   have N1222 := Fr.app N0 N1222q
   refine GoW.sg (mkF m 108 (Sh18 q1 q2 q3 q4 q5 q6 4 5 mi va vb vc vd ve) [(.ref b1221)]) (fun t k => st1222 t k) ?_
   refine GoW.sg (mkF m 118 (Sh19 q1 q2 q3 q4 q5 q6 4 5 mi va vb vc vd ve b1221) [(.int q2), (.ref b1221)]) (fun t k => XS.astore X1222.here hx rfl (B at_108) rfl rfl (l' := (Sh19 q1 q2 q3 q4 q5 q6 4 5 mi va vb vc vd ve b1221)) rfl (XS.iload X1222.here hx rfl (B at_110) rfl (XS.ifNo X1222.here hx rfl (B at_112) rfl (by decide) (XS.aload X1222.here hx rfl (B at_115) rfl rfl (XS.iloadN X1222.here hx rfl (B at_117) rfl k))))) ?_
   obtain ⟨d1223, hd1223⟩ : ∃ d : UInt64, d = FP.l2d q2.toInt64 := ⟨_, rfl⟩
   refine GoW.sg (mkF m 119 (Sh19 q1 q2 q3 q4 q5 q6 4 5 mi va vb vc vd ve b1221) [(.double d1223), (.ref b1221)]) (fun t k => XS.i2dS X1222.here hx rfl (B at_118) rfl (v := d1223) ((i2d_w _).trans hd1223.symm) k) ?_
   obtain ⟨_, T1224, L1224, X1224, hQ1224, st1224⟩ := own_virt X1222 hx hZ (y := Y4) hown (ww hw 22 rfl) (ww hw 23 rfl) (ww hw 25 rfl) (ww hw 24 rfl) (ww hw 26 rfl) (ww hw 3 rfl) (by decide) 0 (a := b1221) (rmO40 l Z a0 hw b1221 d1223 q2 b1222_e0 k1222_ke0 T1222.heap n0 p1222_0 p1222_2 p1222_1 p1222_3 g_b1221 g_b1222_e0 ne_b1221_b1222_e0 hd1223 trivial) (by decide) (by decide) rfl p1222_0 (by decide) (by decide) (g := (mkF m 119 (Sh19 q1 q2 q3 q4 q5 q6 4 5 mi va vb vc vd ve b1221) [(.double d1223), (.ref b1221)])) rfl (by rw [hml]; rfl) (argsL := [(.double d1223)]) (rest := []) (lenOf pd_28D29V rfl) rfl (Nat.le_of_eq rfl) (B at_119)
   obtain ⟨k1224_w0, k1224_f0, rfl, N1224q, K1224, p1224_0, p1224_1, p1224_2, p1224_3, LQ1224⟩ := hQ1224
   have N1224 := Fr.app N1222 N1224q
   refine GoW.sg (mkF m 122 (Sh19 q1 q2 q3 q4 q5 q6 4 5 mi va vb vc vd ve b1221) []) (fun t k => st1224 t k) ?_
   obtain ⟨hf1224_0, hH1224, hR1224⟩ := LQ1224
   have A1224 : ∀ z : Int, cn z k1224_w0 = cn z q2 := fun z => by have _a := hR1224 z; have _c := own_cn z q2; omega
   refine GoW.sg (mkF m 131 (Sh19 q1 q2 q3 q4 q5 q6 4 5 mi va vb vc vd ve b1221) [(.int q3), (.ref b1221)]) (fun t k => XS.iload X1224.here hx rfl (B at_122) rfl (XS.iconst X1224.here hx rfl (B at_124) (XS.icmpNo X1224.here hx rfl (B at_125) rfl (by decide) (XS.aload X1224.here hx rfl (B at_128) rfl rfl (XS.iloadN X1224.here hx rfl (B at_130) rfl k))))) ?_
   obtain ⟨d1225, hd1225⟩ : ∃ d : UInt64, d = FP.l2d q3.toInt64 := ⟨_, rfl⟩
   refine GoW.sg (mkF m 132 (Sh19 q1 q2 q3 q4 q5 q6 4 5 mi va vb vc vd ve b1221) [(.double d1225), (.ref b1221)]) (fun t k => XS.i2dS X1224.here hx rfl (B at_131) rfl (v := d1225) ((i2d_w _).trans hd1225.symm) k) ?_
   obtain ⟨_, T1226, L1226, X1226, hQ1226, st1226⟩ := own_virt X1224 hx hZ (y := Y4) hown (ww hw 22 rfl) (ww hw 23 rfl) (ww hw 25 rfl) (ww hw 24 rfl) (ww hw 26 rfl) (ww hw 3 rfl) (by decide) 0 (a := b1221) (rmO41 l Z a0 hw b1221 d1225 q3 k1224_w0 k1224_f0 b1222_e0 k1222_ke0 T1224.heap n0 p1224_0 p1224_1 p1224_2 p1224_3 g_b1221 g_b1222_e0 ne_b1221_b1222_e0 hf1224_0 hd1225 hH1224) (by decide) (by decide) rfl p1224_0 (by decide) (by decide) (g := (mkF m 132 (Sh19 q1 q2 q3 q4 q5 q6 4 5 mi va vb vc vd ve b1221) [(.double d1225), (.ref b1221)])) rfl (by rw [hml]; rfl) (argsL := [(.double d1225)]) (rest := []) (lenOf pd_28D29V rfl) rfl (Nat.le_of_eq rfl) (B at_132)
   obtain ⟨k1226_w0, k1226_w1, k1226_f0, k1226_f1, rfl, N1226q, K1226, p1226_0, p1226_1, p1226_2, p1226_3, LQ1226⟩ := hQ1226
   have N1226 := Fr.app N1224 N1226q
   refine GoW.sg (mkF m 135 (Sh19 q1 q2 q3 q4 q5 q6 4 5 mi va vb vc vd ve b1221) []) (fun t k => st1226 t k) ?_
   obtain ⟨hf1226_0, hf1226_1, hH1226, hR1226⟩ := LQ1226
   have A1226 : ∀ z : Int, cn z k1226_w0 + cn z k1226_w1 = cn z q2 + cn z q3 := fun z => by have _a := hR1226 z; have _b := A1224 z; have _c := own_cn z q3; omega
   refine GoW.sg (mkF m 144 (Sh19 q1 q2 q3 q4 q5 q6 4 5 mi va vb vc vd ve b1221) [(.int q4), (.ref b1221)]) (fun t k => XS.iload X1226.here hx rfl (B at_135) rfl (XS.iconst X1226.here hx rfl (B at_137) (XS.icmpNo X1226.here hx rfl (B at_138) rfl (by decide) (XS.aload X1226.here hx rfl (B at_141) rfl rfl (XS.iloadN X1226.here hx rfl (B at_143) rfl k))))) ?_
   obtain ⟨d1227, hd1227⟩ : ∃ d : UInt64, d = FP.l2d q4.toInt64 := ⟨_, rfl⟩
   refine GoW.sg (mkF m 145 (Sh19 q1 q2 q3 q4 q5 q6 4 5 mi va vb vc vd ve b1221) [(.double d1227), (.ref b1221)]) (fun t k => XS.i2dS X1226.here hx rfl (B at_144) rfl (v := d1227) ((i2d_w _).trans hd1227.symm) k) ?_
   obtain ⟨_, T1228, L1228, X1228, hQ1228, st1228⟩ := own_virt X1226 hx hZ (y := Y4) hown (ww hw 22 rfl) (ww hw 23 rfl) (ww hw 25 rfl) (ww hw 24 rfl) (ww hw 26 rfl) (ww hw 3 rfl) (by decide) 0 (a := b1221) (rmO42 l Z a0 hw b1221 d1227 q4 k1226_w0 k1226_w1 k1226_f0 k1226_f1 b1222_e0 k1222_ke0 T1226.heap n0 p1226_0 p1226_1 p1226_2 p1226_3 g_b1221 g_b1222_e0 ne_b1221_b1222_e0 hf1226_0 hf1226_1 hd1227 hH1226) (by decide) (by decide) rfl p1226_0 (by decide) (by decide) (g := (mkF m 145 (Sh19 q1 q2 q3 q4 q5 q6 4 5 mi va vb vc vd ve b1221) [(.double d1227), (.ref b1221)])) rfl (by rw [hml]; rfl) (argsL := [(.double d1227)]) (rest := []) (lenOf pd_28D29V rfl) rfl (Nat.le_of_eq rfl) (B at_145)
   obtain ⟨k1228_w0, k1228_w1, k1228_w2, k1228_f0, k1228_f1, k1228_f2, rfl, N1228q, K1228, p1228_0, p1228_1, p1228_2, p1228_3, LQ1228⟩ := hQ1228
   have N1228 := Fr.app N1226 N1228q
   refine GoW.sg (mkF m 148 (Sh19 q1 q2 q3 q4 q5 q6 4 5 mi va vb vc vd ve b1221) []) (fun t k => st1228 t k) ?_
   obtain ⟨hf1228_0, hf1228_1, hf1228_2, hH1228, hR1228⟩ := LQ1228
   have A1228 : ∀ z : Int, cn z k1228_w0 + cn z k1228_w1 + cn z k1228_w2 = cn z q2 + cn z q3 + cn z q4 := fun z => by have _a := hR1228 z; have _b := A1226 z; have _c := own_cn z q4; omega
   refine GoW.sg (mkF m 158 (Sh19 q1 q2 q3 q4 q5 q6 4 5 mi va vb vc vd ve b1221) [(.int q5), (.ref b1221)]) (fun t k => XS.iload X1228.here hx rfl (B at_148) rfl (XS.iconst X1228.here hx rfl (B at_150) (XS.icmpNo X1228.here hx rfl (B at_151) rfl (by decide) (XS.aload X1228.here hx rfl (B at_154) rfl rfl (XS.iload X1228.here hx rfl (B at_156) rfl k))))) ?_
   obtain ⟨d1229, hd1229⟩ : ∃ d : UInt64, d = FP.l2d q5.toInt64 := ⟨_, rfl⟩
   refine GoW.sg (mkF m 159 (Sh19 q1 q2 q3 q4 q5 q6 4 5 mi va vb vc vd ve b1221) [(.double d1229), (.ref b1221)]) (fun t k => XS.i2dS X1228.here hx rfl (B at_158) rfl (v := d1229) ((i2d_w _).trans hd1229.symm) k) ?_
   obtain ⟨_, T1230, L1230, X1230, hQ1230, st1230⟩ := own_virt X1228 hx hZ (y := Y4) hown (ww hw 22 rfl) (ww hw 23 rfl) (ww hw 25 rfl) (ww hw 24 rfl) (ww hw 26 rfl) (ww hw 3 rfl) (by decide) 0 (a := b1221) (rmO43 l Z a0 hw b1221 d1229 q5 k1228_w0 k1228_w1 k1228_w2 k1228_f0 k1228_f1 k1228_f2 b1222_e0 k1222_ke0 T1228.heap n0 p1228_0 p1228_1 p1228_2 p1228_3 g_b1221 g_b1222_e0 ne_b1221_b1222_e0 hf1228_0 hf1228_1 hf1228_2 hd1229 hH1228) (by decide) (by decide) rfl p1228_0 (by decide) (by decide) (g := (mkF m 159 (Sh19 q1 q2 q3 q4 q5 q6 4 5 mi va vb vc vd ve b1221) [(.double d1229), (.ref b1221)])) rfl (by rw [hml]; rfl) (argsL := [(.double d1229)]) (rest := []) (lenOf pd_28D29V rfl) rfl (Nat.le_of_eq rfl) (B at_159)
   obtain ⟨k1230_w0, k1230_w1, k1230_w2, k1230_w3, k1230_f0, k1230_f1, k1230_f2, k1230_f3, rfl, N1230q, K1230, p1230_0, p1230_1, p1230_2, p1230_3, LQ1230⟩ := hQ1230
   have N1230 := Fr.app N1228 N1230q
   refine GoW.sg (mkF m 162 (Sh19 q1 q2 q3 q4 q5 q6 4 5 mi va vb vc vd ve b1221) []) (fun t k => st1230 t k) ?_
   obtain ⟨hf1230_0, hf1230_1, hf1230_2, hf1230_3, hH1230, hR1230⟩ := LQ1230
   have A1230 : ∀ z : Int, cn z k1230_w0 + cn z k1230_w1 + cn z k1230_w2 + cn z k1230_w3 = cn z q2 + cn z q3 + cn z q4 + cn z q5 := fun z => by have _a := hR1230 z; have _b := A1228 z; have _c := own_cn z q5; omega
   refine GoW.sg (mkF m 172 (Sh19 q1 q2 q3 q4 q5 q6 4 5 mi va vb vc vd ve b1221) [(.int q6), (.ref b1221)]) (fun t k => XS.iload X1230.here hx rfl (B at_162) rfl (XS.iconst X1230.here hx rfl (B at_164) (XS.icmpNo X1230.here hx rfl (B at_165) rfl (by decide) (XS.aload X1230.here hx rfl (B at_168) rfl rfl (XS.iload X1230.here hx rfl (B at_170) rfl k))))) ?_
   obtain ⟨d1231, hd1231⟩ : ∃ d : UInt64, d = FP.l2d q6.toInt64 := ⟨_, rfl⟩
   refine GoW.sg (mkF m 173 (Sh19 q1 q2 q3 q4 q5 q6 4 5 mi va vb vc vd ve b1221) [(.double d1231), (.ref b1221)]) (fun t k => XS.i2dS X1230.here hx rfl (B at_172) rfl (v := d1231) ((i2d_w _).trans hd1231.symm) k) ?_
   obtain ⟨_, T1232, L1232, X1232, hQ1232, st1232⟩ := own_virt X1230 hx hZ (y := Y4) hown (ww hw 22 rfl) (ww hw 23 rfl) (ww hw 25 rfl) (ww hw 24 rfl) (ww hw 26 rfl) (ww hw 3 rfl) (by decide) 0 (a := b1221) (rmO44 l Z a0 hw b1221 d1231 q6 k1230_w0 k1230_w1 k1230_w2 k1230_w3 k1230_f0 k1230_f1 k1230_f2 k1230_f3 b1222_e0 k1222_ke0 T1230.heap n0 p1230_0 p1230_1 p1230_2 p1230_3 g_b1221 g_b1222_e0 ne_b1221_b1222_e0 hf1230_0 hf1230_1 hf1230_2 hf1230_3 hd1231 hH1230) (by decide) (by decide) rfl p1230_0 (by decide) (by decide) (g := (mkF m 173 (Sh19 q1 q2 q3 q4 q5 q6 4 5 mi va vb vc vd ve b1221) [(.double d1231), (.ref b1221)])) rfl (by rw [hml]; rfl) (argsL := [(.double d1231)]) (rest := []) (lenOf pd_28D29V rfl) rfl (Nat.le_of_eq rfl) (B at_173)
   obtain ⟨k1232_w0, k1232_w1, k1232_w2, k1232_w3, k1232_f0, k1232_f1, k1232_f2, k1232_f3, rfl, N1232q, K1232, p1232_0, p1232_1, p1232_2, p1232_3, LQ1232⟩ := hQ1232
   have N1232 := Fr.app N1230 N1232q
   refine GoW.sg (mkF m 176 (Sh19 q1 q2 q3 q4 q5 q6 4 5 mi va vb vc vd ve b1221) []) (fun t k => st1232 t k) ?_
   obtain ⟨hf1232_0, hf1232_1, hf1232_2, hf1232_3, hH1232, hR1232⟩ := LQ1232
   have A1232 : ∀ z : Int, cn z k1232_w0 + cn z k1232_w1 + cn z k1232_w2 + cn z k1232_w3 = min 4 (cn z q2 + cn z q3 + cn z q4 + cn z q5 + cn z q6) := fun z => by have _a := hR1232 z; have _b := A1230 z; have _c := own_cn z q6; omega
   refine GoW.sg (mkF m 178 (Sh19 q1 q2 q3 q4 q5 q6 4 5 mi va vb vc vd ve b1221) [(.ref b1221)]) (fun t k => XS.aload X1232.here hx rfl (B at_176) rfl rfl k) ?_
   obtain ⟨_, T1233, L1233, X1233, hQ1233, st1233⟩ := own_virt X1232 hx hZ (y := Y3) hown (ww hw 13 rfl) (ww hw 14 rfl) (ww hw 16 rfl) (ww hw 15 rfl) (ww hw 17 rfl) (ww hw 3 rfl) (by decide) 0 (a := b1221) (rm3_47 l Z a0 hw b1221 b1222_e0 k1222_ke0 k1232_f0 k1232_f1 k1232_f2 k1232_f3 k1232_w0 k1232_w1 k1232_w2 k1232_w3 T1232.heap n0 p1232_2 p1232_1 p1232_3 hf1232_0 hf1232_1 hf1232_2 hf1232_3 ) (by decide) (by decide) rfl p1232_0 (by decide) (by decide) (g := (mkF m 178 (Sh19 q1 q2 q3 q4 q5 q6 4 5 mi va vb vc vd ve b1221) [(.ref b1221)])) rfl (by rw [hml]; rfl) (argsL := []) (rest := []) (lenOf pd_2829D rfl) rfl (Nat.le_of_eq rfl) (B at_178)
   obtain ⟨rfl, N1233q, e1233⟩ := hQ1233
   have N1233 := Fr.app N1232 N1233q
   refine GoW.sg (mkF m 181 (Sh19 q1 q2 q3 q4 q5 q6 4 5 mi va vb vc vd ve b1221) [(.double k1232_f0)]) (fun t k => st1233 t k) ?_
   refine GoW.sg (mkF m 205 (Sh10 q1 q2 q3 q4 q5 q6 4 5 mi va vb vc vd ve b1221 k1232_f0) []) (fun t k => XS.dstore X1233.here hx rfl (B at_181) rfl (l' := (Sh10 q1 q2 q3 q4 q5 q6 4 5 mi va vb vc vd ve b1221 k1232_f0)) rfl (XS.iload X1233.here hx rfl (B at_183) rfl (XS.iload X1233.here hx rfl (B at_185) rfl (XS.icmpYes X1233.here hx rfl (pc0 := 187) (pc' := 205) rfl (B at_187) rfl (by decide) (by decide) (by decide) k)))) ?_
   exact J _ _ _ _ _ _ _ _ _ _ _ _ k1232_w0 X1233 e1233 N1233 hf1232_0 (fun r1 r2 r3 r4 r5 h1 h2 h3 h4 h5 => by subst hva hvb hvc hvd hve hmi; exact own_fin45 h1 h2 h3 h4 h5 hH1232 A1232)

set_option maxRecDepth 65536 in
set_option maxHeartbeats 40000000 in
theorem comes_1 {Post : Tables → Env → Array Value → State → Outcome → State → Prop} (hpost : ∀ tb e args s v u, (limb_1_1.after args s (.returned v) u = true ∧ limb_1_2.after args s (.returned v) u = true ∧ True) → FrameEnd s (.returned v) u (Jvm.fieldLocs frame_1_writes args s ++ Jvm.arrayLocs frame_1_arrays args s ++ Jvm.staticLocs frame_1_statics s) 16 128 → Post tb e args s (.returned v) u) :
    ArmFor flags0 classFile x code maxLocals ret World_1 tables_1 room_1 Calls_1 rest_1 Pre_1 Post := by
  intro l hfl _ _ p e ha hc hk s m args below hf hA hF happ hP
  obtain ⟨hcalls, hrest, hpre⟩ := hP
  obtain ⟨-, -, -, hnamed, -, -, -, hat⟩ := (Spec.applies_iff hf).mp happ
  obtain ⟨hg, hn⟩ := and_e (Cond.before_iff.mp (show (Jvm.Cond.and given_1 narrow_1).before args s = true from hpre))
  obtain ⟨ga0, gb0⟩ := and_e hg
  obtain ⟨ga1, gb1⟩ := and_e gb0
  obtain ⟨ga2, gb2⟩ := and_e gb1
  obtain ⟨ga3, gb3⟩ := and_e gb2
  obtain ⟨ga4, gb4⟩ := and_e gb3
  obtain ⟨ga5, gb5⟩ := and_e gb4
  obtain ⟨w0, w1, w2, w3, w4, w5, rfl⟩ : ∃ w0 w1 w2 w3 w4 w5 : Value, args = #[w0, w1, w2, w3, w4, w5] := by
    have hs : args.size = 6 := by simpa [Cond.value, given_1] using ga0
    obtain ⟨L⟩ := args
    match L, hs with
    | [w0, w1, w2, w3, w4, w5], _ => exact ⟨w0, w1, w2, w3, w4, w5, rfl⟩
  have hw := fun d (hd : d ∈ tables_1) => atoms_spec (ws := Jvm.Cond.code x code maxLocals ret :: tables_1) hat d (List.mem_cons_of_mem _ hd)
  have hfit : Fit s := fun {y c} hc i hi => by
    obtain ⟨ha, rfl⟩ := Array.getElem?_eq_some_iff.mp hc
    have q := List.all_eq_true.mp ((Array.all_eq_true_iff_forall_mem.mp hF) _ (Array.getElem_mem ha)) i (List.mem_range.mpr hi)
    simpa [Array.getElem?_eq_getElem hi] using q
  obtain ⟨i0, ei0⟩ := is_v ga1
  obtain rfl : w0 = (.int i0) := Option.some.inj ei0
  obtain ⟨i1, ei1⟩ := is_v ga2
  obtain rfl : w1 = (.int i1) := Option.some.inj ei1
  obtain ⟨i2, ei2⟩ := is_v ga3
  obtain rfl : w2 = (.int i2) := Option.some.inj ei2
  obtain ⟨i3, ei3⟩ := is_v ga4
  obtain rfl : w3 = (.int i3) := Option.some.inj ei3
  obtain ⟨i4, ei4⟩ := is_v ga5
  obtain rfl : w4 = (.int i4) := Option.some.inj ei4
  obtain ⟨i5, ei5⟩ := is_v gb5
  obtain rfl : w5 = (.int i5) := Option.some.inj ei5
  obtain ⟨n, o, h1, h2, h3, v, L, rfl, ⟨hv, N⟩, hq⟩ := rm0 l s _ hw tables_1 i0 i1 i2 i3 i4 i5 s.heap s.heap.size (Nat.le_refl _) p e ha hc hk s m _ below hf ((Spec.applies_iff_loose hf).mp happ).1 ⟨rfl, State.Warmed39.refl s, rfl⟩ trivial
  subst hv
  refine ⟨n, _, h1, h2, h3, hpost _ _ _ _ _ _ ⟨Cond.after_iff.mpr rfl, Cond.after_iff.mpr (eq_i res_at (Term.int_eval (1)) rfl), trivial⟩ ⟨hq.1, hq.2.1, (hq.2.2.sift fun y hy => Or.inr (N y hy)).mono (by decide) (by decide)⟩⟩
theorem main_1_1 : Claimed_1_1 := comes_1 fun _ _ _ _ _ _ h hF => ⟨h.1, hF⟩
theorem main_1_2 : Claimed_1_2 := comes_1 fun _ _ _ _ _ _ h hF => ⟨h.2.1, hF⟩
end Jvm.Pilot.@@N@@
namespace Jvm.Pilot.@@N@@
open Jvm Jvm.ClassFile Sem Op Lib Jvm.Free Jvm.Stand Jvm.Pilot.@@N@@.Jvm.D
/-! MADE BY PROGRAM (witnessworld.py) out of the Statement's table words and the real class files: 11 classes; the members and pool entries that the words name. The judged class is class 1, her method 1. -/
namespace start1
open Jvm.ClassFile
def u (s : String) : CpInfo := .utf8 (stringToUtf16 s)
/-- a pool by its gaps: so many unusable entries, then the entry; so many at the end -/
def gap : Nat → List CpInfo → List CpInfo
  | 0, r => r
  | n + 1, r => .unusable :: gap n r
def poolList (es : List (Nat × CpInfo)) (last : Nat) : List CpInfo := es.foldr (fun e r => gap e.1 (e.2 :: r)) (gap last [])
def pool (es : List (Nat × CpInfo)) (last : Nat) : Array CpInfo := ⟨poolList es last⟩
def fileOf (pool : Array CpInfo) (this : Nat) (attrs : Array Attribute := #[]) (ms : Array MethodInfo := #[]) (fl : Nat := 33) (sup : Nat := 0) (ifs : Array Nat := #[]) (fds : Array FieldInfo := #[]) : ClassFile where
  minorVersion := 0
  majorVersion := 65
  constantPool := pool
  accessFlags := fl
  thisClass := this
  superClass := sup
  interfaces := ifs
  fields := fds
  methods := ms
  attributes := attrs
def plain (name : String) (sup : Option ClassId) : Class where
  name := name
  kind := .ordinary
  loader := none
  accessFlags := 33
  super := sup
  interfaces := #[]
  cf := none
  fields := #[]
  methods := #[]
  instanceTypes := #[]
  staticTypes := #[]
  resolved := #[]
  callSites := []
  init := .initialized
  statics := none
  mirror := none

def pool0 : Array CpInfo := pool [(5, u "<init>"), (0, u "()V"), (1, .class_ 10), (1, u "java/lang/Object")] 113

def k0c0 : Code := { maxStack := 0, maxLocals := 1, code := object_method_1_code, exceptionTable := #[], attributes := #[] }
def k0m0 : Method := { name := "<init>", desc := "()V", sig := { parameters := [], returnType := none }, accessFlags := 1, code := some k0c0 }
/-- java/lang/Object -/
def k0 : Class := { plain "java/lang/Object" none with
  accessFlags := 33
  interfaces := #[]
  cf := some (fileOf pool0 8 #[] #[{ accessFlags := 1, nameIndex := 5, descriptorIndex := 6, attributes := #[] }] 33 0 #[] #[])
  fields := #[]
  methods := #[k0m0]
  instanceTypes := #[]
  staticTypes := #[]
  resolved := Array.replicate 124 none
  statics := none }

def pool1 : Array CpInfo := pool [(2, .class_ 4), (1, u "java/lang/Object"), (0, u "<init>"), (0, u "()V"), (2, .long 9223372036854775808), (1, .class_ 12), (0, u "com/example/nearterm/nearterm/retrieval/HighestScores"), (0, .methodref 11 14), (0, .nameAndType 5 15), (0, u "(I)V"), (0, .methodref 11 17), (0, .nameAndType 18 19), (0, u "offer"), (0, u "(D)V"), (0, .methodref 11 21), (0, .nameAndType 22 23), (0, u "lowest"), (0, u "()D"), (2, .double 18442240474082181120), (1, .methodref 29 30), (0, .class_ 31), (0, .nameAndType 32 33), (0, u "com/example/nearterm/nearterm/retrieval/HighestScoresLowestPinLaw"), (0, u "pick"), (0, u "(JJIJJJJJ)J"), (0, .methodref 29 35), (0, .nameAndType 36 37), (0, u "atLeast"), (0, u "(JJJJJJ)I"), (2, u "law"), (0, u "(IIIIII)Z")] 3

def k1m0 : Method := { name := "<init>", desc := "()V", sig := { parameters := [], returnType := none }, accessFlags := 1, code := none }
def k1c1 : Code := { maxStack := 15, maxLocals := 25, code := code, exceptionTable := #[], attributes := #[] }
def k1m1 : Method := { name := "law", desc := "(IIIIII)Z", sig := { parameters := [.int, .int, .int, .int, .int, .int], returnType := some .boolean }, accessFlags := 9, code := some k1c1 }
def k1c2 : Code := { maxStack := 5, maxLocals := 12, code := method_3_code, exceptionTable := #[], attributes := #[] }
def k1m2 : Method := { name := "atLeast", desc := "(JJJJJJ)I", sig := { parameters := [.long, .long, .long, .long, .long, .long], returnType := some .int }, accessFlags := 10, code := some k1c2 }
def k1c3 : Code := { maxStack := 12, maxLocals := 15, code := method_4_code, exceptionTable := #[], attributes := #[] }
def k1m3 : Method := { name := "pick", desc := "(JJIJJJJJ)J", sig := { parameters := [.long, .long, .int, .long, .long, .long, .long, .long], returnType := some .long }, accessFlags := 10, code := some k1c3 }
/-- com/example/nearterm/nearterm/retrieval/HighestScoresLowestPinLaw -/
def k1 : Class := { plain "com/example/nearterm/nearterm/retrieval/HighestScoresLowestPinLaw" (some 0) with
  accessFlags := 49
  interfaces := #[]
  cf := some (fileOf pool1 29 #[] #[{ accessFlags := 1, nameIndex := 5, descriptorIndex := 6, attributes := #[] }, { accessFlags := 9, nameIndex := 40, descriptorIndex := 41, attributes := #[] }, { accessFlags := 10, nameIndex := 36, descriptorIndex := 37, attributes := #[] }, { accessFlags := 10, nameIndex := 32, descriptorIndex := 33, attributes := #[] }] 49 2 #[] #[])
  fields := #[]
  methods := #[k1m0, k1m1, k1m2, k1m3]
  instanceTypes := #[]
  staticTypes := #[]
  resolved := Array.replicate 45 none
  statics := none }

def pool2 : Array CpInfo := pool [(1, .methodref 2 3), (0, .class_ 4), (0, .nameAndType 5 6), (0, u "java/lang/Object"), (0, u "<init>"), (0, u "()V"), (0, .fieldref 8 9), (0, .class_ 10), (0, .nameAndType 11 12), (0, u "com/example/nearterm/nearterm/retrieval/HighestScores"), (0, u "heap"), (0, u "[D"), (0, .fieldref 8 14), (0, .nameAndType 15 16), (0, u "size"), (0, u "I"), (0, .methodref 8 18), (0, .nameAndType 19 20), (0, u "up"), (0, u "(I)V"), (0, .methodref 8 22), (0, .nameAndType 23 20), (0, u "down"), (2, .double 18442240474082181120), (3, u "offer"), (0, u "(D)V"), (1, u "lowest"), (0, u "()D")] 2

def k2c0 : Code := { maxStack := 2, maxLocals := 2, code := prog_43_method_1_code, exceptionTable := #[], attributes := #[] }
def k2m0 : Method := { name := "<init>", desc := "(I)V", sig := { parameters := [.int], returnType := none }, accessFlags := 0, code := some k2c0 }
def k2c1 : Code := { maxStack := 5, maxLocals := 3, code := prog_43_method_2_code, exceptionTable := #[], attributes := #[] }
def k2m1 : Method := { name := "offer", desc := "(D)V", sig := { parameters := [.double], returnType := none }, accessFlags := 0, code := some k2c1 }
def k2c2 : Code := { maxStack := 2, maxLocals := 1, code := prog_43_method_3_code, exceptionTable := #[], attributes := #[] }
def k2m2 : Method := { name := "lowest", desc := "()D", sig := { parameters := [], returnType := some .double }, accessFlags := 0, code := some k2c2 }
def k2c3 : Code := { maxStack := 5, maxLocals := 4, code := prog_43_method_4_code, exceptionTable := #[], attributes := #[] }
def k2m3 : Method := { name := "up", desc := "(I)V", sig := { parameters := [.int], returnType := none }, accessFlags := 2, code := some k2c3 }
def k2c4 : Code := { maxStack := 4, maxLocals := 5, code := prog_43_method_5_code, exceptionTable := #[], attributes := #[] }
def k2m4 : Method := { name := "down", desc := "(I)V", sig := { parameters := [.int], returnType := none }, accessFlags := 2, code := some k2c4 }
/-- com/example/nearterm/nearterm/retrieval/HighestScores -/
def k2 : Class := { plain "com/example/nearterm/nearterm/retrieval/HighestScores" (some 0) with
  accessFlags := 48
  interfaces := #[]
  cf := some (fileOf pool2 8 #[] #[{ accessFlags := 0, nameIndex := 5, descriptorIndex := 20, attributes := #[] }, { accessFlags := 0, nameIndex := 30, descriptorIndex := 31, attributes := #[] }, { accessFlags := 0, nameIndex := 33, descriptorIndex := 34, attributes := #[] }, { accessFlags := 2, nameIndex := 19, descriptorIndex := 20, attributes := #[] }, { accessFlags := 2, nameIndex := 23, descriptorIndex := 20, attributes := #[] }] 48 2 #[] #[{ accessFlags := 18, nameIndex := 11, descriptorIndex := 12, attributes := #[] }, { accessFlags := 2, nameIndex := 15, descriptorIndex := 16, attributes := #[] }])
  fields := #[{ name := "heap", type := (.array .double), accessFlags := 18, slot := 0, constantValue := 0 }, { name := "size", type := .int, accessFlags := 2, slot := 1, constantValue := 0 }]
  methods := #[k2m0, k2m1, k2m2, k2m3, k2m4]
  instanceTypes := #[(.array .double), .int]
  staticTypes := #[]
  resolved := Array.replicate 37 none
  statics := none }

def pool3 : Array CpInfo := pool [(1, u "java/lang/Cloneable"), (0, .class_ 1), (0, u "java/lang/Object"), (0, .class_ 3)] 3

/-- java/lang/Cloneable -/
def k3 : Class := { plain "java/lang/Cloneable" (some 0) with
  accessFlags := 1537
  interfaces := #[]
  cf := some (fileOf pool3 2 #[] #[] 1537 4 #[] #[])
  fields := #[]
  methods := #[]
  instanceTypes := #[]
  staticTypes := #[]
  resolved := Array.replicate 8 none
  statics := none }

def pool4 : Array CpInfo := pool [(1, u "java/io/Serializable"), (0, .class_ 1), (0, u "java/lang/Object"), (0, .class_ 3)] 3

/-- java/io/Serializable -/
def k4 : Class := { plain "java/io/Serializable" (some 0) with
  accessFlags := 1537
  interfaces := #[]
  cf := some (fileOf pool4 2 #[] #[] 1537 4 #[] #[])
  fields := #[]
  methods := #[]
  instanceTypes := #[]
  staticTypes := #[]
  resolved := Array.replicate 8 none
  statics := none }

/-- the primitive byte -/
def k5 : Class := { plain "byte" none with kind := .primitive 'B', accessFlags := 0x411 }
/-- [B -/
def k6 : Class := { plain "[B" (some 0) with kind := .array 5 .byte, interfaces := #[3, 4], accessFlags := 1041 }

/-- the primitive double -/
def k7 : Class := { plain "double" none with kind := .primitive 'D', accessFlags := 0x411 }
/-- [D -/
def k8 : Class := { plain "[D" (some 0) with kind := .array 7 .double, interfaces := #[3, 4], accessFlags := 1041 }

/-- the primitive int -/
def k9 : Class := { plain "int" none with kind := .primitive 'I', accessFlags := 0x411 }
/-- [I -/
def k10 : Class := { plain "[I" (some 0) with kind := .array 9 .int, interfaces := #[3, 4], accessFlags := 1041 }

def heap : Heap := #[]
def classes : Array Class := #[k0, k1, k2, k3, k4, k5, k6, k7, k8, k9, k10]
def interned : List (Array UInt16 × Addr) := []
def slotsUsed : Nat := 0
def theMethod : MethodId := ⟨1, 1⟩
def args0 : Array Value := #[.int 9, .int 5, .int 7, .int 3, .int 2, .int 1]
def aboutOver (below : List Frame) : State where
  vm := { classes := classes, interned := interned.toArray }
  heap := heap
  slotsUsed := slotsUsed
  threads := #[{ frames := .invoking theMethod args0 :: below }]
def below0 : List Frame := [.native { method := ⟨0, 0⟩, args := #[] }]
def about1 : State := aboutOver below0
def p0 : Program := .bare "" "" ""
def e0 : Env := launch0.env 0 0 0
theorem w_frames : about1.frames = Frame.invoking theMethod args0 :: below0 := rfl
set_option maxRecDepth 65536 in
theorem w_args : argsFit about1.vm theMethod args0 = true := by decide +kernel
set_option maxRecDepth 65536 in
theorem w_heap : heapFits about1 = true := by decide +kernel
set_option maxRecDepth 65536 in
theorem w_runnable : about1.curStatus? = some .runnable := by decide +kernel
set_option maxRecDepth 65536 in
theorem w_alone : about1.alone = true := by decide +kernel
set_option maxRecDepth 65536 in
theorem w_named : about1.methodNamed? x = some theMethod := by decide +kernel
set_option maxRecDepth 65536 in
theorem w_hears : about1.hears theMethod below0 = true := by decide +kernel
set_option maxRecDepth 65536 in
theorem w_ripe : about1.ripe theMethod args0 below0 = true := by decide +kernel
theorem w_running : about1.status = .running := rfl
set_option maxRecDepth 65536 in
theorem w_room : about1.hasRoom e0.platform room_1 = true :=
  launch0.hasRoom_least _ room_1 (by decide +kernel) (by decide +kernel) (by decide +kernel) (by decide +kernel) (by decide +kernel) (by decide +kernel)
theorem allAtoms_all (ts : List Jvm.Cond) (a : Array Jvm.Value) (st : Jvm.State) : (allAtoms ts).before a st = ts.all (fun c => c.before a st) := by
  induction ts with
  | nil => rfl
  | cons c t ih =>
    show (Jvm.Cond.and c (allAtoms t)).before a st = _
    rw [Jvm.Cond.before_and, ih, List.all_cons]
def words1 : List Jvm.Cond := Jvm.Cond.code x code maxLocals ret :: tables_1
/-- a 'code' word, met by the world's own term for the bytes: nothing is compared byte by byte -/
theorem code_word {y : MethodName} {bytes : ByteArray} {mx : Nat} {rt : Option FieldType} {a : Array Value} {s : State} {m : MethodId} {meth : Method} {c : Code} (h1 : s.methodNamed? y = some m) (h2 : s.vm.method? m = some meth) (h3 : meth.code = some c) (h4 : c.code = bytes)
    (h5 : (c.maxLocals == mx && c.exceptionTable.isEmpty && decide (c.maxStack ≤ mostOperands) && decide (meth.sig.returnType = rt) && !meth.locks && decide (parseMethodDescriptor y.desc = some meth.sig)) = true) : (Jvm.Cond.code y bytes mx rt).before a s = true := by
  simp only [Bool.and_eq_true, beq_iff_eq, Bool.not_eq_true', decide_eq_true_eq] at h5
  obtain ⟨⟨⟨⟨⟨g1, g2⟩, g3⟩, g4⟩, g5⟩, g6⟩ := h5
  simp [Cond.before, Cond.holds, Cond.value, h1, h2, h3, h4, g1, g2, g3, g4, g5, g6]
def isCode : Jvm.Cond → Bool
  | .code _ _ _ _ => true
  | _ => false
theorem all_split {L : List Jvm.Cond} {P : Jvm.Cond → Bool} (h1 : L.all (fun c => isCode c || P c) = true) (h2 : ∀ c ∈ L.filter isCode, P c = true) : L.all P = true := by
  refine List.all_eq_true.mpr fun c hc => ?_
  have h := List.all_eq_true.mp h1 c hc
  rcases Bool.eq_false_or_eq_true (isCode c) with hi | hi
  · exact h2 c (List.mem_filter.mpr ⟨hc, hi⟩)
  · simpa [hi] using h
set_option maxRecDepth 65536 in
theorem w_c0 : (Jvm.Cond.code x code maxLocals ret).before args0 about1 = true := code_word (m := ⟨1, 1⟩) (meth := k1m1) (c := k1c1) (by decide +kernel) rfl rfl rfl (by decide +kernel)
set_option maxRecDepth 65536 in
theorem w_c1 : (Jvm.Cond.code ({ cls := "com/example/nearterm/nearterm/retrieval/HighestScores", name := "<init>", desc := "(I)V" } : Jvm.MethodName) prog_43_method_1_code (2 : Nat) (Option.none : Option Jvm.ClassFile.FieldType)).before args0 about1 = true := code_word (m := ⟨2, 0⟩) (meth := k2m0) (c := k2c0) (by decide +kernel) rfl rfl rfl (by decide +kernel)
set_option maxRecDepth 65536 in
theorem w_c2 : (Jvm.Cond.code ({ cls := "java/lang/Object", name := "<init>", desc := "()V" } : Jvm.MethodName) object_method_1_code (1 : Nat) (Option.none : Option Jvm.ClassFile.FieldType)).before args0 about1 = true := code_word (m := ⟨0, 0⟩) (meth := k0m0) (c := k0c0) (by decide +kernel) rfl rfl rfl (by decide +kernel)
set_option maxRecDepth 65536 in
theorem w_c3 : (Jvm.Cond.code ({ cls := "com/example/nearterm/nearterm/retrieval/HighestScores", name := "lowest", desc := "()D" } : Jvm.MethodName) prog_43_method_3_code (1 : Nat) (Option.some Jvm.ClassFile.FieldType.double)).before args0 about1 = true := code_word (m := ⟨2, 2⟩) (meth := k2m2) (c := k2c2) (by decide +kernel) rfl rfl rfl (by decide +kernel)
set_option maxRecDepth 65536 in
theorem w_c4 : (Jvm.Cond.code ({ cls := "com/example/nearterm/nearterm/retrieval/HighestScores", name := "offer", desc := "(D)V" } : Jvm.MethodName) prog_43_method_2_code (3 : Nat) (Option.none : Option Jvm.ClassFile.FieldType)).before args0 about1 = true := code_word (m := ⟨2, 1⟩) (meth := k2m1) (c := k2c1) (by decide +kernel) rfl rfl rfl (by decide +kernel)
set_option maxRecDepth 65536 in
theorem w_c5 : (Jvm.Cond.code ({ cls := "com/example/nearterm/nearterm/retrieval/HighestScores", name := "up", desc := "(I)V" } : Jvm.MethodName) prog_43_method_4_code (4 : Nat) (Option.none : Option Jvm.ClassFile.FieldType)).before args0 about1 = true := code_word (m := ⟨2, 3⟩) (meth := k2m3) (c := k2c3) (by decide +kernel) rfl rfl rfl (by decide +kernel)
set_option maxRecDepth 65536 in
theorem w_c6 : (Jvm.Cond.code ({ cls := "com/example/nearterm/nearterm/retrieval/HighestScoresLowestPinLaw", name := "pick", desc := "(JJIJJJJJ)J" } : Jvm.MethodName) method_4_code (15 : Nat) (Option.some Jvm.ClassFile.FieldType.long)).before args0 about1 = true := code_word (m := ⟨1, 3⟩) (meth := k1m3) (c := k1c3) (by decide +kernel) rfl rfl rfl (by decide +kernel)
set_option maxRecDepth 65536 in
theorem w_c7 : (Jvm.Cond.code ({ cls := "com/example/nearterm/nearterm/retrieval/HighestScoresLowestPinLaw", name := "atLeast", desc := "(JJJJJJ)I" } : Jvm.MethodName) method_3_code (12 : Nat) (Option.some Jvm.ClassFile.FieldType.int)).before args0 about1 = true := code_word (m := ⟨1, 2⟩) (meth := k1m2) (c := k1c2) (by decide +kernel) rfl rfl rfl (by decide +kernel)
set_option maxRecDepth 65536 in
theorem w_c8 : (Jvm.Cond.code ({ cls := "com/example/nearterm/nearterm/retrieval/HighestScores", name := "down", desc := "(I)V" } : Jvm.MethodName) prog_43_method_5_code (5 : Nat) (Option.none : Option Jvm.ClassFile.FieldType)).before args0 about1 = true := code_word (m := ⟨2, 4⟩) (meth := k2m4) (c := k2c4) (by decide +kernel) rfl rfl rfl (by decide +kernel)
def codes1 : List Jvm.Cond := [Jvm.Cond.code x code maxLocals ret, Jvm.Cond.code ({ cls := "com/example/nearterm/nearterm/retrieval/HighestScores", name := "<init>", desc := "(I)V" } : Jvm.MethodName) prog_43_method_1_code (2 : Nat) (Option.none : Option Jvm.ClassFile.FieldType), Jvm.Cond.code ({ cls := "java/lang/Object", name := "<init>", desc := "()V" } : Jvm.MethodName) object_method_1_code (1 : Nat) (Option.none : Option Jvm.ClassFile.FieldType), Jvm.Cond.code ({ cls := "com/example/nearterm/nearterm/retrieval/HighestScores", name := "lowest", desc := "()D" } : Jvm.MethodName) prog_43_method_3_code (1 : Nat) (Option.some Jvm.ClassFile.FieldType.double), Jvm.Cond.code ({ cls := "com/example/nearterm/nearterm/retrieval/HighestScores", name := "offer", desc := "(D)V" } : Jvm.MethodName) prog_43_method_2_code (3 : Nat) (Option.none : Option Jvm.ClassFile.FieldType), Jvm.Cond.code ({ cls := "com/example/nearterm/nearterm/retrieval/HighestScores", name := "up", desc := "(I)V" } : Jvm.MethodName) prog_43_method_4_code (4 : Nat) (Option.none : Option Jvm.ClassFile.FieldType), Jvm.Cond.code ({ cls := "com/example/nearterm/nearterm/retrieval/HighestScoresLowestPinLaw", name := "pick", desc := "(JJIJJJJJ)J" } : Jvm.MethodName) method_4_code (15 : Nat) (Option.some Jvm.ClassFile.FieldType.long), Jvm.Cond.code ({ cls := "com/example/nearterm/nearterm/retrieval/HighestScoresLowestPinLaw", name := "atLeast", desc := "(JJJJJJ)I" } : Jvm.MethodName) method_3_code (12 : Nat) (Option.some Jvm.ClassFile.FieldType.int), Jvm.Cond.code ({ cls := "com/example/nearterm/nearterm/retrieval/HighestScores", name := "down", desc := "(I)V" } : Jvm.MethodName) prog_43_method_5_code (5 : Nat) (Option.none : Option Jvm.ClassFile.FieldType)]
set_option maxRecDepth 65536 in
theorem codes_eq : words1.filter isCode = codes1 := rfl
theorem w_codes : ∀ c ∈ words1.filter isCode, c.before args0 about1 = true := by
  rw [codes_eq]
  intro c hc
  simp only [codes1, List.mem_cons, List.not_mem_nil, or_false] at hc
  rcases hc with rfl | rfl | rfl | rfl | rfl | rfl | rfl | rfl | rfl
  · exact w_c0
  · exact w_c1
  · exact w_c2
  · exact w_c3
  · exact w_c4
  · exact w_c5
  · exact w_c6
  · exact w_c7
  · exact w_c8
set_option maxRecDepth 65536 in
theorem w_t1 : (words1.take 24).all (fun c => isCode c || c.before args0 about1) = true := by decide +kernel
set_option maxRecDepth 65536 in
theorem w_t2 : (words1.drop 24).all (fun c => isCode c || c.before args0 about1) = true := by decide +kernel
theorem w_tables : (allAtoms (Jvm.Cond.code x code maxLocals ret :: tables_1)).before args0 about1 = true := by
  rw [allAtoms_all]
  show words1.all (fun c => c.before args0 about1) = true
  refine all_split ?_ w_codes
  rw [← List.take_append_drop 24 words1, List.all_append, w_t1, w_t2]
  rfl
set_option maxRecDepth 65536 in
theorem w_case : (Jvm.Cond.and given_1 narrow_1).before args0 about1 = true := by decide +kernel
theorem w_applies : (headSpec (Jvm.Cond.code x code maxLocals ret :: tables_1) room_1).applies x e0.platform about1 = true :=
  (Spec.applies_iff w_frames).mpr ⟨w_running, w_runnable, w_alone, w_named, w_hears, w_ripe, w_room, w_tables⟩
theorem atStart : AtStart classFile x code maxLocals ret World_1 tables_1 room_1 Calls_1 rest_1 Pre_1 launch0 p0 e0 about1 theMethod args0 below0 :=
  ⟨lists_1, trivial, launch0.admits_env _ _ _, launch0.least_env, fairChoices_fair.cas, fairChoices_fair.clock, w_frames, w_args, w_heap, w_applies, trivial, trivial, w_case⟩
end start1
theorem witness_1 : WitnessClaimed_1 := ⟨start1.p0, start1.e0, start1.about1, start1.theMethod, start1.args0, start1.below0, start1.atStart⟩
end Jvm.Pilot.@@N@@
