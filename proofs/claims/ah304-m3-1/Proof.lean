import JvmDerived
import JvmDerived.Pilot.@@N@@Statement
import JvmDerived.Pilot.@@N@@Code
set_option linter.unusedVariables false
set_option linter.unusedSimpArgs false
namespace Jvm.RoadKit
open Sem ClassFile Op Lib Jvm.Stand Jvm.Free Jvm.LawKit
def GoW (p : Program) (e : Env) (below : List Frame) (s : State) (Q : Option Value → Heap → List Loc → Prop) (k n : Nat) (u : State) : Prop :=
  ∃ s₂ o, Steps p.tables e below u s₂ ∧ s₂.status = .running ∧ Ended s₂ below o ∧ ∃ v L, o = .returned v ∧ Q v s₂.heap L ∧ FrameEnd s o s₂ L k n
def PureQ (r : Value) (h0 : Heap) (n0 : Nat) (v : Option Value) (h : Heap) (L : List Loc) : Prop := v = some r ∧ Fr n0 L ∧ h = h0
def ValQ (r : Value) (n0 : Nat) (v : Option Value) (h : Heap) (L : List Loc) : Prop := v = some r ∧ Fr n0 L
section New
variable {p : Program} {l : Launch} {e : Env} {R : Room} {s : State} {m : MethodId} {args : Array Value} {below : List Frame} {meth : Method} {c : Code} {T : State} {locs : List Loc} {cells slots : Nat} {Q : Option Value → Heap → List Loc → Prop} {k n : Nat} {u v : State}
theorem GoW.mk (h : GoW p e below s Q k n u) : ∃ s₂ o, Steps p.tables e below u s₂ ∧ s₂.status = .running ∧ Ended s₂ below o ∧ ∃ v L, o = .returned v ∧ Q v s₂.heap L ∧ FrameEnd s o s₂ L k n := h
theorem GoW.st (h : ∀ t, Steps p.tables e below u t → Steps p.tables e below v t) (q : GoW p e below s Q k n u) : GoW p e below s Q k n v := by
  obtain ⟨s₂, o, h1, h2⟩ := q; exact ⟨s₂, o, h _ h1, h2⟩
theorem GoW.sg {T' : State} (g' : JFrame) (h : ∀ t, Steps p.tables e below (T'.setTop g') t → Steps p.tables e below v t) (q : GoW p e below s Q k n (T'.setTop g')) : GoW p e below s Q k n v := GoW.st h q
theorem retI (X : Stand p l e R s m args below meth c T locs cells slots) (hx : p.tables.exec = Jvm.exec) {pc : Nat} {Ls : Array Slot} {z : Int32} {rest : List Value} (hret : meth.sig.returnType = some .int) (hd : decode c.code pc = .ok (.ireturn, 1)) {fs : List Frame}
    (hl : ∀ (f : JFrame) (acts : List Action), f.method = m → f.locked = none → f.entered = [] → (doReturn e (T.setTop f) acts (some (.int z))).1 = T.setFrames fs) : Steps p.tables e below (T.setTop (mkF m pc Ls (.int z :: rest))) (T.setFrames fs) := by
  have hm' : T.vm.method? m = some meth := X.method'
  have hn : narrow .int (.int z) = .int z := rfl
  show Steps p.tables e below (T.setTop { method := m, pc := pc, locals := Ls, stack := _ :: rest, locked := none }) _
  jvm_step X.here [X.here.top, hx, hd, hm', hret, hn]
  first | (intro acts; rw [hl _ acts rfl rfl rfl]) | rw [hl _ _ rfl rfl rfl]
  exact Steps.refl _
theorem GoW.retN (X : Stand p l e R s m args below meth c T locs cells slots) (hx : p.tables.exec = Jvm.exec) {pc : Nat} {Ls : Array Slot} {z : Int32} {t : FieldType} {rest : List Value} (hret : meth.sig.returnType = some t) (ht : t = .boolean ∨ t = .byte ∨ t = .char ∨ t = .short)
    (hd : decode c.code pc = .ok (.ireturn, 1)) (hlk : meth.locks = false) (hq : Q (some (.int (nar t z))) T.heap locs) (hk : cells ≤ k) (hn : slots ≤ n) : GoW p e below s Q k n (T.setTop (mkF m pc Ls (.int z :: rest))) := by
  obtain ⟨fs, hr, hrun, hended, hW, hsame⟩ := X.leave (v := some (.int (nar t z))) (fun h => by rw [hret] at h; cases h) hlk
  exact ⟨_, _, Jvm.RoadKit.retN X hx hret ht hd hr, hrun, hended, _, _, rfl, hq, ⟨_, rfl⟩, hW, hsame.mono hk hn⟩
theorem GoW.retI (X : Stand p l e R s m args below meth c T locs cells slots) (hx : p.tables.exec = Jvm.exec) {pc : Nat} {Ls : Array Slot} {z : Int32} {rest : List Value} (hret : meth.sig.returnType = some .int)
    (hd : decode c.code pc = .ok (.ireturn, 1)) (hlk : meth.locks = false) (hq : Q (some (.int z)) T.heap locs) (hk : cells ≤ k) (hn : slots ≤ n) : GoW p e below s Q k n (T.setTop (mkF m pc Ls (.int z :: rest))) := by
  obtain ⟨fs, hr, hrun, hended, hW, hsame⟩ := X.leave (v := some (.int z)) (fun h => by rw [hret] at h; cases h) hlk
  exact ⟨_, _, Jvm.RoadKit.retI X hx hret hd hr, hrun, hended, _, _, rfl, hq, ⟨_, rfl⟩, hW, hsame.mono hk hn⟩
theorem GoW.retL (X : Stand p l e R s m args below meth c T locs cells slots) (hx : p.tables.exec = Jvm.exec) {pc : Nat} {Ls : Array Slot} {z : Int64} {rest : List Value} (hret : meth.sig.returnType = some .long)
    (hd : decode c.code pc = .ok (.lreturn, 1)) (hlk : meth.locks = false) (hq : Q (some (.long z)) T.heap locs) (hk : cells ≤ k) (hn : slots ≤ n) : GoW p e below s Q k n (T.setTop (mkF m pc Ls (.long z :: rest))) := by
  obtain ⟨fs, hr, hrun, hended, hW, hsame⟩ := X.leave (v := some (.long z)) (fun h => by rw [hret] at h; cases h) hlk
  exact ⟨_, _, retOut X hx hret rfl (Or.inr (Or.inl ⟨rfl, rfl, z, rfl⟩)) hd hr, hrun, hended, _, _, rfl, hq, ⟨_, rfl⟩, hW, hsame.mono hk hn⟩
theorem GoW.retA (X : Stand p l e R s m args below meth c T locs cells slots) (hx : p.tables.exec = Jvm.exec) {pc : Nat} {Ls : Array Slot} {w : Value} {t : FieldType} {rest : List Value} (hret : meth.sig.returnType = some t) (hw : w.isRef = true) (ht : t.isReference = true)
    (hn' : narrow t w = w) (hd : decode c.code pc = .ok (.areturn, 1)) (hlk : meth.locks = false) (hq : Q (some w) T.heap locs) (hk : cells ≤ k) (hn : slots ≤ n) : GoW p e below s Q k n (T.setTop (mkF m pc Ls (w :: rest))) := by
  obtain ⟨fs, hr, hrun, hended, hW, hsame⟩ := X.leave (v := some w) (fun h => by rw [hret] at h; cases h) hlk
  exact ⟨_, _, retOut X hx hret hn' (Or.inr (Or.inr (Or.inr (Or.inr ⟨rfl, ht, hw⟩)))) hd hr, hrun, hended, _, _, rfl, hq, ⟨_, rfl⟩, hW, hsame.mono hk hn⟩
theorem GoW.retV (X : Stand p l e R s m args below meth c T locs cells slots) (hx : p.tables.exec = Jvm.exec) {pc : Nat} {Ls : Array Slot} (hret : meth.sig.returnType = none)
    (hd : decode c.code pc = .ok (.return_, 1)) (hlk : meth.locks = false) (hq : Q none T.heap locs) (hk : cells ≤ k) (hn : slots ≤ n) : GoW p e below s Q k n (T.setTop (mkF m pc Ls [])) := by
  obtain ⟨fs, hr, hrun, hended, hW, hsame⟩ := X.leave (v := none) (fun _ => rfl) hlk
  exact ⟨_, _, X.returnOut hx hret hd hr, hrun, hended, _, _, rfl, hq, ⟨_, rfl⟩, hW, hsame.mono hk hn⟩
theorem hq_ {T : State} {h : Heap} {a : Addr} {c : Cell} (e : T.heap = h) (q : h[a]? = some c) : T.heap[a]? = some c := by rw [e]; exact q
theorem own_b53 (x : Int32) : B53 x.toInt64 := by
  have h := rng32 x
  unfold B53; rw [Int32.toInt_toInt64]; omega
theorem own_eqI {args : Array Value} {first s : State} {o : Option Outcome} {idx : List Nat} {t : Term} {i : Int32} (h : (Jvm.Cond.eq t (.int i)).value args first o s idx = some true) : t.eval args first o idx s = some (.int i) := by
  obtain ⟨x, y, hx, hy, k1, k2⟩ := cmp_v (Or.inl h)
  rw [Term.int_eval] at hy
  cases hy
  obtain ⟨z, rfl⟩ := k2
  have q := gotT (Cond.eq_ints hx (Term.int_eval i)) h
  rw [hx, q]
theorem own_ne {args : Array Value} {first s : State} {o : Option Outcome} {idx : List Nat} {t u : Term} {C n d : String} {i j : Int32} {a b : Addr} (h1 : (Jvm.Cond.eq (.field t C n d) (.int i)).value args first o s idx = some true) (h2 : (Jvm.Cond.eq (.field u C n d) (.int j)).value args first o s idx = some true)
    (ha : t.eval args first o idx s = some (.ref a)) (hb : u.eval args first o idx s = some (.ref b)) (hij : i ≠ j) : a ≠ b := fun e => by
  subst e
  have q1 := own_eqI h1
  have q2 := own_eqI h2
  rw [fld_at ha] at q1
  rw [fld_at hb, q1] at q2
  exact hij (by cases q2; rfl)
theorem own_staK0 {Z : State} {h h' : Heap} {C n d : String} {v : Value} (F : Sta Z h C n d v) (K : Keep h h' []) : Sta Z h' C n d v := by
  obtain ⟨cf, i, k, f, st, cell, h1, h2, h3, h4, h5, r⟩ := F; exact ⟨cf, i, k, f, st, cell, h1, h2, h3, h4, K.2.1 _ _ h5 nin0, r⟩
def NSt (h : Heap) (a : Addr) : Prop := ∀ c : Cell, h[a]? = some c → c.vm.isStatics = false
theorem own_nsE {Z : State} {h : Heap} {a : Addr} {C : String} (E : Exa Z h a C) : NSt h a := fun c hc => by
  obtain ⟨cell2, k2, g1, -, -, g2, -⟩ := E
  cases hc.symm.trans g1
  exact g2
theorem own_nsA {Z : State} {h : Heap} {a : Addr} {k : ClassId} {ty : FieldType} {z : Int32} {vs : List Value} {dv : Value} (A : Arv Z h a k ty z vs dv) : NSt h a := fun c hc => by
  obtain ⟨cl, A, -⟩ := A
  cases hc.symm.trans A.1
  exact A.plain
theorem own_staK {Z : State} {h h' : Heap} {C n d : String} {v : Value} {ws : List Addr} (F : Sta Z h C n d v) (K : Keep h h' ws) (E : ∀ x ∈ ws, NSt h x) : Sta Z h' C n d v := by
  obtain ⟨cf, i, k, f, st, cell, h1, h2, h3, h4, h5, h6, r⟩ := F
  refine ⟨cf, i, k, f, st, cell, h1, h2, h3, h4, K.2.1 _ _ h5 (fun q => ?_), h6, r⟩
  have := E st q cell h5
  rw [h6] at this; cases this
theorem GoW.retD (X : Stand p l e R s m args below meth c T locs cells slots) (hx : p.tables.exec = Jvm.exec) {pc : Nat} {Ls : Array Slot} {z : UInt64} {rest : List Value} (hret : meth.sig.returnType = some .double)
    (hd : decode c.code pc = .ok (.dreturn, 1)) (hlk : meth.locks = false) (hq : Q (some (.double z)) T.heap locs) (hk : cells ≤ k) (hn : slots ≤ n) : GoW p e below s Q k n (T.setTop (mkF m pc Ls (.double z :: rest))) := by
  obtain ⟨fs, hr, hrun, hended, hW, hsame⟩ := X.leave (v := some (.double z)) (fun h => by rw [hret] at h; cases h) hlk
  exact ⟨_, _, retOut X hx hret rfl (Or.inr (Or.inr (Or.inl ⟨rfl, rfl, z, rfl⟩))) hd hr, hrun, hended, _, _, rfl, hq, ⟨_, rfl⟩, hW, hsame.mono hk hn⟩
theorem own_pop2L {tb : Tables} [Ours tb] {e : Env} {below : List Frame} {T target : State} {m : MethodId} {c : Code} {g : JFrame} (h : At T m c below) (hx : tb.exec = Jvm.exec) (hg : g.method = m) {x : Int64} {rest : List Value} (hd : decode c.code g.pc = .ok (.pop2, 1)) (hs : g.stack = .long x :: rest)
    (hr : Steps tb e below (T.setTop { g with pc := g.pc + 1, stack := rest }) target) : Steps tb e below (T.setTop g) target := by
  subst hg
  jvm_step h [h.top, hx, hd, hs, Value.category]
  exact hr
theorem own_callS {Z : State} {a0 : Array Value} {h : Heap} (X : Stand p l e R s m args below meth c T locs cells slots) (hx : p.tables.exec = Jvm.exec) (hZ : Z.Warmed39 s.vm) {own : String} {index : Nat} {y : MethodName} {bytes : ByteArray} {maxL : Nat} {ret : Option FieldType}
    (hown : s.vm.findClass own = some m.cls) (w1 : (Jvm.Cond.methodLink own index y).before a0 Z = true) (w2 : (Jvm.Cond.static y).before a0 Z = true) (w3 : (Jvm.Cond.initialized y.cls).before a0 Z = true) (w4 : (Jvm.Cond.code y bytes maxL ret).before a0 Z = true)
    (hy : y.cls ≠ "java/lang/invoke/MethodHandle" ∧ y.cls ≠ "java/lang/invoke/VarHandle") (W : Nat) {rm : Room} {argsL rest : List Value} {Q : Option Value → Heap → List Loc → Prop}
    (hM : MetFree l y (head1 [Jvm.Cond.code y bytes maxL ret] rm) (fun a U => a = argsL.toArray ∧ Z.Warmed39 U.vm ∧ U.heap = h) (fun _ _ _ _ _ => True) (fun _ U o U' => ∃ v L, o = .returned v ∧ Q v U'.heap L ∧ FrameEnd U o U' L rm.cells rm.slots))
    (hf : rm.frames + 1 ≤ R.frames) (hl : W + (maxL + 11) + rm.locals ≤ R.locals) (eT : T.heap = h) (hc : cells + rm.cells ≤ R.cells) (hs : slots + rm.slots ≤ R.slots)
    {g : JFrame} (hg : g.method = m) (hsize : g.locals.size = c.maxLocals) (hlen : ∀ sig, parseMethodDescriptor y.desc = some sig → argsL.length = sig.parameters.length)
    (hstack : g.stack = argsL.reverse ++ rest) (hW : 2 * g.monitorRoom + (rest.map fun v => v.category).sum ≤ W) (hdg : decode c.code g.pc = .ok (.invokestatic index, 3)) :
    ∃ (v : Option Value) (T' : State) (L : List Loc), Stand p l e R s m args below meth c T' (locs ++ L) (cells + rm.cells) (slots + rm.slots) ∧ Q v T'.heap L ∧
      ∀ target, Steps p.tables e below (T'.setTop { g with pc := g.pc + 3, stack := v.toList ++ rest }) target → Steps p.tables e below (T.setTop g) target := by
  obtain ⟨v, _, ⟨T', L', k', n'⟩, -, X', ⟨Lc, hQ, l', y', z'⟩, st⟩ := Jvm.LawKit.callS X hx (y := y) hown (mvT hZ w1) (mvT hZ w2) (mvT hZ w3) (mvT hZ w4) hy (backOf (W := W) hM hZ w4 w3 hf hl) (g := g) hg hsize (argsL := argsL) (rest := rest) hlen hstack hW hdg (fun _ _ => ⟨rfl, eT, hc, hs⟩)
  dsimp only [Pt.U, Pt.locs, Pt.cells, Pt.slots] at X' l' y' z' st hQ
  subst l' y' z'
  exact ⟨v, T', Lc, X', hQ, st⟩
abbrev MM (l : Launch) (Z : State) (y : MethodName) (code : ByteArray) (ml : Nat) (ret : Option FieldType) (fr ce sl lo : Nat) (argv : Array Value) (h0 : Heap) (Q : Option Value → Heap → List Loc → Prop) : Prop :=
  MetFree l y (head1 [Jvm.Cond.code y code ml ret] { frames := fr, cells := ce, slots := sl, locals := lo }) (fun a U => a = argv ∧ Z.Warmed39 U.vm ∧ U.heap = h0) (fun _ _ _ _ _ => True) (fun _ U o U' => ∃ v L, o = .returned v ∧ Q v U'.heap L ∧ FrameEnd U o U' L ce sl)
theorem own_start {Z : State} {y : MethodName} {code : ByteArray} {ml : Nat} {ret : Option FieldType} {fr ce sl lo : Nat} {argv : Array Value} {h0 : Heap} {Q : Option Value → Heap → List Loc → Prop} (F : MethodId → JFrame) (hpl : plainFor y = true) (ef : ∀ m, entryFrame m argv ml = F m) (n0 : Nat)
    (H : ∀ p e s m below meth c s₁, BodyLoose p l y (head1 [Jvm.Cond.code y code ml ret] { frames := fr, cells := ce, slots := sl, locals := lo }) code ml ret e s m argv below meth c s₁ → p.tables.exec = Jvm.exec → c.code = code → c.maxLocals = ml → Z.Warmed39 s.vm → s.vm.findClass y.cls = some m.cls → meth.name = y.name →
      Stand p l e { frames := fr, cells := ce, slots := sl, locals := lo } s m argv below meth c s₁ [] 0 0 → s₁.heap = h0 → Fr n0 [] → GoW p e below s Q ce sl (s₁.setTop (F m))) : MM l Z y code ml ret fr ce sl lo argv h0 Q := by
  refine MetFree.of_bodySF hpl hisR ?_
  intro p e s m args below meth c s₁ Bd hml hP hK
  obtain ⟨rfl, hZ, hh⟩ := hP
  refine GoW.mk (GoW.st (fun t k => castTop (ef m) k) ?_)
  exact H p e s m below meth c s₁ Bd Bd.exec Bd.bytes hml hZ (findClass_of_methodNamed Bd.named) (name_of_methodNamed Bd.named Bd.method).1 (Stand.of_body Bd) (by rw [← hh, Bd.state]; rfl) (Fr.nil n0)
theorem own_virt {Z : State} {a0 : Array Value} {h : Heap} (X : Stand p l e R s m args below meth c T locs cells slots) (hx : p.tables.exec = Jvm.exec) (hZ : Z.Warmed39 s.vm) {own C : String} {index : Nat} {y : MethodName} {bytes : ByteArray} {maxL : Nat} {ret : Option FieldType}
    (hown : s.vm.findClass own = some m.cls) (w1 : (Jvm.Cond.methodLink own index y).before a0 Z = true) (w2 : (Jvm.Cond.declares y).before a0 Z = true) (w3 : (Jvm.Cond.selects C y y).before a0 Z = true) (w4 : (Jvm.Cond.instanceMethod y).before a0 Z = true) (w5 : (Jvm.Cond.code y bytes maxL ret).before a0 Z = true) (w6 : (Jvm.Cond.initialized y.cls).before a0 Z = true)
    (hy : y.cls ≠ "java/lang/invoke/MethodHandle" ∧ y.cls ≠ "java/lang/invoke/VarHandle") (W : Nat) {rm : Room} {a : Addr} {argsL rest : List Value} {Q : Option Value → Heap → List Loc → Prop}
    (hM : MetFree l y (head1 [Jvm.Cond.code y bytes maxL ret] rm) (fun a' U => a' = (Value.ref a :: argsL).toArray ∧ Z.Warmed39 U.vm ∧ U.heap = h) (fun _ _ _ _ _ => True) (fun _ U o U' => ∃ v L, o = .returned v ∧ Q v U'.heap L ∧ FrameEnd U o U' L rm.cells rm.slots))
    (hf : rm.frames + 1 ≤ R.frames) (hl : W + (maxL + 11) + rm.locals ≤ R.locals) (eT : T.heap = h) (E : Exa Z h a C) (hc : cells + rm.cells ≤ R.cells) (hs : slots + rm.slots ≤ R.slots)
    {g : JFrame} (hg : g.method = m) (hsize : g.locals.size = c.maxLocals) (hlen : ∀ sig, parseMethodDescriptor y.desc = some sig → argsL.length = sig.parameters.length)
    (hstack : g.stack = argsL.reverse ++ .ref a :: rest) (hW : 2 * g.monitorRoom + (rest.map fun v => v.category).sum ≤ W) (hdg : decode c.code g.pc = .ok (.invokevirtual index, 3)) :
    ∃ (v : Option Value) (T' : State) (L : List Loc), Stand p l e R s m args below meth c T' (locs ++ L) (cells + rm.cells) (slots + rm.slots) ∧ Q v T'.heap L ∧
      ∀ target, Steps p.tables e below (T'.setTop { g with pc := g.pc + 3, stack := v.toList ++ rest }) target → Steps p.tables e below (T.setTop g) target := by
  obtain ⟨cq, kq, qa, qb, qc⟩ := isOf hZ eT E
  obtain ⟨v, _, ⟨T', L', k', n'⟩, -, X', ⟨Lc, hQ, l', y', z'⟩, st⟩ := X.virtualBack hx (y := y) (z := y) hown (mvT hZ w1) (mvT hZ w2) (notFace_of_selects (args := #[]) (mvT hZ w3)) (mvT hZ w3) (mvT hZ w4) hy (backOf (W := W) hM hZ w5 w6 hf hl) qa qc (g := g) hg hsize (Steps.refl _) (argsL := argsL) (rest := rest) hlen hstack hW hdg (fun _ _ => ⟨rfl, eT, hc, hs⟩)
  dsimp only [Pt.U, Pt.locs, Pt.cells, Pt.slots] at X' l' y' z' st hQ
  subst l' y' z'
  exact ⟨v, T', Lc, X', hQ, fun t k => st.trans k⟩
theorem own_priv {Z : State} {a0 : Array Value} {h : Heap} (X : Stand p l e R s m args below meth c T locs cells slots) (hx : p.tables.exec = Jvm.exec) (hZ : Z.Warmed39 s.vm) {own C : String} {index : Nat} {y : MethodName} {nI : Nat} {bytes : ByteArray} {maxL : Nat} {ret : Option FieldType}
    (hown : s.vm.findClass own = some m.cls) (w1 : (Jvm.Cond.methodLink own index y).before a0 Z = true) (w2 : (Jvm.Cond.privateMethod y).before a0 Z = true) (w3 : (Jvm.Cond.instantiable y.cls nI).before a0 Z = true) (w4 : (Jvm.Cond.instanceMethod y).before a0 Z = true) (w5 : (Jvm.Cond.code y bytes maxL ret).before a0 Z = true) (w6 : (Jvm.Cond.initialized y.cls).before a0 Z = true)
    (hy : y.cls ≠ "java/lang/invoke/MethodHandle" ∧ y.cls ≠ "java/lang/invoke/VarHandle") (W : Nat) {rm : Room} {a : Addr} {argsL rest : List Value} {Q : Option Value → Heap → List Loc → Prop}
    (hM : MetFree l y (head1 [Jvm.Cond.code y bytes maxL ret] rm) (fun a' U => a' = (Value.ref a :: argsL).toArray ∧ Z.Warmed39 U.vm ∧ U.heap = h) (fun _ _ _ _ _ => True) (fun _ U o U' => ∃ v L, o = .returned v ∧ Q v U'.heap L ∧ FrameEnd U o U' L rm.cells rm.slots))
    (hf : rm.frames + 1 ≤ R.frames) (hl : W + (maxL + 11) + rm.locals ≤ R.locals) (eT : T.heap = h) (E : Exa Z h a C) (hc : cells + rm.cells ≤ R.cells) (hs : slots + rm.slots ≤ R.slots)
    {g : JFrame} (hg : g.method = m) (hsize : g.locals.size = c.maxLocals) (hlen : ∀ sig, parseMethodDescriptor y.desc = some sig → argsL.length = sig.parameters.length)
    (hstack : g.stack = argsL.reverse ++ .ref a :: rest) (hW : 2 * g.monitorRoom + (rest.map fun v => v.category).sum ≤ W) (hdg : decode c.code g.pc = .ok (.invokevirtual index, 3)) :
    ∃ (v : Option Value) (T' : State) (L : List Loc), Stand p l e R s m args below meth c T' (locs ++ L) (cells + rm.cells) (slots + rm.slots) ∧ Q v T'.heap L ∧
      ∀ target, Steps p.tables e below (T'.setTop { g with pc := g.pc + 3, stack := v.toList ++ rest }) target → Steps p.tables e below (T.setTop g) target := by
  obtain ⟨cq, kq, qa, qb, qc⟩ := isOf hZ eT E
  obtain ⟨cell, hcell, hcls, hst⟩ := qc
  obtain ⟨c0, k0, hc0, hk0, -, hni, -, -⟩ := Cond.instantiable_spec (mvT (args := args) hZ w3)
  have hsel := selects_self_of_private hc0 hk0 (Bool.or_eq_false_iff.mp hni).1 (Cond.privateMethod_at (mvT (args := args) hZ w2)) (mvT (args := args) hZ w4) hy
  obtain ⟨v, _, ⟨T', L', k', n'⟩, -, X', ⟨Lc, hQ, l', y', z'⟩, st⟩ := X.privateBack hx (y := y) hown (mvT hZ w1) (mvT hZ w4) hsel (Cond.privateMethod_at (mvT (args := args) hZ w2)) (mvT hZ w5) hy (backOf (W := W) hM hZ w5 w6 hf hl) (g := g) hg hsize (Steps.refl _) hcell (fun q e => by rw [e] at hst; cases hst) (argsL := argsL) (rest := rest) hlen hstack hW hdg (fun _ _ => ⟨rfl, eT, hc, hs⟩)
  dsimp only [Pt.U, Pt.locs, Pt.cells, Pt.slots] at X' l' y' z' st hQ
  subst l' y' z'
  exact ⟨v, T', Lc, X', hQ, fun t k => st.trans k⟩
theorem own_spec {Z : State} {a0 : Array Value} {h : Heap} (X : Stand p l e R s m args below meth c T locs cells slots) (hx : p.tables.exec = Jvm.exec) (hZ : Z.Warmed39 s.vm) {own : String} {index : Nat} {y : MethodName} {bytes : ByteArray} {maxL : Nat} (hy1 : y.name = "<init>")
    (hown : s.vm.findClass own = some m.cls) (w1 : (Jvm.Cond.methodLink own index y).before a0 Z = true) (w2 : (Jvm.Cond.instanceMethod y).before a0 Z = true) (w3 : (Jvm.Cond.initialized y.cls).before a0 Z = true) (w4 : (Jvm.Cond.code y bytes maxL none).before a0 Z = true)
    (hy : y.cls ≠ "java/lang/invoke/MethodHandle" ∧ y.cls ≠ "java/lang/invoke/VarHandle") (W : Nat) {rm : Room} {a : Addr} {argsL rest : List Value} {Q : Option Value → Heap → List Loc → Prop}
    (hM : MetFree l y (head1 [Jvm.Cond.code y bytes maxL none] rm) (fun a' U => a' = (Value.ref a :: argsL).toArray ∧ Z.Warmed39 U.vm ∧ U.heap = h) (fun _ _ _ _ _ => True) (fun _ U o U' => ∃ v L, o = .returned v ∧ Q v U'.heap L ∧ FrameEnd U o U' L rm.cells rm.slots))
    (hf : rm.frames + 1 ≤ R.frames) (hl : W + (maxL + 11) + rm.locals ≤ R.locals) (eT : T.heap = h) (hc : cells + rm.cells ≤ R.cells) (hs : slots + rm.slots ≤ R.slots)
    {g : JFrame} (hg : g.method = m) (hsize : g.locals.size = c.maxLocals) (hlen : ∀ sig, parseMethodDescriptor y.desc = some sig → argsL.length = sig.parameters.length)
    (hstack : g.stack = argsL.reverse ++ .ref a :: rest) (hW : 2 * g.monitorRoom + (rest.map fun v => v.category).sum ≤ W) (hdg : decode c.code g.pc = .ok (.invokespecial index, 3)) :
    ∃ (v : Option Value) (T' : State) (L : List Loc), Stand p l e R s m args below meth c T' (locs ++ L) (cells + rm.cells) (slots + rm.slots) ∧ Q v T'.heap L ∧
      ∀ target, Steps p.tables e below (T'.setTop { g with pc := g.pc + 3, stack := v.toList ++ rest }) target → Steps p.tables e below (T.setTop g) target := by
  obtain ⟨v, _, ⟨T', L', k', n'⟩, -, X', ⟨Lc, hQ, l', y', z'⟩, st⟩ := X.specialBack hx (y := y) hy1 hown (mvT hZ w1) (mvT hZ w2) (mvT hZ w4) hy (backOf (W := W) hM hZ w4 w3 hf hl) (g := g) hg hsize (Steps.refl _) (a := a) (argsL := argsL) (rest := rest) hlen hstack hW hdg (fun _ _ => ⟨rfl, eT, hc, hs⟩)
  dsimp only [Pt.U, Pt.locs, Pt.cells, Pt.slots] at X' l' y' z' st hQ
  subst l' y' z'
  exact ⟨v, T', Lc, X', hQ, fun t k => st.trans k⟩
def GoV (p : Program) (e : Env) (below : List Frame) (s : State) (Q : Option Value → Heap → List Loc → Prop) (k n : Nat) (u : State) : Prop :=
  ∃ s₂ o, Steps p.tables e below u s₂ ∧ s₂.status = .running ∧ Ended s₂ below o ∧ ∃ v L, o = .returned v ∧ Q v s₂.heap L ∧ ReturnedEndW s o s₂ L k n
theorem GoV.mk (h : GoV p e below s Q k n u) : ∃ s₂ o, Steps p.tables e below u s₂ ∧ s₂.status = .running ∧ Ended s₂ below o ∧ ∃ v L, o = .returned v ∧ Q v s₂.heap L ∧ ReturnedEndW s o s₂ L k n := h
theorem GoV.st (h : ∀ t, Steps p.tables e below u t → Steps p.tables e below v t) (q : GoV p e below s Q k n u) : GoV p e below s Q k n v := by
  obtain ⟨s₂, o, h1, h2⟩ := q; exact ⟨s₂, o, h _ h1, h2⟩
theorem GoV.sg {T' : State} (g' : JFrame) (h : ∀ t, Steps p.tables e below (T'.setTop g') t → Steps p.tables e below v t) (q : GoV p e below s Q k n (T'.setTop g')) : GoV p e below s Q k n v := GoV.st h q
theorem GoV.retN {vm1 : Vm} {n1 : Nat} (X : Stand p l e R (s.setVm vm1) m args below meth c T locs cells slots) (hS : s.Since vm1 n1) (h1 : n1 ≤ T.heap.size) (hx : p.tables.exec = Jvm.exec) {pc : Nat} {Ls : Array Slot} {z : Int32} {t : FieldType} {rest : List Value} (hret : meth.sig.returnType = some t) (ht : t = .boolean ∨ t = .byte ∨ t = .char ∨ t = .short)
    (hd : decode c.code pc = .ok (.ireturn, 1)) (hlk : meth.locks = false) (hq : Q (some (.int (nar t z))) T.heap locs) (hk : cells ≤ k) (hn : slots ≤ n) : GoV p e below s Q k n (T.setTop (mkF m pc Ls (.int z :: rest))) := by
  obtain ⟨fs, hr, hrun, hended, hv, hW, hB, hs⟩ := X.leaveW hS h1 (v := some (.int (nar t z))) (fun h => by rw [hret] at h; cases h) hlk
  exact ⟨_, _, Jvm.RoadKit.retN X hx hret ht hd hr, hrun, hended, _, _, rfl, hq, hv, hW, hB, hs.mono hk hn⟩
def GoU (p : Program) (e : Env) (below : List Frame) (s : State) (Q : Option Value → Heap → Vm → List Loc → Prop) (k n : Nat) (u : State) : Prop :=
  ∃ s₂ o, Steps p.tables e below u s₂ ∧ s₂.status = .running ∧ Ended s₂ below o ∧ ∃ v L, o = .returned v ∧ Q v s₂.heap s₂.vm L ∧ ReturnedEndW s o s₂ L k n
section Wide
variable {QQ : Option Value → Heap → Vm → List Loc → Prop}
theorem GoU.mk (h : GoU p e below s QQ k n u) : ∃ s₂ o, Steps p.tables e below u s₂ ∧ s₂.status = .running ∧ Ended s₂ below o ∧ ∃ v L, o = .returned v ∧ QQ v s₂.heap s₂.vm L ∧ ReturnedEndW s o s₂ L k n := h
theorem GoU.st (h : ∀ t, Steps p.tables e below u t → Steps p.tables e below v t) (q : GoU p e below s QQ k n u) : GoU p e below s QQ k n v := by
  obtain ⟨s₂, o, h1, h2⟩ := q; exact ⟨s₂, o, h _ h1, h2⟩
theorem GoU.sg {T' : State} (g' : JFrame) (h : ∀ t, Steps p.tables e below (T'.setTop g') t → Steps p.tables e below v t) (q : GoU p e below s QQ k n (T'.setTop g')) : GoU p e below s QQ k n v := GoU.st h q
theorem GoU.retV {vm1 : Vm} {n1 : Nat} (X : Stand p l e R (s.setVm vm1) m args below meth c T locs cells slots) (hS : s.Since vm1 n1) (h1 : n1 ≤ T.heap.size) (hx : p.tables.exec = Jvm.exec) {pc : Nat} {Ls : Array Slot} (hret : meth.sig.returnType = none)
    (hd : decode c.code pc = .ok (.return_, 1)) (hlk : meth.locks = false) (hq : QQ none T.heap T.vm locs) (hk : cells ≤ k) (hn : slots ≤ n) : GoU p e below s QQ k n (T.setTop (mkF m pc Ls [])) := by
  obtain ⟨fs, hr, hrun, hended, hv, hW, hB, hs⟩ := X.leaveW hS h1 (v := none) (fun _ => rfl) hlk
  exact ⟨_, _, X.returnOut hx hret hd hr, hrun, hended, _, _, rfl, hq, hv, hW, hB, hs.mono hk hn⟩
theorem GoU.retA {vm1 : Vm} {n1 : Nat} (X : Stand p l e R (s.setVm vm1) m args below meth c T locs cells slots) (hS : s.Since vm1 n1) (h1 : n1 ≤ T.heap.size) (hx : p.tables.exec = Jvm.exec) {pc : Nat} {Ls : Array Slot} {w : Value} {t : FieldType} {rest : List Value} (hret : meth.sig.returnType = some t) (hw : w.isRef = true) (ht : t.isReference = true)
    (hn' : narrow t w = w) (hd : decode c.code pc = .ok (.areturn, 1)) (hlk : meth.locks = false) (hq : QQ (some w) T.heap T.vm locs) (hk : cells ≤ k) (hn : slots ≤ n) : GoU p e below s QQ k n (T.setTop (mkF m pc Ls (w :: rest))) := by
  obtain ⟨fs, hr, hrun, hended, hv, hW, hB, hs⟩ := X.leaveW hS h1 (v := some w) (fun h => by rw [hret] at h; cases h) hlk
  exact ⟨_, _, retOut X hx hret hn' (Or.inr (Or.inr (Or.inr (Or.inr ⟨rfl, ht, hw⟩)))) hd hr, hrun, hended, _, _, rfl, hq, hv, hW, hB, hs.mono hk hn⟩
theorem own_ibW {Z : State} {vm0 vm1 : Vm} {Ts : List String} (I : IB Z vm0 Ts) (h : vm1.interned = vm0.interned) : IB Z vm1 Ts := by
  obtain ⟨more, h1, h2⟩ := I; exact ⟨more, h.trans h1, h2⟩
theorem own_backU {Z : State} {a0 : Array Value} {h : Heap} {y : MethodName} {bytes : ByteArray} {maxL : Nat} {ret : Option FieldType} {rm : Room} {len W : Nat} {as' : Array Value} {PV : Vm → Prop}
    (hM : MetFree l y (head1 [Jvm.Cond.code y bytes maxL ret] rm) (fun a U => a = as' ∧ Z.Warmed39 U.vm ∧ U.heap = h ∧ PV U.vm) (fun _ _ _ _ _ => True) (fun _ U o U' => ∃ v L, o = .returned v ∧ QQ v U'.heap U'.vm L ∧ ReturnedEndW U o U' L rm.cells rm.slots))
    (hZ : Z.Warmed39 s.vm) (hI : ∀ vm1, s.WarmedH vm1 → PV vm1) (wc : (Jvm.Cond.code y bytes maxL ret).before a0 Z = true) (wz : (Jvm.Cond.initialized y.cls).before a0 Z = true) (hf : rm.frames + 1 ≤ R.frames) (hl : W + (maxL + 11) + rm.locals ≤ R.locals) :
    BackS l R p e below s args y len W (fun A a => a = as' ∧ A.U.heap = h ∧ A.cells + rm.cells ≤ R.cells ∧ A.slots + rm.slots ≤ R.slots)
      (fun A _ v B => ∃ L, QQ v B.U.heap B.U.vm L ∧ B.locs = A.locs ++ L ∧ B.cells = A.cells + rm.cells ∧ B.slots = A.slots + rm.slots) :=
  BackS.of_freeW (bytes := bytes) (maxL := maxL) (ret := ret) (E := fun _ _ o t L k n => k = rm.cells ∧ n = rm.slots ∧ ∃ v, o = .returned v ∧ QQ v t.heap t.vm L) hM hf hl
    (fun m meth c A a Y hp => have hU : Z.Warmed39 A.U.vm := wtrans hZ Y.warmed
      ⟨by show (Jvm.Cond.and _ .tt).before a A.U = true; rw [Cond.before_and, mv hU wc]; rfl, mv hU wc, mv hU wz, hp.2.2.1, hp.2.2.2⟩)
    (fun m meth c A a g mk Y hp => ⟨hp.1, wtrans hZ Y.warmed, hp.2.1, hI _ Y.warmed⟩) (fun _ _ _ _ _ _ _ _ _ => trivial)
    (fun _ _ _ _ ⟨v, L, h1, h2, h3⟩ => ⟨L, _, _, h3, rfl, rfl, v, h1, h2⟩)
    (fun m meth c A a g mk v t L k n Y hp _ _ ⟨e1, e2, v', e3, e4⟩ => by cases e3; subst e1 e2; exact ⟨L, e4, rfl, rfl, rfl⟩)
theorem own_specU {Z : State} {a0 : Array Value} {h : Heap} {vm0 : Vm} {k0 : Nat} (X : Stand p l e R (s.setVm vm0) m args below meth c T locs cells slots) (hx : p.tables.exec = Jvm.exec) (hZ : Z.Warmed39 (s.setVm vm0).vm) (hS : s.Since vm0 k0) (hk0 : k0 ≤ h.size) {own : String} {index : Nat} {y : MethodName} {bytes : ByteArray} {maxL : Nat} (hy1 : y.name = "<init>")
    (hown : (s.setVm vm0).vm.findClass own = some m.cls) (w1 : (Jvm.Cond.methodLink own index y).before a0 Z = true) (w2 : (Jvm.Cond.instanceMethod y).before a0 Z = true) (w3 : (Jvm.Cond.initialized y.cls).before a0 Z = true) (w4 : (Jvm.Cond.code y bytes maxL none).before a0 Z = true)
    (hy : y.cls ≠ "java/lang/invoke/MethodHandle" ∧ y.cls ≠ "java/lang/invoke/VarHandle") (W : Nat) {rm : Room} {a : Addr} {argsL rest : List Value} {PV : Vm → Prop}
    (hM : MetFree l y (head1 [Jvm.Cond.code y bytes maxL none] rm) (fun a' U => a' = (Value.ref a :: argsL).toArray ∧ Z.Warmed39 U.vm ∧ U.heap = h ∧ PV U.vm) (fun _ _ _ _ _ => True) (fun _ U o U' => ∃ v L, o = .returned v ∧ QQ v U'.heap U'.vm L ∧ ReturnedEndW U o U' L rm.cells rm.slots)) (hI : ∀ vm1, (s.setVm vm0).WarmedH vm1 → PV vm1)
    (hf : rm.frames + 1 ≤ R.frames) (hl : W + (maxL + 11) + rm.locals ≤ R.locals) (eT : T.heap = h) (hc : cells + rm.cells ≤ R.cells) (hs : slots + rm.slots ≤ R.slots)
    {g : JFrame} (hg : g.method = m) (hsize : g.locals.size = c.maxLocals) (hlen : ∀ sig, parseMethodDescriptor y.desc = some sig → argsL.length = sig.parameters.length)
    (hstack : g.stack = argsL.reverse ++ .ref a :: rest) (hW : 2 * g.monitorRoom + (rest.map fun v => v.category).sum ≤ W) (hdg : decode c.code g.pc = .ok (.invokespecial index, 3)) :
    ∃ (v : Option Value) (T' : State) (L : List Loc), Stand p l e R (s.setVm T'.vm) m args below meth c T' (locs ++ L) (cells + rm.cells) (slots + rm.slots) ∧ s.Since T'.vm T'.heap.size ∧ Z.Warmed39 (s.setVm T'.vm).vm ∧ (s.setVm T'.vm).vm.findClass own = some m.cls ∧ QQ v T'.heap T'.vm L ∧
      ∀ target, Steps p.tables e below (T'.setTop { g with pc := g.pc + 3, stack := v.toList ++ rest }) target → Steps p.tables e below (T.setTop g) target := by
  obtain ⟨v, _, ⟨T', L', k', n'⟩, -, X', hS', hgr, ⟨Lc, hQ, l', y', z'⟩, st⟩ := X.specialBackS hx (y := y) hy1 hown (mvT hZ w1) (mvT hZ w2) (mvT hZ w4) hy (own_backU (W := W) hM hZ hI w4 w3 hf hl) (g := g) hg hsize (Steps.refl _) (a := a) (argsL := argsL) (rest := rest) hlen hstack hW hdg (fun _ _ => ⟨rfl, eT, hc, hs⟩)
  dsimp only [Pt.U, Pt.locs, Pt.cells, Pt.slots] at X' l' y' z' st hQ hS' hgr
  subst l' y' z'
  exact ⟨v, T', Lc, X', foldS hS (by rw [eT]; exact hk0) hS' hgr, State.Warmed39.trans (t := s.setVm vm0) hZ hS'.1, by rw [show (s.setVm T'.vm).vm = T'.vm from rfl, hS'.1.alike.findClass]; exact hown, hQ, fun t k => st.trans k⟩
theorem own_callU {Z : State} {a0 : Array Value} {h : Heap} {vm0 : Vm} {k0 : Nat} (X : Stand p l e R (s.setVm vm0) m args below meth c T locs cells slots) (hx : p.tables.exec = Jvm.exec) (hZ : Z.Warmed39 (s.setVm vm0).vm) (hS : s.Since vm0 k0) (hk0 : k0 ≤ h.size) {own : String} {index : Nat} {y : MethodName} {bytes : ByteArray} {maxL : Nat} {ret : Option FieldType}
    (hown : (s.setVm vm0).vm.findClass own = some m.cls) (w1 : (Jvm.Cond.methodLink own index y).before a0 Z = true) (w2 : (Jvm.Cond.static y).before a0 Z = true) (w3 : (Jvm.Cond.initialized y.cls).before a0 Z = true) (w4 : (Jvm.Cond.code y bytes maxL ret).before a0 Z = true)
    (hy : y.cls ≠ "java/lang/invoke/MethodHandle" ∧ y.cls ≠ "java/lang/invoke/VarHandle") (W : Nat) {rm : Room} {argsL rest : List Value} {PV : Vm → Prop}
    (hM : MetFree l y (head1 [Jvm.Cond.code y bytes maxL ret] rm) (fun a' U => a' = argsL.toArray ∧ Z.Warmed39 U.vm ∧ U.heap = h ∧ PV U.vm) (fun _ _ _ _ _ => True) (fun _ U o U' => ∃ v L, o = .returned v ∧ QQ v U'.heap U'.vm L ∧ ReturnedEndW U o U' L rm.cells rm.slots)) (hI : ∀ vm1, (s.setVm vm0).WarmedH vm1 → PV vm1)
    (hf : rm.frames + 1 ≤ R.frames) (hl : W + (maxL + 11) + rm.locals ≤ R.locals) (eT : T.heap = h) (hc : cells + rm.cells ≤ R.cells) (hs : slots + rm.slots ≤ R.slots)
    {g : JFrame} (hg : g.method = m) (hsize : g.locals.size = c.maxLocals) (hlen : ∀ sig, parseMethodDescriptor y.desc = some sig → argsL.length = sig.parameters.length)
    (hstack : g.stack = argsL.reverse ++ rest) (hW : 2 * g.monitorRoom + (rest.map fun v => v.category).sum ≤ W) (hdg : decode c.code g.pc = .ok (.invokestatic index, 3)) :
    ∃ (v : Option Value) (T' : State) (L : List Loc), Stand p l e R (s.setVm T'.vm) m args below meth c T' (locs ++ L) (cells + rm.cells) (slots + rm.slots) ∧ s.Since T'.vm T'.heap.size ∧ Z.Warmed39 (s.setVm T'.vm).vm ∧ (s.setVm T'.vm).vm.findClass own = some m.cls ∧ QQ v T'.heap T'.vm L ∧
      ∀ target, Steps p.tables e below (T'.setTop { g with pc := g.pc + 3, stack := v.toList ++ rest }) target → Steps p.tables e below (T.setTop g) target := by
  obtain ⟨v, _, ⟨T', L', k', n'⟩, -, X', hS', hgr, ⟨Lc, hQ, l', y', z'⟩, st⟩ := callSS X hx (y := y) hown (mvT hZ w1) (mvT hZ w2) (mvT hZ w3) (mvT hZ w4) hy (own_backU (W := W) hM hZ hI w4 w3 hf hl) (g := g) hg hsize (argsL := argsL) (rest := rest) hlen hstack hW hdg (fun _ _ => ⟨rfl, eT, hc, hs⟩)
  dsimp only [Pt.U, Pt.locs, Pt.cells, Pt.slots] at X' l' y' z' st hQ hS' hgr
  subst l' y' z'
  exact ⟨v, T', Lc, X', foldS hS (by rw [eT]; exact hk0) hS' hgr, State.Warmed39.trans (t := s.setVm vm0) hZ hS'.1, by rw [show (s.setVm T'.vm).vm = T'.vm from rfl, hS'.1.alike.findClass]; exact hown, hQ, fun t k => st.trans k⟩
end Wide
end New
end Jvm.RoadKit
namespace Jvm.Pilot.@@N@@
open Jvm Jvm.ClassFile Sem Op Lib Jvm.Free Jvm.Stand Jvm.LawKit Jvm.RoadKit Bundle Jvm.Pilot.@@N@@.Jvm.D
set_option maxRecDepth 65536
set_option maxHeartbeats 40000000
abbrev HW (a0 : Array Value) (Z : State) : Prop := ∀ d ∈ tables_1, d.before a0 Z = true
theorem ww {Z : State} {a0 : Array Value} (hw : ∀ d ∈ tables_1, d.before a0 Z = true) (i : Nat) {d : Jvm.Cond} (h : tables_1[i]? = some d) : d.before a0 Z = true := hw _ (List.mem_of_getElem? h)
theorem pn_java_lang_String : plainName "java/lang/String" = true := by first | (simp [plainName, overriddenIn]; done) | decide +kernel
theorem d4_0 : decode jdk_42_method_3_code 0 = .ok (.aload_n 0, 1) := by decide +kernel
theorem d4_1 : decode jdk_42_method_3_code 1 = .ok (.aload_n 1, 1) := by decide +kernel
theorem d4_2 : decode jdk_42_method_3_code 2 = .ok (.iconst 0, 1) := by decide +kernel
theorem d4_3 : decode jdk_42_method_3_code 3 = .ok (.aload_n 1, 1) := by decide +kernel
theorem d4_4 : decode jdk_42_method_3_code 4 = .ok (.arraylength, 1) := by decide +kernel
theorem d4_5 : decode jdk_42_method_3_code 5 = .ok (.aconst_null, 1) := by decide +kernel
abbrev Sh0 (p0 : Addr) (p1 : Addr) (p2 : Int32) (p3 : Int32) : Array Slot := #[.val (.ref p0), .val (.ref p1), .val (.int p2), .val (.int p3), .val .null, .unset]
theorem d5_0 : decode jdk_42_method_149_code 0 = .ok (.aload_n 0, 1) := by decide +kernel
theorem d5_1 : decode jdk_42_method_149_code 1 = .ok (.invokespecial 1, 3) := by decide +kernel
theorem d5_4 : decode jdk_42_method_149_code 4 = .ok (.iload_n 3, 1) := by decide +kernel
theorem d5_5 : decode jdk_42_method_149_code 5 = .ok (.ifCond .ne 22, 3) := by decide +kernel
theorem d5_27 : decode jdk_42_method_149_code 27 = .ok (.getstatic 38, 3) := by decide +kernel
theorem d5_30 : decode jdk_42_method_149_code 30 = .ok (.ifCond .eq 28, 3) := by decide +kernel
theorem d5_33 : decode jdk_42_method_149_code 33 = .ok (.aload_n 1, 1) := by decide +kernel
theorem d5_34 : decode jdk_42_method_149_code 34 = .ok (.iload_n 2, 1) := by decide +kernel
theorem d5_35 : decode jdk_42_method_149_code 35 = .ok (.iload_n 3, 1) := by decide +kernel
abbrev Sh1 (p0 : Addr) (p1 : Int32) (p2 : Int32) : Array Slot := #[.val (.ref p0), .val (.int p1), .val (.int p2), .unset, .unset, .unset]
theorem pn_java_lang_StringUTF16 : plainName "java/lang/StringUTF16" = true := by first | (simp [plainName, overriddenIn]; done) | decide +kernel
theorem d10_0 : decode jdk_52_method_16_code 0 = .ok (.iload_n 2, 1) := by decide +kernel
theorem d10_1 : decode jdk_52_method_16_code 1 = .ok (.newarray .byte, 2) := by decide +kernel
theorem d10_3 : decode jdk_52_method_16_code 3 = .ok (.astore_n 3, 1) := by decide +kernel
abbrev Sh2 (p0 : Addr) (p1 : Int32) (p2 : Int32) (p3 : Addr) : Array Slot := #[.val (.ref p0), .val (.int p1), .val (.int p2), .val (.ref p3), .unset, .unset]
theorem d10_4 : decode jdk_52_method_16_code 4 = .ok (.aload_n 0, 1) := by decide +kernel
theorem d10_5 : decode jdk_52_method_16_code 5 = .ok (.iload_n 1, 1) := by decide +kernel
theorem d10_6 : decode jdk_52_method_16_code 6 = .ok (.aload_n 3, 1) := by decide +kernel
theorem d10_7 : decode jdk_52_method_16_code 7 = .ok (.iconst 0, 1) := by decide +kernel
theorem d10_8 : decode jdk_52_method_16_code 8 = .ok (.iload_n 2, 1) := by decide +kernel
abbrev Sh3 (p0 : Addr) (p1 : Int32) (p2 : Addr) (p3 : Int32) (p4 : Int32) : Array Slot := #[.val (.ref p0), .val (.int p1), .val (.ref p2), .val (.int p3), .val (.int p4), .unset, .unset]
theorem d11_0 : decode jdk_52_method_21_code 0 = .ok (.iconst 0, 1) := by decide +kernel
theorem d11_1 : decode jdk_52_method_21_code 1 = .ok (.istore 5, 2) := by decide +kernel
abbrev Sh4 (p0 : Addr) (p1 : Int32) (p2 : Addr) (p3 : Int32) (p4 : Int32) (p5 : Int32) : Array Slot := #[.val (.ref p0), .val (.int p1), .val (.ref p2), .val (.int p3), .val (.int p4), .val (.int p5), .unset]
theorem d11_3 : decode jdk_52_method_21_code 3 = .ok (.iload 5, 2) := by decide +kernel
theorem d11_5 : decode jdk_52_method_21_code 5 = .ok (.iload 4, 2) := by decide +kernel
theorem d11_7 : decode jdk_52_method_21_code 7 = .ok (.if_icmp .ge 37, 3) := by decide +kernel
theorem d11_10 : decode jdk_52_method_21_code 10 = .ok (.aload_n 0, 1) := by decide +kernel
theorem d11_11 : decode jdk_52_method_21_code 11 = .ok (.iload_n 1, 1) := by decide +kernel
theorem d11_12 : decode jdk_52_method_21_code 12 = .ok (.caload, 1) := by decide +kernel
theorem d11_13 : decode jdk_52_method_21_code 13 = .ok (.istore 6, 2) := by decide +kernel
abbrev Sh5 (p0 : Addr) (p1 : Int32) (p2 : Addr) (p3 : Int32) (p4 : Int32) (p5 : Int32) (p6 : Int32) : Array Slot := #[.val (.ref p0), .val (.int p1), .val (.ref p2), .val (.int p3), .val (.int p4), .val (.int p5), .val (.int p6)]
theorem d11_15 : decode jdk_52_method_21_code 15 = .ok (.iload 6, 2) := by decide +kernel
theorem d11_17 : decode jdk_52_method_21_code 17 = .ok (.sipush 255, 3) := by decide +kernel
theorem d11_20 : decode jdk_52_method_21_code 20 = .ok (.if_icmp .le 6, 3) := by decide +kernel
theorem d11_23 : decode jdk_52_method_21_code 23 = .ok (.iload 5, 2) := by decide +kernel
theorem d11_25 : decode jdk_52_method_21_code 25 = .ok (.ireturn, 1) := by decide +kernel
abbrev Y11 : MethodName := ⟨"java/lang/StringUTF16", "compress", "([CI[BII)I"⟩
theorem pd_285bCI5bBII29I : parseMethodDescriptor "([CI[BII)I" = some ⟨[(.array .char), .int, (.array .byte), .int, .int], some .int⟩ := by decide +kernel
theorem d10_9 : decode jdk_52_method_16_code 9 = .ok (.invokestatic 115, 3) := by decide +kernel
theorem d10_12 : decode jdk_52_method_16_code 12 = .ok (.istore 4, 2) := by decide +kernel
abbrev Sh6 (p0 : Addr) (p1 : Int32) (p2 : Int32) (p3 : Addr) (p4 : Int32) : Array Slot := #[.val (.ref p0), .val (.int p1), .val (.int p2), .val (.ref p3), .val (.int p4), .unset]
theorem d10_14 : decode jdk_52_method_16_code 14 = .ok (.iload 4, 2) := by decide +kernel
theorem d10_16 : decode jdk_52_method_16_code 16 = .ok (.iload_n 2, 1) := by decide +kernel
theorem d10_17 : decode jdk_52_method_16_code 17 = .ok (.if_icmp .eq 40, 3) := by decide +kernel
theorem d10_20 : decode jdk_52_method_16_code 20 = .ok (.aload_n 0, 1) := by decide +kernel
theorem d10_21 : decode jdk_52_method_16_code 21 = .ok (.iload_n 1, 1) := by decide +kernel
theorem d10_22 : decode jdk_52_method_16_code 22 = .ok (.iload_n 2, 1) := by decide +kernel
abbrev Sh7 (p0 : Addr) (p1 : Int32) (p2 : Int32) : Array Slot := #[.val (.ref p0), .val (.int p1), .val (.int p2), .unset, .unset]
theorem d13_0 : decode jdk_52_method_14_code 0 = .ok (.iload_n 2, 1) := by decide +kernel
theorem d14_0 : decode jdk_52_method_2_code 0 = .ok (.iload_n 0, 1) := by decide +kernel
theorem d15_0 : decode jdk_52_method_3_code 0 = .ok (.iload_n 0, 1) := by decide +kernel
theorem d15_1 : decode jdk_52_method_3_code 1 = .ok (.ifCond .ge 11, 3) := by decide +kernel
theorem d15_12 : decode jdk_52_method_3_code 12 = .ok (.iload_n 0, 1) := by decide +kernel
theorem d15_13 : decode jdk_52_method_3_code 13 = .ok (.ldc 20, 2) := by decide +kernel
theorem d15_15 : decode jdk_52_method_3_code 15 = .ok (.if_icmp .lt 40, 3) := by decide +kernel
theorem d15_55 : decode jdk_52_method_3_code 55 = .ok (.iload_n 0, 1) := by decide +kernel
theorem d15_56 : decode jdk_52_method_3_code 56 = .ok (.iconst 1, 1) := by decide +kernel
theorem d15_57 : decode jdk_52_method_3_code 57 = .ok (.ishl, 1) := by decide +kernel
theorem d15_58 : decode jdk_52_method_3_code 58 = .ok (.ireturn, 1) := by decide +kernel
abbrev Y15 : MethodName := ⟨"java/lang/StringUTF16", "newBytesLength", "(I)I"⟩
theorem pd_28I29I : parseMethodDescriptor "(I)I" = some ⟨[.int], some .int⟩ := by decide +kernel
theorem d14_1 : decode jdk_52_method_2_code 1 = .ok (.invokestatic 11, 3) := by decide +kernel
theorem d14_4 : decode jdk_52_method_2_code 4 = .ok (.newarray .byte, 2) := by decide +kernel
theorem d14_6 : decode jdk_52_method_2_code 6 = .ok (.areturn, 1) := by decide +kernel
abbrev Y14 : MethodName := ⟨"java/lang/StringUTF16", "newBytesFor", "(I)[B"⟩
theorem pd_28I295bB : parseMethodDescriptor "(I)[B" = some ⟨[.int], some (.array .byte)⟩ := by decide +kernel
theorem d13_1 : decode jdk_52_method_14_code 1 = .ok (.invokestatic 107, 3) := by decide +kernel
theorem d13_4 : decode jdk_52_method_14_code 4 = .ok (.astore_n 3, 1) := by decide +kernel
abbrev Sh8 (p0 : Addr) (p1 : Int32) (p2 : Int32) (p3 : Addr) : Array Slot := #[.val (.ref p0), .val (.int p1), .val (.int p2), .val (.ref p3), .unset]
theorem d13_5 : decode jdk_52_method_14_code 5 = .ok (.iconst 0, 1) := by decide +kernel
theorem d13_6 : decode jdk_52_method_14_code 6 = .ok (.istore 4, 2) := by decide +kernel
abbrev Sh9 (p0 : Addr) (p1 : Int32) (p2 : Int32) (p3 : Addr) (p4 : Int32) : Array Slot := #[.val (.ref p0), .val (.int p1), .val (.int p2), .val (.ref p3), .val (.int p4)]
theorem d13_8 : decode jdk_52_method_14_code 8 = .ok (.iload 4, 2) := by decide +kernel
theorem d13_10 : decode jdk_52_method_14_code 10 = .ok (.iload_n 2, 1) := by decide +kernel
theorem d13_11 : decode jdk_52_method_14_code 11 = .ok (.if_icmp .ge 21, 3) := by decide +kernel
theorem d13_14 : decode jdk_52_method_14_code 14 = .ok (.aload_n 3, 1) := by decide +kernel
theorem d13_15 : decode jdk_52_method_14_code 15 = .ok (.iload 4, 2) := by decide +kernel
theorem d13_17 : decode jdk_52_method_14_code 17 = .ok (.aload_n 0, 1) := by decide +kernel
theorem d13_18 : decode jdk_52_method_14_code 18 = .ok (.iload_n 1, 1) := by decide +kernel
theorem d13_19 : decode jdk_52_method_14_code 19 = .ok (.caload, 1) := by decide +kernel
abbrev Sh10 (p0 : Addr) (p1 : Int32) (p2 : Int32) : Array Slot := #[.val (.ref p0), .val (.int p1), .val (.int p2)]
theorem d16_0 : decode jdk_52_method_4_code 0 = .ok (.getstatic 44, 3) := by decide +kernel
theorem d16_3 : decode jdk_52_method_4_code 3 = .ok (.ifCond .ne 25, 3) := by decide +kernel
theorem d16_28 : decode jdk_52_method_4_code 28 = .ok (.iload_n 1, 1) := by decide +kernel
theorem d16_29 : decode jdk_52_method_4_code 29 = .ok (.iconst 1, 1) := by decide +kernel
theorem d16_30 : decode jdk_52_method_4_code 30 = .ok (.ishl, 1) := by decide +kernel
theorem d16_31 : decode jdk_52_method_4_code 31 = .ok (.istore_n 1, 1) := by decide +kernel
theorem d16_32 : decode jdk_52_method_4_code 32 = .ok (.aload_n 0, 1) := by decide +kernel
theorem d16_33 : decode jdk_52_method_4_code 33 = .ok (.iload_n 1, 1) := by decide +kernel
theorem d16_34 : decode jdk_52_method_4_code 34 = .ok (.iinc 1 1, 3) := by decide +kernel
theorem d16_37 : decode jdk_52_method_4_code 37 = .ok (.iload_n 2, 1) := by decide +kernel
theorem d16_38 : decode jdk_52_method_4_code 38 = .ok (.getstatic 59, 3) := by decide +kernel
theorem d16_41 : decode jdk_52_method_4_code 41 = .ok (.ishr, 1) := by decide +kernel
theorem d16_42 : decode jdk_52_method_4_code 42 = .ok (.i2b, 1) := by decide +kernel
theorem d16_43 : decode jdk_52_method_4_code 43 = .ok (.bastore, 1) := by decide +kernel
theorem d16_44 : decode jdk_52_method_4_code 44 = .ok (.aload_n 0, 1) := by decide +kernel
theorem d16_45 : decode jdk_52_method_4_code 45 = .ok (.iload_n 1, 1) := by decide +kernel
theorem d16_46 : decode jdk_52_method_4_code 46 = .ok (.iload_n 2, 1) := by decide +kernel
theorem d16_47 : decode jdk_52_method_4_code 47 = .ok (.getstatic 63, 3) := by decide +kernel
theorem d16_50 : decode jdk_52_method_4_code 50 = .ok (.ishr, 1) := by decide +kernel
theorem d16_51 : decode jdk_52_method_4_code 51 = .ok (.i2b, 1) := by decide +kernel
theorem d16_52 : decode jdk_52_method_4_code 52 = .ok (.bastore, 1) := by decide +kernel
theorem d16_53 : decode jdk_52_method_4_code 53 = .ok (.return_, 1) := by decide +kernel
abbrev Y16 : MethodName := ⟨"java/lang/StringUTF16", "putChar", "([BII)V"⟩
theorem pd_285bBII29V : parseMethodDescriptor "([BII)V" = some ⟨[(.array .byte), .int, .int], none⟩ := by decide +kernel
theorem d13_20 : decode jdk_52_method_14_code 20 = .ok (.invokestatic 111, 3) := by decide +kernel
theorem d13_23 : decode jdk_52_method_14_code 23 = .ok (.iinc 1 1, 3) := by decide +kernel
theorem d13_26 : decode jdk_52_method_14_code 26 = .ok (.iinc 4 1, 3) := by decide +kernel
theorem d13_29 : decode jdk_52_method_14_code 29 = .ok (.goto (-21), 3) := by decide +kernel
theorem d13_32 : decode jdk_52_method_14_code 32 = .ok (.aload_n 3, 1) := by decide +kernel
theorem d13_33 : decode jdk_52_method_14_code 33 = .ok (.areturn, 1) := by decide +kernel
abbrev Y13 : MethodName := ⟨"java/lang/StringUTF16", "toBytes", "([CII)[B"⟩
theorem pd_285bCII295bB : parseMethodDescriptor "([CII)[B" = some ⟨[(.array .char), .int, .int], some (.array .byte)⟩ := by decide +kernel
theorem d10_23 : decode jdk_52_method_16_code 23 = .ok (.invokestatic 119, 3) := by decide +kernel
theorem d10_26 : decode jdk_52_method_16_code 26 = .ok (.astore 5, 2) := by decide +kernel
abbrev Sh11 (p0 : Addr) (p1 : Int32) (p2 : Int32) (p3 : Addr) (p4 : Int32) (p5 : Addr) : Array Slot := #[.val (.ref p0), .val (.int p1), .val (.int p2), .val (.ref p3), .val (.int p4), .val (.ref p5)]
theorem d10_28 : decode jdk_52_method_16_code 28 = .ok (.aload 5, 2) := by decide +kernel
theorem d10_30 : decode jdk_52_method_16_code 30 = .ok (.iload 4, 2) := by decide +kernel
theorem d17_0 : decode jdk_52_method_5_code 0 = .ok (.getstatic 44, 3) := by decide +kernel
theorem d17_3 : decode jdk_52_method_5_code 3 = .ok (.ifCond .ne 25, 3) := by decide +kernel
theorem d17_28 : decode jdk_52_method_5_code 28 = .ok (.iload_n 1, 1) := by decide +kernel
theorem d17_29 : decode jdk_52_method_5_code 29 = .ok (.iconst 1, 1) := by decide +kernel
theorem d17_30 : decode jdk_52_method_5_code 30 = .ok (.ishl, 1) := by decide +kernel
theorem d17_31 : decode jdk_52_method_5_code 31 = .ok (.istore_n 1, 1) := by decide +kernel
theorem d17_32 : decode jdk_52_method_5_code 32 = .ok (.aload_n 0, 1) := by decide +kernel
theorem d17_33 : decode jdk_52_method_5_code 33 = .ok (.iload_n 1, 1) := by decide +kernel
theorem d17_34 : decode jdk_52_method_5_code 34 = .ok (.iinc 1 1, 3) := by decide +kernel
theorem d17_37 : decode jdk_52_method_5_code 37 = .ok (.baload, 1) := by decide +kernel
theorem d17_38 : decode jdk_52_method_5_code 38 = .ok (.sipush 255, 3) := by decide +kernel
theorem d17_41 : decode jdk_52_method_5_code 41 = .ok (.iand, 1) := by decide +kernel
theorem d17_42 : decode jdk_52_method_5_code 42 = .ok (.getstatic 59, 3) := by decide +kernel
theorem d17_45 : decode jdk_52_method_5_code 45 = .ok (.ishl, 1) := by decide +kernel
theorem d17_46 : decode jdk_52_method_5_code 46 = .ok (.aload_n 0, 1) := by decide +kernel
theorem d17_47 : decode jdk_52_method_5_code 47 = .ok (.iload_n 1, 1) := by decide +kernel
theorem d17_48 : decode jdk_52_method_5_code 48 = .ok (.baload, 1) := by decide +kernel
theorem d17_49 : decode jdk_52_method_5_code 49 = .ok (.sipush 255, 3) := by decide +kernel
theorem d17_52 : decode jdk_52_method_5_code 52 = .ok (.iand, 1) := by decide +kernel
theorem d17_53 : decode jdk_52_method_5_code 53 = .ok (.getstatic 63, 3) := by decide +kernel
theorem d17_56 : decode jdk_52_method_5_code 56 = .ok (.ishl, 1) := by decide +kernel
theorem d17_57 : decode jdk_52_method_5_code 57 = .ok (.ior, 1) := by decide +kernel
theorem d17_58 : decode jdk_52_method_5_code 58 = .ok (.i2c, 1) := by decide +kernel
theorem d17_59 : decode jdk_52_method_5_code 59 = .ok (.ireturn, 1) := by decide +kernel
abbrev Y17 : MethodName := ⟨"java/lang/StringUTF16", "getChar", "([BI)C"⟩
theorem pd_285bBI29C : parseMethodDescriptor "([BI)C" = some ⟨[(.array .byte), .int], some .char⟩ := by decide +kernel
theorem d10_32 : decode jdk_52_method_16_code 32 = .ok (.invokestatic 71, 3) := by decide +kernel
theorem d10_35 : decode jdk_52_method_16_code 35 = .ok (.sipush 255, 3) := by decide +kernel
theorem d10_38 : decode jdk_52_method_16_code 38 = .ok (.if_icmp .gt 16, 3) := by decide +kernel
theorem d10_54 : decode jdk_52_method_16_code 54 = .ok (.aload 5, 2) := by decide +kernel
theorem d10_56 : decode jdk_52_method_16_code 56 = .ok (.areturn, 1) := by decide +kernel
abbrev Y10 : MethodName := ⟨"java/lang/StringUTF16", "compress", "([CII)[B"⟩
theorem d5_36 : decode jdk_42_method_149_code 36 = .ok (.invokestatic 177, 3) := by decide +kernel
theorem d5_39 : decode jdk_42_method_149_code 39 = .ok (.astore 5, 2) := by decide +kernel
abbrev Sh12 (p0 : Addr) (p1 : Addr) (p2 : Int32) (p3 : Int32) (p4 : Addr) : Array Slot := #[.val (.ref p0), .val (.ref p1), .val (.int p2), .val (.int p3), .val .null, .val (.ref p4)]
theorem d5_41 : decode jdk_42_method_149_code 41 = .ok (.aload_n 0, 1) := by decide +kernel
theorem d5_42 : decode jdk_42_method_149_code 42 = .ok (.aload 5, 2) := by decide +kernel
theorem d5_44 : decode jdk_42_method_149_code 44 = .ok (.iload_n 3, 1) := by decide +kernel
theorem d12_0 : decode jdk_52_method_15_code 0 = .ok (.iload_n 1, 1) := by decide +kernel
theorem d12_1 : decode jdk_52_method_15_code 1 = .ok (.aload_n 0, 1) := by decide +kernel
theorem d12_2 : decode jdk_52_method_15_code 2 = .ok (.arraylength, 1) := by decide +kernel
theorem d12_3 : decode jdk_52_method_15_code 3 = .ok (.isub, 1) := by decide +kernel
theorem d12_4 : decode jdk_52_method_15_code 4 = .ok (.bipush 31, 2) := by decide +kernel
theorem d12_6 : decode jdk_52_method_15_code 6 = .ok (.iushr, 1) := by decide +kernel
theorem d12_7 : decode jdk_52_method_15_code 7 = .ok (.i2b, 1) := by decide +kernel
theorem d12_8 : decode jdk_52_method_15_code 8 = .ok (.ireturn, 1) := by decide +kernel
abbrev Y12 : MethodName := ⟨"java/lang/StringUTF16", "coderFromArrayLen", "([BI)B"⟩
theorem pd_285bBI29B : parseMethodDescriptor "([BI)B" = some ⟨[(.array .byte), .int], some .byte⟩ := by decide +kernel
theorem d5_45 : decode jdk_42_method_149_code 45 = .ok (.invokestatic 47, 3) := by decide +kernel
theorem d5_48 : decode jdk_42_method_149_code 48 = .ok (.putfield 15, 3) := by decide +kernel
theorem d5_51 : decode jdk_42_method_149_code 51 = .ok (.aload_n 0, 1) := by decide +kernel
theorem d5_52 : decode jdk_42_method_149_code 52 = .ok (.aload 5, 2) := by decide +kernel
theorem d5_54 : decode jdk_42_method_149_code 54 = .ok (.putfield 9, 3) := by decide +kernel
theorem d5_57 : decode jdk_42_method_149_code 57 = .ok (.return_, 1) := by decide +kernel
abbrev Y5 : MethodName := ⟨"java/lang/String", "<init>", "([CIILjava/lang/Void;)V"⟩
theorem pd_285bCIILjava2flang2fVoid3b29V : parseMethodDescriptor "([CIILjava/lang/Void;)V" = some ⟨[(.array .char), .int, .int, (.object "java/lang/Void")], none⟩ := by decide +kernel
theorem d4_6 : decode jdk_42_method_3_code 6 = .ok (.invokespecial 27, 3) := by decide +kernel
theorem d4_9 : decode jdk_42_method_3_code 9 = .ok (.return_, 1) := by decide +kernel
abbrev Y4 : MethodName := ⟨"java/lang/String", "<init>", "([C)V"⟩
theorem d11_26 : decode jdk_52_method_21_code 26 = .ok (.aload_n 2, 1) := by decide +kernel
theorem d11_27 : decode jdk_52_method_21_code 27 = .ok (.iload_n 3, 1) := by decide +kernel
theorem d11_28 : decode jdk_52_method_21_code 28 = .ok (.iload 6, 2) := by decide +kernel
theorem d11_30 : decode jdk_52_method_21_code 30 = .ok (.i2b, 1) := by decide +kernel
theorem d11_31 : decode jdk_52_method_21_code 31 = .ok (.bastore, 1) := by decide +kernel
theorem d11_32 : decode jdk_52_method_21_code 32 = .ok (.iinc 1 1, 3) := by decide +kernel
theorem d11_35 : decode jdk_52_method_21_code 35 = .ok (.iinc 3 1, 3) := by decide +kernel
theorem d11_38 : decode jdk_52_method_21_code 38 = .ok (.iinc 5 1, 3) := by decide +kernel
theorem d11_41 : decode jdk_52_method_21_code 41 = .ok (.goto (-38), 3) := by decide +kernel
theorem d11_44 : decode jdk_52_method_21_code 44 = .ok (.iload 4, 2) := by decide +kernel
theorem d11_46 : decode jdk_52_method_21_code 46 = .ok (.ireturn, 1) := by decide +kernel
theorem d10_57 : decode jdk_52_method_16_code 57 = .ok (.aload_n 3, 1) := by decide +kernel
theorem d10_58 : decode jdk_52_method_16_code 58 = .ok (.areturn, 1) := by decide +kernel
theorem d24_0 : decode jdk_42_method_155_code 0 = .ok (.iload_n 0, 1) := by decide +kernel
theorem d24_1 : decode jdk_42_method_155_code 1 = .ok (.iload_n 1, 1) := by decide +kernel
theorem d24_2 : decode jdk_42_method_155_code 2 = .ok (.getstatic 1053, 3) := by decide +kernel
abbrev Sh13 (p0 : Int32) (p1 : Int32) : Array Slot := #[.val (.int p0), .val (.int p1), .val .null]
theorem pn_jdk_internal_util_Preconditions : plainName "jdk/internal/util/Preconditions" = true := by first | (simp [plainName, overriddenIn]; done) | decide +kernel
theorem d25_0 : decode jdk_41_method_11_code 0 = .ok (.iload_n 0, 1) := by decide +kernel
theorem d25_1 : decode jdk_41_method_11_code 1 = .ok (.ifCond .lt 8, 3) := by decide +kernel
theorem d25_4 : decode jdk_41_method_11_code 4 = .ok (.iload_n 0, 1) := by decide +kernel
theorem d25_5 : decode jdk_41_method_11_code 5 = .ok (.iload_n 1, 1) := by decide +kernel
theorem d25_6 : decode jdk_41_method_11_code 6 = .ok (.if_icmp .lt 10, 3) := by decide +kernel
theorem d25_16 : decode jdk_41_method_11_code 16 = .ok (.iload_n 0, 1) := by decide +kernel
theorem d25_17 : decode jdk_41_method_11_code 17 = .ok (.ireturn, 1) := by decide +kernel
abbrev Y25 : MethodName := ⟨"jdk/internal/util/Preconditions", "checkIndex", "(IILjava/util/function/BiFunction;)I"⟩
theorem pd_28IILjava2futil2ffunction2fBiFunction3b29I : parseMethodDescriptor "(IILjava/util/function/BiFunction;)I" = some ⟨[.int, .int, (.object "java/util/function/BiFunction")], some .int⟩ := by decide +kernel
theorem d24_5 : decode jdk_42_method_155_code 5 = .ok (.invokestatic 1059, 3) := by decide +kernel
theorem d24_8 : decode jdk_42_method_155_code 8 = .ok (.pop, 1) := by decide +kernel
theorem d24_9 : decode jdk_42_method_155_code 9 = .ok (.return_, 1) := by decide +kernel
abbrev Y24 : MethodName := ⟨"java/lang/String", "checkIndex", "(II)V"⟩
abbrev Sh14 (p0 : Int32) (p1 : Int32) (p2 : Addr) : Array Slot := #[.val (.int p0), .val (.int p1), .val (.ref p2)]
theorem d8_0 : decode jdk_42_method_54_code 0 = .ok (.aload_n 0, 1) := by decide +kernel
theorem d8_1 : decode jdk_42_method_54_code 1 = .ok (.getfield 9, 3) := by decide +kernel
theorem d8_4 : decode jdk_42_method_54_code 4 = .ok (.arraylength, 1) := by decide +kernel
theorem d8_5 : decode jdk_42_method_54_code 5 = .ok (.aload_n 0, 1) := by decide +kernel
theorem d9_0 : decode jdk_42_method_152_code 0 = .ok (.getstatic 38, 3) := by decide +kernel
theorem d9_3 : decode jdk_42_method_152_code 3 = .ok (.ifCond .eq 10, 3) := by decide +kernel
theorem d9_6 : decode jdk_42_method_152_code 6 = .ok (.aload_n 0, 1) := by decide +kernel
theorem d9_7 : decode jdk_42_method_152_code 7 = .ok (.getfield 15, 3) := by decide +kernel
theorem d9_10 : decode jdk_42_method_152_code 10 = .ok (.goto 4, 3) := by decide +kernel
theorem d9_14 : decode jdk_42_method_152_code 14 = .ok (.ireturn, 1) := by decide +kernel
abbrev Y9 : MethodName := ⟨"java/lang/String", "coder", "()B"⟩
theorem pd_2829B : parseMethodDescriptor "()B" = some ⟨[], some .byte⟩ := by decide +kernel
theorem d8_6 : decode jdk_42_method_54_code 6 = .ok (.invokevirtual 335, 3) := by decide +kernel
theorem d8_9 : decode jdk_42_method_54_code 9 = .ok (.ishr, 1) := by decide +kernel
theorem d8_10 : decode jdk_42_method_54_code 10 = .ok (.ireturn, 1) := by decide +kernel
abbrev Y8 : MethodName := ⟨"java/lang/String", "length", "()I"⟩
theorem d19_0 : decode jdk_42_method_56_code 0 = .ok (.aload_n 0, 1) := by decide +kernel
theorem d20_0 : decode jdk_42_method_154_code 0 = .ok (.getstatic 38, 3) := by decide +kernel
theorem d20_3 : decode jdk_42_method_154_code 3 = .ok (.ifCond .eq 14, 3) := by decide +kernel
theorem d20_6 : decode jdk_42_method_154_code 6 = .ok (.aload_n 0, 1) := by decide +kernel
theorem d20_7 : decode jdk_42_method_154_code 7 = .ok (.getfield 15, 3) := by decide +kernel
theorem d20_10 : decode jdk_42_method_154_code 10 = .ok (.ifCond .ne 7, 3) := by decide +kernel
theorem d20_13 : decode jdk_42_method_154_code 13 = .ok (.iconst 1, 1) := by decide +kernel
theorem d20_14 : decode jdk_42_method_154_code 14 = .ok (.goto 4, 3) := by decide +kernel
theorem d20_18 : decode jdk_42_method_154_code 18 = .ok (.ireturn, 1) := by decide +kernel
abbrev Y20 : MethodName := ⟨"java/lang/String", "isLatin1", "()Z"⟩
theorem pd_2829Z : parseMethodDescriptor "()Z" = some ⟨[], some .boolean⟩ := by decide +kernel
theorem d19_1 : decode jdk_42_method_56_code 1 = .ok (.invokevirtual 492, 3) := by decide +kernel
theorem d19_4 : decode jdk_42_method_56_code 4 = .ok (.ifCond .eq 12, 3) := by decide +kernel
theorem d19_7 : decode jdk_42_method_56_code 7 = .ok (.aload_n 0, 1) := by decide +kernel
theorem d19_8 : decode jdk_42_method_56_code 8 = .ok (.getfield 9, 3) := by decide +kernel
theorem d19_11 : decode jdk_42_method_56_code 11 = .ok (.iload_n 1, 1) := by decide +kernel
theorem pn_java_lang_StringLatin1 : plainName "java/lang/StringLatin1" = true := by first | (simp [plainName, overriddenIn]; done) | decide +kernel
theorem d26_0 : decode jdk_43_method_2_code 0 = .ok (.iload_n 1, 1) := by decide +kernel
theorem d26_1 : decode jdk_43_method_2_code 1 = .ok (.aload_n 0, 1) := by decide +kernel
theorem d26_2 : decode jdk_43_method_2_code 2 = .ok (.arraylength, 1) := by decide +kernel
theorem pd_28II29V : parseMethodDescriptor "(II)V" = some ⟨[.int, .int], none⟩ := by decide +kernel
theorem d26_3 : decode jdk_43_method_2_code 3 = .ok (.invokestatic 9, 3) := by decide +kernel
theorem d26_6 : decode jdk_43_method_2_code 6 = .ok (.aload_n 0, 1) := by decide +kernel
theorem d26_7 : decode jdk_43_method_2_code 7 = .ok (.iload_n 1, 1) := by decide +kernel
theorem d26_8 : decode jdk_43_method_2_code 8 = .ok (.baload, 1) := by decide +kernel
theorem d26_9 : decode jdk_43_method_2_code 9 = .ok (.sipush 255, 3) := by decide +kernel
theorem d26_12 : decode jdk_43_method_2_code 12 = .ok (.iand, 1) := by decide +kernel
theorem d26_13 : decode jdk_43_method_2_code 13 = .ok (.i2c, 1) := by decide +kernel
theorem d26_14 : decode jdk_43_method_2_code 14 = .ok (.ireturn, 1) := by decide +kernel
abbrev Y26 : MethodName := ⟨"java/lang/StringLatin1", "charAt", "([BI)C"⟩
theorem d19_12 : decode jdk_42_method_56_code 12 = .ok (.invokestatic 495, 3) := by decide +kernel
theorem d19_15 : decode jdk_42_method_56_code 15 = .ok (.ireturn, 1) := by decide +kernel
abbrev Y19 : MethodName := ⟨"java/lang/String", "charAt", "(I)C"⟩
theorem d20_17 : decode jdk_42_method_154_code 17 = .ok (.iconst 0, 1) := by decide +kernel
theorem d19_16 : decode jdk_42_method_56_code 16 = .ok (.aload_n 0, 1) := by decide +kernel
theorem d19_17 : decode jdk_42_method_56_code 17 = .ok (.getfield 9, 3) := by decide +kernel
theorem d19_20 : decode jdk_42_method_56_code 20 = .ok (.iload_n 1, 1) := by decide +kernel
theorem d21_0 : decode jdk_52_method_83_code 0 = .ok (.iload_n 1, 1) := by decide +kernel
theorem d21_1 : decode jdk_52_method_83_code 1 = .ok (.aload_n 0, 1) := by decide +kernel
theorem d22_0 : decode jdk_52_method_91_code 0 = .ok (.iload_n 0, 1) := by decide +kernel
theorem d22_1 : decode jdk_52_method_91_code 1 = .ok (.aload_n 1, 1) := by decide +kernel
theorem d23_0 : decode jdk_52_method_6_code 0 = .ok (.aload_n 0, 1) := by decide +kernel
theorem d23_1 : decode jdk_52_method_6_code 1 = .ok (.arraylength, 1) := by decide +kernel
theorem d23_2 : decode jdk_52_method_6_code 2 = .ok (.iconst 1, 1) := by decide +kernel
theorem d23_3 : decode jdk_52_method_6_code 3 = .ok (.ishr, 1) := by decide +kernel
theorem d23_4 : decode jdk_52_method_6_code 4 = .ok (.ireturn, 1) := by decide +kernel
abbrev Y23 : MethodName := ⟨"java/lang/StringUTF16", "length", "([B)I"⟩
theorem pd_285bB29I : parseMethodDescriptor "([B)I" = some ⟨[(.array .byte)], some .int⟩ := by decide +kernel
theorem d22_2 : decode jdk_52_method_91_code 2 = .ok (.invokestatic 48, 3) := by decide +kernel
theorem d22_5 : decode jdk_52_method_91_code 5 = .ok (.invokestatic 414, 3) := by decide +kernel
theorem d22_8 : decode jdk_52_method_91_code 8 = .ok (.return_, 1) := by decide +kernel
abbrev Y22 : MethodName := ⟨"java/lang/StringUTF16", "checkIndex", "(I[B)V"⟩
theorem pd_28I5bB29V : parseMethodDescriptor "(I[B)V" = some ⟨[.int, (.array .byte)], none⟩ := by decide +kernel
theorem d21_2 : decode jdk_52_method_83_code 2 = .ok (.invokestatic 67, 3) := by decide +kernel
theorem d21_5 : decode jdk_52_method_83_code 5 = .ok (.aload_n 0, 1) := by decide +kernel
theorem d21_6 : decode jdk_52_method_83_code 6 = .ok (.iload_n 1, 1) := by decide +kernel
theorem d21_7 : decode jdk_52_method_83_code 7 = .ok (.invokestatic 71, 3) := by decide +kernel
theorem d21_10 : decode jdk_52_method_83_code 10 = .ok (.ireturn, 1) := by decide +kernel
abbrev Y21 : MethodName := ⟨"java/lang/StringUTF16", "charAt", "([BI)C"⟩
theorem d19_21 : decode jdk_42_method_56_code 21 = .ok (.invokestatic 498, 3) := by decide +kernel
theorem d19_24 : decode jdk_42_method_56_code 24 = .ok (.ireturn, 1) := by decide +kernel
abbrev Sh15 (p0 : Int32) (p1 : Int32) (p2 : Int32) (p3 : Int32) : Array Slot := #[.val (.int p0), .val (.int p1), .val (.int p2), .val (.int p3)]
theorem pn_com_example_throttle_throttle_SipSyntaxStartsWithIgnoringAsciiCasePinLaw : plainName "com/example/throttle/throttle/SipSyntaxStartsWithIgnoringAsciiCasePinLaw" = true := by first | (simp [plainName, overriddenIn]; done) | decide +kernel
theorem d3_0 : decode method_6_code 0 = .ok (.iload_n 0, 1) := by decide +kernel
theorem d3_1 : decode method_6_code 1 = .ok (.ifCond .ne 14, 3) := by decide +kernel
theorem d3_15 : decode method_6_code 15 = .ok (.iload_n 0, 1) := by decide +kernel
theorem d3_16 : decode method_6_code 16 = .ok (.iconst 1, 1) := by decide +kernel
theorem d3_17 : decode method_6_code 17 = .ok (.if_icmp .ne 18, 3) := by decide +kernel
theorem d3_20 : decode method_6_code 20 = .ok (.new 33, 3) := by decide +kernel
theorem d3_23 : decode method_6_code 23 = .ok (.dup, 1) := by decide +kernel
theorem d3_24 : decode method_6_code 24 = .ok (.iconst 1, 1) := by decide +kernel
theorem d3_25 : decode method_6_code 25 = .ok (.newarray .char, 2) := by decide +kernel
theorem d3_27 : decode method_6_code 27 = .ok (.dup, 1) := by decide +kernel
theorem d3_28 : decode method_6_code 28 = .ok (.iconst 0, 1) := by decide +kernel
theorem d3_29 : decode method_6_code 29 = .ok (.iload_n 1, 1) := by decide +kernel
theorem d3_30 : decode method_6_code 30 = .ok (.castore, 1) := by decide +kernel
theorem pd_285bC29V : parseMethodDescriptor "([C)V" = some ⟨[(.array .char)], none⟩ := by decide +kernel
theorem d3_31 : decode method_6_code 31 = .ok (.invokespecial 35, 3) := by decide +kernel
theorem d3_34 : decode method_6_code 34 = .ok (.areturn, 1) := by decide +kernel
abbrev Y3 : MethodName := ⟨"com/example/throttle/throttle/SipSyntaxStartsWithIgnoringAsciiCasePinLaw", "str", "(ICCC)Ljava/lang/String;"⟩
theorem d3_35 : decode method_6_code 35 = .ok (.iload_n 0, 1) := by decide +kernel
theorem d3_36 : decode method_6_code 36 = .ok (.iconst 2, 1) := by decide +kernel
theorem d3_37 : decode method_6_code 37 = .ok (.if_icmp .ne 22, 3) := by decide +kernel
theorem d3_40 : decode method_6_code 40 = .ok (.new 33, 3) := by decide +kernel
theorem d3_43 : decode method_6_code 43 = .ok (.dup, 1) := by decide +kernel
theorem d3_44 : decode method_6_code 44 = .ok (.iconst 2, 1) := by decide +kernel
theorem d3_45 : decode method_6_code 45 = .ok (.newarray .char, 2) := by decide +kernel
theorem d3_47 : decode method_6_code 47 = .ok (.dup, 1) := by decide +kernel
theorem d3_48 : decode method_6_code 48 = .ok (.iconst 0, 1) := by decide +kernel
theorem d3_49 : decode method_6_code 49 = .ok (.iload_n 1, 1) := by decide +kernel
theorem d3_50 : decode method_6_code 50 = .ok (.castore, 1) := by decide +kernel
theorem d3_51 : decode method_6_code 51 = .ok (.dup, 1) := by decide +kernel
theorem d3_52 : decode method_6_code 52 = .ok (.iconst 1, 1) := by decide +kernel
theorem d3_53 : decode method_6_code 53 = .ok (.iload_n 2, 1) := by decide +kernel
theorem d3_54 : decode method_6_code 54 = .ok (.castore, 1) := by decide +kernel
theorem d3_55 : decode method_6_code 55 = .ok (.invokespecial 35, 3) := by decide +kernel
theorem d3_58 : decode method_6_code 58 = .ok (.areturn, 1) := by decide +kernel
theorem d3_59 : decode method_6_code 59 = .ok (.new 33, 3) := by decide +kernel
theorem d3_62 : decode method_6_code 62 = .ok (.dup, 1) := by decide +kernel
theorem d3_63 : decode method_6_code 63 = .ok (.iconst 3, 1) := by decide +kernel
theorem d3_64 : decode method_6_code 64 = .ok (.newarray .char, 2) := by decide +kernel
theorem d3_66 : decode method_6_code 66 = .ok (.dup, 1) := by decide +kernel
theorem d3_67 : decode method_6_code 67 = .ok (.iconst 0, 1) := by decide +kernel
theorem d3_68 : decode method_6_code 68 = .ok (.iload_n 1, 1) := by decide +kernel
theorem d3_69 : decode method_6_code 69 = .ok (.castore, 1) := by decide +kernel
theorem d3_70 : decode method_6_code 70 = .ok (.dup, 1) := by decide +kernel
theorem d3_71 : decode method_6_code 71 = .ok (.iconst 1, 1) := by decide +kernel
theorem d3_72 : decode method_6_code 72 = .ok (.iload_n 2, 1) := by decide +kernel
theorem d3_73 : decode method_6_code 73 = .ok (.castore, 1) := by decide +kernel
theorem d3_74 : decode method_6_code 74 = .ok (.dup, 1) := by decide +kernel
theorem d3_75 : decode method_6_code 75 = .ok (.iconst 2, 1) := by decide +kernel
theorem d3_76 : decode method_6_code 76 = .ok (.iload_n 3, 1) := by decide +kernel
theorem d3_77 : decode method_6_code 77 = .ok (.castore, 1) := by decide +kernel
theorem d3_78 : decode method_6_code 78 = .ok (.invokespecial 35, 3) := by decide +kernel
theorem d3_81 : decode method_6_code 81 = .ok (.areturn, 1) := by decide +kernel
theorem d5_8 : decode jdk_42_method_149_code 8 = .ok (.aload_n 0, 1) := by decide +kernel
theorem d5_9 : decode jdk_42_method_149_code 9 = .ok (.ldc 7, 2) := by decide +kernel
theorem d5_11 : decode jdk_42_method_149_code 11 = .ok (.getfield 9, 3) := by decide +kernel
theorem d5_14 : decode jdk_42_method_149_code 14 = .ok (.putfield 9, 3) := by decide +kernel
theorem d5_17 : decode jdk_42_method_149_code 17 = .ok (.aload_n 0, 1) := by decide +kernel
theorem d5_18 : decode jdk_42_method_149_code 18 = .ok (.ldc 7, 2) := by decide +kernel
theorem d5_20 : decode jdk_42_method_149_code 20 = .ok (.getfield 15, 3) := by decide +kernel
theorem d5_23 : decode jdk_42_method_149_code 23 = .ok (.putfield 15, 3) := by decide +kernel
theorem d5_26 : decode jdk_42_method_149_code 26 = .ok (.return_, 1) := by decide +kernel
theorem d3_4 : decode method_6_code 4 = .ok (.new 33, 3) := by decide +kernel
theorem d3_7 : decode method_6_code 7 = .ok (.dup, 1) := by decide +kernel
theorem d3_8 : decode method_6_code 8 = .ok (.iconst 0, 1) := by decide +kernel
theorem d3_9 : decode method_6_code 9 = .ok (.newarray .char, 2) := by decide +kernel
theorem d3_11 : decode method_6_code 11 = .ok (.invokespecial 35, 3) := by decide +kernel
theorem d3_14 : decode method_6_code 14 = .ok (.areturn, 1) := by decide +kernel
abbrev Sh16 (p0 : Addr) (p1 : Addr) : Array Slot := #[.val (.ref p0), .val (.ref p1), .unset, .unset, .unset]
theorem pn_com_example_throttle_throttle_SipSyntax : plainName "com/example/throttle/throttle/SipSyntax" = true := by first | (simp [plainName, overriddenIn]; done) | decide +kernel
theorem d7_0 : decode prog_10_method_5_code 0 = .ok (.aload_n 0, 1) := by decide +kernel
theorem pd_2829I : parseMethodDescriptor "()I" = some ⟨[], some .int⟩ := by decide +kernel
theorem d7_1 : decode prog_10_method_5_code 1 = .ok (.invokevirtual 17, 3) := by decide +kernel
theorem d7_4 : decode prog_10_method_5_code 4 = .ok (.aload_n 1, 1) := by decide +kernel
theorem d7_5 : decode prog_10_method_5_code 5 = .ok (.invokevirtual 17, 3) := by decide +kernel
theorem d7_8 : decode prog_10_method_5_code 8 = .ok (.if_icmp .ge 5, 3) := by decide +kernel
theorem d7_13 : decode prog_10_method_5_code 13 = .ok (.iconst 0, 1) := by decide +kernel
theorem d7_14 : decode prog_10_method_5_code 14 = .ok (.istore_n 2, 1) := by decide +kernel
abbrev Sh17 (p0 : Addr) (p1 : Addr) (p2 : Int32) : Array Slot := #[.val (.ref p0), .val (.ref p1), .val (.int p2), .unset, .unset]
theorem d7_15 : decode prog_10_method_5_code 15 = .ok (.iload_n 2, 1) := by decide +kernel
theorem d7_16 : decode prog_10_method_5_code 16 = .ok (.aload_n 1, 1) := by decide +kernel
theorem d7_17 : decode prog_10_method_5_code 17 = .ok (.invokevirtual 17, 3) := by decide +kernel
theorem d7_20 : decode prog_10_method_5_code 20 = .ok (.if_icmp .ge 50, 3) := by decide +kernel
theorem d7_70 : decode prog_10_method_5_code 70 = .ok (.iconst 1, 1) := by decide +kernel
theorem d7_71 : decode prog_10_method_5_code 71 = .ok (.ireturn, 1) := by decide +kernel
abbrev Y7 : MethodName := ⟨"com/example/throttle/throttle/SipSyntax", "startsWithIgnoringAsciiCase", "(Ljava/lang/String;Ljava/lang/String;)Z"⟩
theorem d7_11 : decode prog_10_method_5_code 11 = .ok (.iconst 0, 1) := by decide +kernel
theorem d7_12 : decode prog_10_method_5_code 12 = .ok (.ireturn, 1) := by decide +kernel
theorem d7_23 : decode prog_10_method_5_code 23 = .ok (.aload_n 0, 1) := by decide +kernel
theorem d7_24 : decode prog_10_method_5_code 24 = .ok (.iload_n 2, 1) := by decide +kernel
theorem pd_28I29C : parseMethodDescriptor "(I)C" = some ⟨[.int], some .char⟩ := by decide +kernel
theorem d7_25 : decode prog_10_method_5_code 25 = .ok (.invokevirtual 7, 3) := by decide +kernel
theorem d7_28 : decode prog_10_method_5_code 28 = .ok (.istore_n 3, 1) := by decide +kernel
abbrev Sh18 (p0 : Addr) (p1 : Addr) (p2 : Int32) (p3 : Int32) : Array Slot := #[.val (.ref p0), .val (.ref p1), .val (.int p2), .val (.int p3), .unset]
theorem d7_29 : decode prog_10_method_5_code 29 = .ok (.iload_n 3, 1) := by decide +kernel
theorem d7_30 : decode prog_10_method_5_code 30 = .ok (.bipush 65, 2) := by decide +kernel
theorem d7_32 : decode prog_10_method_5_code 32 = .ok (.if_icmp .lt 17, 3) := by decide +kernel
theorem d7_49 : decode prog_10_method_5_code 49 = .ok (.iload_n 3, 1) := by decide +kernel
theorem d7_35 : decode prog_10_method_5_code 35 = .ok (.iload_n 3, 1) := by decide +kernel
theorem d7_36 : decode prog_10_method_5_code 36 = .ok (.bipush 90, 2) := by decide +kernel
theorem d7_38 : decode prog_10_method_5_code 38 = .ok (.if_icmp .gt 11, 3) := by decide +kernel
theorem d7_41 : decode prog_10_method_5_code 41 = .ok (.iload_n 3, 1) := by decide +kernel
theorem d7_42 : decode prog_10_method_5_code 42 = .ok (.bipush 32, 2) := by decide +kernel
theorem d7_44 : decode prog_10_method_5_code 44 = .ok (.iadd, 1) := by decide +kernel
theorem d7_45 : decode prog_10_method_5_code 45 = .ok (.i2c, 1) := by decide +kernel
theorem d7_46 : decode prog_10_method_5_code 46 = .ok (.goto 4, 3) := by decide +kernel
theorem d7_50 : decode prog_10_method_5_code 50 = .ok (.istore 4, 2) := by decide +kernel
abbrev Sh19 (p0 : Addr) (p1 : Addr) (p2 : Int32) (p3 : Int32) (p4 : Int32) : Array Slot := #[.val (.ref p0), .val (.ref p1), .val (.int p2), .val (.int p3), .val (.int p4)]
theorem d7_52 : decode prog_10_method_5_code 52 = .ok (.iload 4, 2) := by decide +kernel
theorem d7_54 : decode prog_10_method_5_code 54 = .ok (.aload_n 1, 1) := by decide +kernel
theorem d7_55 : decode prog_10_method_5_code 55 = .ok (.iload_n 2, 1) := by decide +kernel
theorem d7_56 : decode prog_10_method_5_code 56 = .ok (.invokevirtual 7, 3) := by decide +kernel
theorem d7_59 : decode prog_10_method_5_code 59 = .ok (.if_icmp .eq 5, 3) := by decide +kernel
theorem d7_64 : decode prog_10_method_5_code 64 = .ok (.iinc 2 1, 3) := by decide +kernel
theorem d7_67 : decode prog_10_method_5_code 67 = .ok (.goto (-52), 3) := by decide +kernel
theorem d7_62 : decode prog_10_method_5_code 62 = .ok (.iconst 0, 1) := by decide +kernel
theorem d7_63 : decode prog_10_method_5_code 63 = .ok (.ireturn, 1) := by decide +kernel
theorem d1_0 : decode method_3_code 0 = .ok (.iload_n 0, 1) := by decide +kernel
theorem d1_1 : decode method_3_code 1 = .ok (.bipush 65, 2) := by decide +kernel
theorem d1_3 : decode method_3_code 3 = .ok (.if_icmp .lt 15, 3) := by decide +kernel
theorem d1_18 : decode method_3_code 18 = .ok (.iload_n 0, 1) := by decide +kernel
theorem d1_19 : decode method_3_code 19 = .ok (.ireturn, 1) := by decide +kernel
theorem d1_6 : decode method_3_code 6 = .ok (.iload_n 0, 1) := by decide +kernel
theorem d1_7 : decode method_3_code 7 = .ok (.bipush 90, 2) := by decide +kernel
theorem d1_9 : decode method_3_code 9 = .ok (.if_icmp .gt 9, 3) := by decide +kernel
theorem d1_12 : decode method_3_code 12 = .ok (.iload_n 0, 1) := by decide +kernel
theorem d1_13 : decode method_3_code 13 = .ok (.bipush 32, 2) := by decide +kernel
theorem d1_15 : decode method_3_code 15 = .ok (.iadd, 1) := by decide +kernel
theorem d1_16 : decode method_3_code 16 = .ok (.i2c, 1) := by decide +kernel
theorem d1_17 : decode method_3_code 17 = .ok (.ireturn, 1) := by decide +kernel
abbrev Y1 : MethodName := ⟨"com/example/throttle/throttle/SipSyntaxStartsWithIgnoringAsciiCasePinLaw", "lowerPre", "(C)C"⟩
abbrev Sh20 (p0 : Int32) (p1 : Int32) (p2 : Int32) : Array Slot := #[.val (.int p0), .val (.int p1), .val (.int p2)]
theorem d2_0 : decode method_4_code 0 = .ok (.iload_n 0, 1) := by decide +kernel
theorem d2_1 : decode method_4_code 1 = .ok (.ifCond .ne 5, 3) := by decide +kernel
theorem d2_4 : decode method_4_code 4 = .ok (.iload_n 1, 1) := by decide +kernel
theorem d2_5 : decode method_4_code 5 = .ok (.ireturn, 1) := by decide +kernel
theorem d2_6 : decode method_4_code 6 = .ok (.iload_n 0, 1) := by decide +kernel
theorem d2_7 : decode method_4_code 7 = .ok (.iconst 1, 1) := by decide +kernel
theorem d2_8 : decode method_4_code 8 = .ok (.if_icmp .ne 23, 3) := by decide +kernel
theorem d2_11 : decode method_4_code 11 = .ok (.iload_n 1, 1) := by decide +kernel
theorem d2_12 : decode method_4_code 12 = .ok (.bipush 97, 2) := by decide +kernel
theorem d2_14 : decode method_4_code 14 = .ok (.if_icmp .lt 15, 3) := by decide +kernel
theorem d2_29 : decode method_4_code 29 = .ok (.iload_n 1, 1) := by decide +kernel
theorem d2_30 : decode method_4_code 30 = .ok (.ireturn, 1) := by decide +kernel
theorem d2_17 : decode method_4_code 17 = .ok (.iload_n 1, 1) := by decide +kernel
theorem d2_18 : decode method_4_code 18 = .ok (.bipush 122, 2) := by decide +kernel
theorem d2_20 : decode method_4_code 20 = .ok (.if_icmp .gt 9, 3) := by decide +kernel
theorem d2_23 : decode method_4_code 23 = .ok (.iload_n 1, 1) := by decide +kernel
theorem d2_24 : decode method_4_code 24 = .ok (.bipush 32, 2) := by decide +kernel
theorem d2_26 : decode method_4_code 26 = .ok (.isub, 1) := by decide +kernel
theorem d2_27 : decode method_4_code 27 = .ok (.i2c, 1) := by decide +kernel
theorem d2_28 : decode method_4_code 28 = .ok (.ireturn, 1) := by decide +kernel
theorem d2_31 : decode method_4_code 31 = .ok (.iload_n 0, 1) := by decide +kernel
theorem d2_32 : decode method_4_code 32 = .ok (.iconst 2, 1) := by decide +kernel
theorem d2_33 : decode method_4_code 33 = .ok (.if_icmp .ne 5, 3) := by decide +kernel
theorem d2_36 : decode method_4_code 36 = .ok (.iload_n 2, 1) := by decide +kernel
theorem d2_37 : decode method_4_code 37 = .ok (.ireturn, 1) := by decide +kernel
theorem d2_38 : decode method_4_code 38 = .ok (.iload_n 1, 1) := by decide +kernel
theorem d2_39 : decode method_4_code 39 = .ok (.bipush 32, 2) := by decide +kernel
theorem d2_41 : decode method_4_code 41 = .ok (.isub, 1) := by decide +kernel
theorem d2_42 : decode method_4_code 42 = .ok (.i2c, 1) := by decide +kernel
theorem d2_43 : decode method_4_code 43 = .ok (.ireturn, 1) := by decide +kernel
abbrev Y2 : MethodName := ⟨"com/example/throttle/throttle/SipSyntaxStartsWithIgnoringAsciiCasePinLaw", "textChar", "(ICC)C"⟩
theorem d18_0 : decode method_5_code 0 = .ok (.iload_n 0, 1) := by decide +kernel
theorem d18_1 : decode method_5_code 1 = .ok (.iload_n 1, 1) := by decide +kernel
theorem d18_2 : decode method_5_code 2 = .ok (.if_icmp .ne 5, 3) := by decide +kernel
theorem d18_5 : decode method_5_code 5 = .ok (.iconst 1, 1) := by decide +kernel
theorem d18_6 : decode method_5_code 6 = .ok (.ireturn, 1) := by decide +kernel
theorem d18_7 : decode method_5_code 7 = .ok (.iload_n 1, 1) := by decide +kernel
theorem d18_8 : decode method_5_code 8 = .ok (.bipush 97, 2) := by decide +kernel
theorem d18_10 : decode method_5_code 10 = .ok (.if_icmp .lt 22, 3) := by decide +kernel
theorem d18_32 : decode method_5_code 32 = .ok (.iconst 0, 1) := by decide +kernel
theorem d18_33 : decode method_5_code 33 = .ok (.ireturn, 1) := by decide +kernel
theorem d18_13 : decode method_5_code 13 = .ok (.iload_n 1, 1) := by decide +kernel
theorem d18_14 : decode method_5_code 14 = .ok (.bipush 122, 2) := by decide +kernel
theorem d18_16 : decode method_5_code 16 = .ok (.if_icmp .gt 16, 3) := by decide +kernel
theorem d18_19 : decode method_5_code 19 = .ok (.iload_n 0, 1) := by decide +kernel
theorem d18_20 : decode method_5_code 20 = .ok (.iload_n 1, 1) := by decide +kernel
theorem d18_21 : decode method_5_code 21 = .ok (.bipush 32, 2) := by decide +kernel
theorem d18_23 : decode method_5_code 23 = .ok (.isub, 1) := by decide +kernel
theorem d18_24 : decode method_5_code 24 = .ok (.i2c, 1) := by decide +kernel
theorem d18_25 : decode method_5_code 25 = .ok (.if_icmp .ne 7, 3) := by decide +kernel
theorem d18_28 : decode method_5_code 28 = .ok (.iconst 1, 1) := by decide +kernel
theorem d18_29 : decode method_5_code 29 = .ok (.goto 4, 3) := by decide +kernel
abbrev Y18 : MethodName := ⟨"com/example/throttle/throttle/SipSyntaxStartsWithIgnoringAsciiCasePinLaw", "matches", "(CC)Z"⟩
abbrev Sh21 (p0 : Int64) (p1 : Int64) (p2 : Int32) : Array Slot := #[.val (.long p0), .second, .val (.long p1), .second, .val (.int p2), .unset, .unset, .unset, .unset, .unset, .unset, .unset, .unset, .unset, .unset, .unset]
abbrev Sh22 (p0 : Int64) (p1 : Int64) (p2 : Int32) (p3 : Int32) : Array Slot := #[.val (.long p0), .second, .val (.long p1), .second, .val (.int p2), .val (.int p3), .unset, .unset, .unset, .unset, .unset, .unset, .unset, .unset, .unset, .unset]
abbrev Sh23 (p0 : Int64) (p1 : Int64) (p2 : Int32) (p3 : Int32) (p4 : Int32) : Array Slot := #[.val (.long p0), .second, .val (.long p1), .second, .val (.int p2), .val (.int p3), .val (.int p4), .unset, .unset, .unset, .unset, .unset, .unset, .unset, .unset, .unset]
theorem pd_28C29C : parseMethodDescriptor "(C)C" = some ⟨[.char], some .char⟩ := by decide +kernel
abbrev Sh24 (p0 : Int64) (p1 : Int64) (p2 : Int32) (p3 : Int32) (p4 : Int32) (p5 : Int32) : Array Slot := #[.val (.long p0), .second, .val (.long p1), .second, .val (.int p2), .val (.int p3), .val (.int p4), .val (.int p5), .unset, .unset, .unset, .unset, .unset, .unset, .unset, .unset]
abbrev Sh25 (p0 : Int64) (p1 : Int64) (p2 : Int32) (p3 : Int32) (p4 : Int32) (p5 : Int32) (p6 : Int32) : Array Slot := #[.val (.long p0), .second, .val (.long p1), .second, .val (.int p2), .val (.int p3), .val (.int p4), .val (.int p5), .val (.int p6), .unset, .unset, .unset, .unset, .unset, .unset, .unset]
abbrev Sh26 (p0 : Int64) (p1 : Int64) (p2 : Int32) (p3 : Int32) (p4 : Int32) (p5 : Int32) (p6 : Int32) (p7 : Int32) : Array Slot := #[.val (.long p0), .second, .val (.long p1), .second, .val (.int p2), .val (.int p3), .val (.int p4), .val (.int p5), .val (.int p6), .val (.int p7), .unset, .unset, .unset, .unset, .unset, .unset]
theorem pd_28ICC29C : parseMethodDescriptor "(ICC)C" = some ⟨[.int, .char, .char], some .char⟩ := by decide +kernel
abbrev Sh27 (p0 : Int64) (p1 : Int64) (p2 : Int32) (p3 : Int32) (p4 : Int32) (p5 : Int32) (p6 : Int32) (p7 : Int32) (p8 : Int32) : Array Slot := #[.val (.long p0), .second, .val (.long p1), .second, .val (.int p2), .val (.int p3), .val (.int p4), .val (.int p5), .val (.int p6), .val (.int p7), .val (.int p8), .unset, .unset, .unset, .unset, .unset]
abbrev Sh28 (p0 : Int64) (p1 : Int64) (p2 : Int32) (p3 : Int32) (p4 : Int32) (p5 : Int32) (p6 : Int32) (p7 : Int32) (p8 : Int32) (p9 : Int32) : Array Slot := #[.val (.long p0), .second, .val (.long p1), .second, .val (.int p2), .val (.int p3), .val (.int p4), .val (.int p5), .val (.int p6), .val (.int p7), .val (.int p8), .val (.int p9), .unset, .unset, .unset, .unset]
abbrev Sh29 (p0 : Int64) (p1 : Int64) (p2 : Int32) (p3 : Int32) (p4 : Int32) (p5 : Int32) (p6 : Int32) (p7 : Int32) (p8 : Int32) (p9 : Int32) (p10 : Int32) : Array Slot := #[.val (.long p0), .second, .val (.long p1), .second, .val (.int p2), .val (.int p3), .val (.int p4), .val (.int p5), .val (.int p6), .val (.int p7), .val (.int p8), .val (.int p9), .val (.int p10), .unset, .unset, .unset]
theorem pd_28ICCC29Ljava2flang2fString3b : parseMethodDescriptor "(ICCC)Ljava/lang/String;" = some ⟨[.int, .char, .char, .char], some (.object "java/lang/String")⟩ := by decide +kernel
abbrev Sh30 (p0 : Int64) (p1 : Int64) (p2 : Int32) (p3 : Int32) (p4 : Int32) (p5 : Int32) (p6 : Int32) (p7 : Int32) (p8 : Int32) (p9 : Int32) (p10 : Int32) (p11 : Addr) : Array Slot := #[.val (.long p0), .second, .val (.long p1), .second, .val (.int p2), .val (.int p3), .val (.int p4), .val (.int p5), .val (.int p6), .val (.int p7), .val (.int p8), .val (.int p9), .val (.int p10), .val (.ref p11), .unset, .unset]
abbrev Sh31 (p0 : Int64) (p1 : Int64) (p2 : Int32) (p3 : Int32) (p4 : Int32) (p5 : Int32) (p6 : Int32) (p7 : Int32) (p8 : Int32) (p9 : Int32) (p10 : Int32) (p11 : Addr) (p12 : Addr) : Array Slot := #[.val (.long p0), .second, .val (.long p1), .second, .val (.int p2), .val (.int p3), .val (.int p4), .val (.int p5), .val (.int p6), .val (.int p7), .val (.int p8), .val (.int p9), .val (.int p10), .val (.ref p11), .val (.ref p12), .unset]
abbrev Sh32 (p0 : Int64) (p1 : Int64) (p2 : Int32) (p3 : Int32) (p4 : Int32) (p5 : Int32) (p6 : Int32) (p7 : Int32) (p8 : Int32) (p9 : Int32) (p10 : Int32) (p11 : Addr) (p12 : Addr) (p13 : Int32) : Array Slot := #[.val (.long p0), .second, .val (.long p1), .second, .val (.int p2), .val (.int p3), .val (.int p4), .val (.int p5), .val (.int p6), .val (.int p7), .val (.int p8), .val (.int p9), .val (.int p10), .val (.ref p11), .val (.ref p12), .val (.int p13)]
theorem pd_28Ljava2flang2fString3bLjava2flang2fString3b29Z : parseMethodDescriptor "(Ljava/lang/String;Ljava/lang/String;)Z" = some ⟨[(.object "java/lang/String"), (.object "java/lang/String")], some .boolean⟩ := by decide +kernel
theorem pd_28CC29Z : parseMethodDescriptor "(CC)Z" = some ⟨[.char, .char], some .boolean⟩ := by decide +kernel
theorem own_wS {Z : State} {a0 : Array Value} (hw : ∀ d ∈ tables_1, d.before a0 Z = true) : ∀ a ∈ Bundle.stringAtoms, a.before a0 Z = true := fun d hd => by
  simp only [Bundle.stringAtoms, List.mem_cons, List.not_mem_nil, or_false] at hd
  rcases hd with rfl | rfl | rfl | rfl | rfl | rfl | rfl
  · exact (ww hw 13 rfl)
  · exact (ww hw 12 rfl)
  · exact (ww hw 26 rfl)
  · exact (ww hw 27 rfl)
  · exact (ww hw 28 rfl)
  · exact (ww hw 29 rfl)
  · exact (ww hw 30 rfl)
def lo8 (c : Int32) : Int32 := nar .byte (c >>> ((0 : Int32) &&& 31)).toInt8.toInt32
def hi8 (c : Int32) : Int32 := nar .byte (c >>> ((8 : Int32) &&& 31)).toInt8.toInt32
def lat8 (c : Int32) : Int32 := nar .byte c.toInt8.toInt32
theorem own_nc (c : Int32) (h0 : ¬ c < (0 : Int32)) (h1 : ¬ (65535 : Int32) < c) : nar .char c = c := by
  have a := c_i2c c
  rw [Int32.lt_iff_toInt_lt] at h0 h1
  have e1 : (65535 : Int32).toInt = 65535 := by decide
  have e0 : (0 : Int32).toInt = 0 := by decide
  apply Int32.toInt_inj.mp
  show (c.toUInt32.toUInt16.toUInt32.toInt32).toInt = c.toInt
  omega
theorem own_b8 (x : Int32) : (nar .byte x.toInt8.toInt32 &&& (255 : Int32)).toInt = x.toInt % 256 := by
  have a := c_i2b x
  have b := c_i2b x.toInt8.toInt32
  have c := c_mask (nar .byte x.toInt8.toInt32) 255 8 (by decide) (by decide)
  change (nar .byte x.toInt8.toInt32 &&& (255 : Int32)).toInt = (x.toInt8.toInt32.toInt8.toInt32).toInt % 256 at c
  omega
theorem own_lat (c : Int32) (h0 : ¬ c < (0 : Int32)) (h1 : ¬ (255 : Int32) < c) : nar .char ((lat8 c) &&& (255 : Int32)).toUInt32.toUInt16.toUInt32.toInt32 = c := by
  have b := own_b8 c
  have a := c_i2c ((lat8 c) &&& (255 : Int32))
  have a2 := c_i2c (((lat8 c) &&& (255 : Int32)).toUInt32.toUInt16.toUInt32.toInt32)
  rw [Int32.lt_iff_toInt_lt] at h0 h1
  have e1 : (255 : Int32).toInt = 255 := by decide
  have e0 : (0 : Int32).toInt = 0 := by decide
  apply Int32.toInt_inj.mp
  change (lat8 c &&& (255 : Int32)).toInt = c.toInt % 256 at b
  show (((lat8 c) &&& (255 : Int32)).toUInt32.toUInt16.toUInt32.toInt32.toUInt32.toUInt16.toUInt32.toInt32).toInt = c.toInt
  omega
theorem own_join (c : Int32) (h0 : ¬ c < (0 : Int32)) (h1 : ¬ (65535 : Int32) < c) : nar .char ((((lo8 c) &&& (255 : Int32)) <<< ((0 : Int32) &&& 31)) ||| (((hi8 c) &&& (255 : Int32)) <<< ((8 : Int32) &&& 31))).toUInt32.toUInt16.toUInt32.toInt32 = c := by
  have s0 := c_ishr c 0 0 (by decide)
  have s8 := c_ishr c 8 8 (by decide)
  have b0 : (lo8 c &&& (255 : Int32)).toInt = (c >>> ((0 : Int32) &&& 31)).toInt % 256 := own_b8 _
  have b8 : (hi8 c &&& (255 : Int32)).toInt = (c >>> ((8 : Int32) &&& 31)).toInt % 256 := own_b8 _
  have l0 := c_ishl (lo8 c &&& (255 : Int32)) 0 0 (by decide)
  have l8 := c_ishl (hi8 c &&& (255 : Int32)) 8 8 (by decide)
  have r0 := rng32 ((lo8 c &&& (255 : Int32)) <<< ((0 : Int32) &&& 31))
  have r8 := rng32 ((hi8 c &&& (255 : Int32)) <<< ((8 : Int32) &&& 31))
  rw [Int32.lt_iff_toInt_lt] at h0 h1
  have e1 : (65535 : Int32).toInt = 65535 := by decide
  have e0 : (0 : Int32).toInt = 0 := by decide
  have o := c_or' ((lo8 c &&& (255 : Int32)) <<< ((0 : Int32) &&& 31)) ((hi8 c &&& (255 : Int32)) <<< ((8 : Int32) &&& 31)) 8 (by decide) 256 (by decide) (by omega) (by omega) (by omega)
  generalize ((lo8 c &&& (255 : Int32)) <<< ((0 : Int32) &&& 31)) ||| ((hi8 c &&& (255 : Int32)) <<< ((8 : Int32) &&& 31)) = y at *
  have ry := rng32 y
  have a := c_i2c y
  have a2 := c_i2c y.toUInt32.toUInt16.toUInt32.toInt32
  apply Int32.toInt_inj.mp
  show (y.toUInt32.toUInt16.toUInt32.toInt32.toUInt32.toUInt16.toUInt32.toInt32).toInt = c.toInt
  omega
theorem own_crng (y : Int32) : ¬ (nar .char y) < (0 : Int32) ∧ ¬ (65535 : Int32) < (nar .char y) := by
  have a := c_i2c y
  rw [Int32.lt_iff_toInt_lt, Int32.lt_iff_toInt_lt]
  have e1 : (65535 : Int32).toInt = 65535 := by decide
  have e0 : (0 : Int32).toInt = 0 := by decide
  show ¬ (y.toUInt32.toUInt16.toUInt32.toInt32).toInt < _ ∧ ¬ _ < (y.toUInt32.toUInt16.toUInt32.toInt32).toInt
  omega
theorem own_and3 (x : Int32) : (x &&& (3 : Int32)) = (0 : Int32) ∨ ((x &&& (3 : Int32)) = (1 : Int32) ∨ (x &&& (3 : Int32)) = (2 : Int32) ∨ (x &&& (3 : Int32)) = (3 : Int32)) := by
  have h := c_and x 3 (by decide)
  generalize x &&& (3 : Int32) = u at *
  have e3 : (3 : Int32).toInt = 3 := by decide
  have e : u.toInt = 0 ∨ u.toInt = 1 ∨ u.toInt = 2 ∨ u.toInt = 3 := by omega
  rcases e with e | e | e | e
  · exact Or.inl (Int32.toInt_inj.mp e)
  · exact Or.inr (Or.inl (Int32.toInt_inj.mp e))
  · exact Or.inr (Or.inr (Or.inl (Int32.toInt_inj.mp e)))
  · exact Or.inr (Or.inr (Or.inr (Int32.toInt_inj.mp e)))
theorem own_pos {n : Int32} (h : n = (1 : Int32) ∨ n = (2 : Int32) ∨ n = (3 : Int32)) : (0 : Int32) < n ∧ ¬ n < (0 : Int32) := by
  rcases h with rfl | rfl | rfl <;> decide
def Str0 (Z : State) (h : Heap) (a : Addr) : Prop := ∃ b : Addr, ∃ kb : ClassId, Fld Z h a "java/lang/String" "value" "[B" (.ref b) ∧ Fld Z h a "java/lang/String" "coder" "B" (.int (0 : Int32)) ∧ Arv Z h b kb .byte (0 : Int32) [] (.int (0 : Int32))
theorem Str0.keep {Z : State} {h h' : Heap} {a : Addr} (S : Str0 Z h a) (K : Keep h h' []) : Str0 Z h' a := by
  obtain ⟨b, kb, x1, x2, x3⟩ := S; exact ⟨b, kb, x1.keep K nin0, x2.keep K nin0, x3.keep K nin0⟩
def Str1 (Z : State) (h : Heap) (a : Addr) (c0 : Int32) : Prop := (∃ b : Addr, ∃ kb : ClassId, Fld Z h a "java/lang/String" "value" "[B" (.ref b) ∧ Fld Z h a "java/lang/String" "coder" "B" (.int (0 : Int32)) ∧ Arv Z h b kb .byte (1 : Int32) [(.int (lat8 c0))] (.int (0 : Int32)) ∧ ¬ (255 : Int32) < c0) ∨ (∃ b : Addr, ∃ kb : ClassId, Fld Z h a "java/lang/String" "value" "[B" (.ref b) ∧ Fld Z h a "java/lang/String" "coder" "B" (.int (1 : Int32)) ∧ Arv Z h b kb .byte (2 : Int32) [(.int (lo8 c0)), (.int (hi8 c0))] (.int (0 : Int32)))
theorem Str1.keep {Z : State} {h h' : Heap} {a : Addr} {c0 : Int32} (S : Str1 Z h a c0) (K : Keep h h' []) : Str1 Z h' a c0 := by
  rcases S with ⟨b, kb, x1, x2, x3, x4⟩ | ⟨b, kb, x1, x2, x3⟩
  · exact Or.inl ⟨b, kb, x1.keep K nin0, x2.keep K nin0, x3.keep K nin0, x4⟩
  · exact Or.inr ⟨b, kb, x1.keep K nin0, x2.keep K nin0, x3.keep K nin0⟩
def Str2 (Z : State) (h : Heap) (a : Addr) (c0 : Int32) (c1 : Int32) : Prop := (∃ b : Addr, ∃ kb : ClassId, Fld Z h a "java/lang/String" "value" "[B" (.ref b) ∧ Fld Z h a "java/lang/String" "coder" "B" (.int (0 : Int32)) ∧ Arv Z h b kb .byte (2 : Int32) [(.int (lat8 c0)), (.int (lat8 c1))] (.int (0 : Int32)) ∧ ¬ (255 : Int32) < c0 ∧ ¬ (255 : Int32) < c1) ∨ (∃ b : Addr, ∃ kb : ClassId, Fld Z h a "java/lang/String" "value" "[B" (.ref b) ∧ Fld Z h a "java/lang/String" "coder" "B" (.int (1 : Int32)) ∧ Arv Z h b kb .byte (4 : Int32) [(.int (lo8 c0)), (.int (hi8 c0)), (.int (lo8 c1)), (.int (hi8 c1))] (.int (0 : Int32)))
theorem Str2.keep {Z : State} {h h' : Heap} {a : Addr} {c0 c1 : Int32} (S : Str2 Z h a c0 c1) (K : Keep h h' []) : Str2 Z h' a c0 c1 := by
  rcases S with ⟨b, kb, x1, x2, x3, x4⟩ | ⟨b, kb, x1, x2, x3⟩
  · exact Or.inl ⟨b, kb, x1.keep K nin0, x2.keep K nin0, x3.keep K nin0, x4⟩
  · exact Or.inr ⟨b, kb, x1.keep K nin0, x2.keep K nin0, x3.keep K nin0⟩
def Str3 (Z : State) (h : Heap) (a : Addr) (c0 : Int32) (c1 : Int32) (c2 : Int32) : Prop := (∃ b : Addr, ∃ kb : ClassId, Fld Z h a "java/lang/String" "value" "[B" (.ref b) ∧ Fld Z h a "java/lang/String" "coder" "B" (.int (0 : Int32)) ∧ Arv Z h b kb .byte (3 : Int32) [(.int (lat8 c0)), (.int (lat8 c1)), (.int (lat8 c2))] (.int (0 : Int32)) ∧ ¬ (255 : Int32) < c0 ∧ ¬ (255 : Int32) < c1 ∧ ¬ (255 : Int32) < c2) ∨ (∃ b : Addr, ∃ kb : ClassId, Fld Z h a "java/lang/String" "value" "[B" (.ref b) ∧ Fld Z h a "java/lang/String" "coder" "B" (.int (1 : Int32)) ∧ Arv Z h b kb .byte (6 : Int32) [(.int (lo8 c0)), (.int (hi8 c0)), (.int (lo8 c1)), (.int (hi8 c1)), (.int (lo8 c2)), (.int (hi8 c2))] (.int (0 : Int32)))
theorem Str3.keep {Z : State} {h h' : Heap} {a : Addr} {c0 c1 c2 : Int32} (S : Str3 Z h a c0 c1 c2) (K : Keep h h' []) : Str3 Z h' a c0 c1 c2 := by
  rcases S with ⟨b, kb, x1, x2, x3, x4⟩ | ⟨b, kb, x1, x2, x3⟩
  · exact Or.inl ⟨b, kb, x1.keep K nin0, x2.keep K nin0, x3.keep K nin0, x4⟩
  · exact Or.inr ⟨b, kb, x1.keep K nin0, x2.keep K nin0, x3.keep K nin0⟩
def Q11_1 (Z : State) (a1c : Addr) (a2c : Addr) (ka1c : ClassId) (x1c : Int32) (h0 : Heap) (n0 : Nat) (v : Option Value) (h : Heap) (L : List Loc) : Prop := v = some (.int 0) ∧ Fr n0 L ∧ (h = h0)
theorem rm11_1 (l : Launch) (Z : State) (a0 : Array Value) (hw : HW a0 Z) (a1c : Addr) (a2c : Addr) (ka1c : ClassId) (x1c : Int32) (h0 : Heap) (n0 : Nat) (P0 : Arv Z h0 a1c ka1c .char (1 : Int32) [(.int x1c)] (.int 0)) (u0 : (255 : Int32) < x1c) :
  MM l Z Y11 jdk_52_method_21_code 7 (some .int) 0 0 0 0 #[(.ref a1c), (.int 0), (.ref a2c), (.int 0), (.int 1)] h0 (Q11_1 Z a1c a2c ka1c x1c h0 n0) := by
 refine own_start (fun m => (mkF m 0 (Sh3 a1c 0 a2c 0 1) [])) (plainFor_of_name pn_java_lang_StringUTF16) (by simp [entryFrame, mkF, argsToLocals, Value.category]) n0 ?_
 intro p e s m below meth c s₁ Bd hx hby hml hZ hown hnm X0 e0 N0
 refine GoW.sg (mkF m 12 (Sh4 a1c 0 a2c 0 1 0) [(.int 0), (.ref a1c)]) (fun t k => XS.iconst X0.here hx rfl (hb hby d11_0) (XS.istore X0.here hx rfl (hb hby d11_1) rfl (l' := (Sh4 a1c 0 a2c 0 1 0)) rfl (XS.iload X0.here hx rfl (hb hby d11_3) rfl (XS.iload X0.here hx rfl (hb hby d11_5) rfl (XS.icmpNo X0.here hx rfl (hb hby d11_7) rfl (by decide) (XS.aloadN X0.here hx rfl (hb hby d11_10) rfl rfl (XS.iloadN X0.here hx rfl (hb hby d11_11) rfl k))))))) ?_
 obtain ⟨cl6, Ar6, q6, Sz6, Nn6, Hh6, Gg6⟩ := id P0
 have hin6 : ¬ ((0 : Int32) < 0 ∨ cl6.slots.size ≤ ((0 : Int32)).toNatClampNeg) := inb_of Sz6 ⟨by decide, by decide⟩
 refine GoW.sg (mkF m 13 (Sh4 a1c 0 a2c 0 1 0) [(.int x1c)]) (fun t k => X0.caload hx (j := (0 : Int32)) (v := (.int x1c)) (hq_ e0 Ar6.1) (State.isArrayOf_alike hZ.alike Ar6.2.1) Ar6.2.2 hin6 (Hh6.at hin6 rfl) (g := (mkF m 12 (Sh4 a1c 0 a2c 0 1 0) [(.int 0), (.ref a1c)])) rfl rfl (hb hby d11_12) t k) ?_
 refine GoW.sg (mkF m 25 (Sh5 a1c 0 a2c 0 1 0 x1c) [(.int 0)]) (fun t k => XS.istore X0.here hx rfl (hb hby d11_13) rfl (l' := (Sh5 a1c 0 a2c 0 1 0 x1c)) rfl (XS.iload X0.here hx rfl (hb hby d11_15) rfl (XS.sipush X0.here hx rfl (hb hby d11_17) (XS.icmpNo X0.here hx rfl (hb hby d11_20) rfl (tlt u0).2.2.2 (XS.iload X0.here hx rfl (hb hby d11_23) rfl k))))) ?_
 refine GoW.retI X0 hx Bd.returns (hb hby d11_25) Bd.notSynchronized ?_ (by decide) (by decide)
 rw [e0]
 exact ⟨rfl, N0, rfl⟩
def Q15_2 (Z : State)  (h0 : Heap) (n0 : Nat) (v : Option Value) (h : Heap) (L : List Loc) : Prop := v = some (.int 2) ∧ Fr n0 L ∧ (h = h0)
theorem rm15_2 (l : Launch) (Z : State) (a0 : Array Value) (hw : HW a0 Z) (h0 : Heap) (n0 : Nat) :
  MM l Z Y15 jdk_52_method_3_code 1 (some .int) 0 0 0 0 #[(.int 1)] h0 (Q15_2 Z  h0 n0) := by
 refine own_start (fun m => (mkF m 0 #[.val (.int 1)] [])) (plainFor_of_name pn_java_lang_StringUTF16) (by simp [entryFrame, mkF, argsToLocals, Value.category]) n0 ?_
 intro p e s m below meth c s₁ Bd hx hby hml hZ hown hnm X0 e0 N0
 refine GoW.sg (mkF m 13 #[.val (.int 1)] [(.int 1)]) (fun t k => XS.iloadN X0.here hx rfl (hb hby d15_0) rfl (XS.ifYes X0.here hx rfl (pc0 := 1) (pc' := 12) rfl (hb hby d15_1) rfl (by decide) (by decide) (by decide) (XS.iloadN X0.here hx rfl (hb hby d15_12) rfl k))) ?_
 refine GoW.sg (mkF m 15 #[.val (.int 1)] [(.int 1073741823), (.int 1)]) (fun t k => X0.ldcInt hx hown (mvT hZ (ww hw 67 rfl)) (g := (mkF m 13 #[.val (.int 1)] [(.int 1)])) rfl (hb hby d15_13) t k) ?_
 refine GoW.sg (mkF m 57 #[.val (.int 1)] [(.int 1), (.int 1)]) (fun t k => XS.icmpYes X0.here hx rfl (pc0 := 15) (pc' := 55) rfl (hb hby d15_15) rfl (by decide) (by decide) (by decide) (XS.iloadN X0.here hx rfl (hb hby d15_55) rfl (XS.iconst X0.here hx rfl (hb hby d15_56) k))) ?_
 refine GoW.st (fun t k => XS.ishl X0.here hx rfl (hb hby d15_57) rfl k) ?_
 rw [show ((1 : Int32) <<< ((1 : Int32) &&& 31)) = (2 : Int32) from by decide]
 show GoW p e below s (Q15_2 Z  h0 n0) 0 0 (s₁.setTop (mkF m 58 #[.val (.int 1)] [(.int 2)]))
 refine GoW.retI X0 hx Bd.returns (hb hby d15_58) Bd.notSynchronized ?_ (by decide) (by decide)
 rw [e0]
 exact ⟨rfl, N0, rfl⟩
def Q14_3 (Z : State)  (h0 : Heap) (n0 : Nat) (v : Option Value) (h : Heap) (L : List Loc) : Prop := ∃ e0 : Addr, ∃ ke0 : ClassId, v = some (.ref e0) ∧ Fr n0 L ∧ (Keep h0 h []) ∧ (Arv Z h e0 ke0 .byte (2 : Int32) [(.int 0), (.int 0)] (.int 0)) ∧ (h0.size ≤ e0)
theorem rm14_3 (l : Launch) (Z : State) (a0 : Array Value) (hw : HW a0 Z) (h0 : Heap) (n0 : Nat) (Z0 : n0 ≤ h0.size) :
  MM l Z Y14 jdk_52_method_2_code 1 (some (.array .byte)) 1 1 2 12 #[(.int 1)] h0 (Q14_3 Z  h0 n0) := by
 refine own_start (fun m => (mkF m 0 #[.val (.int 1)] [])) (plainFor_of_name pn_java_lang_StringUTF16) (by simp [entryFrame, mkF, argsToLocals, Value.category]) n0 ?_
 intro p e s m below meth c s₁ Bd hx hby hml hZ hown hnm X0 e0 N0
 refine GoW.sg (mkF m 1 #[.val (.int 1)] [(.int 1)]) (fun t k => XS.iloadN X0.here hx rfl (hb hby d14_0) rfl k) ?_
 obtain ⟨_, T10, L10, X10, hQ10, st10⟩ := own_callS X0 hx hZ hown (y := Y15) (ww hw 64 rfl) (ww hw 65 rfl) (ww hw 50 rfl) (ww hw 66 rfl) (by decide) 0 (rm15_2 l Z a0 hw   h0 n0       ) (by decide) (by decide) e0 (by decide) (by decide) (g := (mkF m 1 #[.val (.int 1)] [(.int 1)])) rfl (by rw [hml]; rfl) (argsL := [(.int (1 : Int32))]) (rest := []) (lenOf pd_28I29I rfl) rfl (by show 2 * 0 + _ ≤ _; exact Nat.le_of_eq rfl) (hb hby d14_1)
 obtain ⟨rfl, N10q, e10⟩ := hQ10
 have N10 := Fr.app N0 N10q
 refine GoW.sg (mkF m 4 #[.val (.int 1)] [(.int 2)]) (fun t k => st10 t k) ?_
 obtain ⟨T11, h11, k11, X11, e11, E11, A11, st11⟩ := newP X10 hx hZ (ww hw 26 rfl) e10 (g := (mkF m 4 #[.val (.int 1)] [(.int 2)])) rfl (hb hby d14_4) rfl (by decide) (cap := 2) (by decide) (by decide) (by decide) (by decide)
 obtain ⟨b11, g11⟩ : ∃ z, z = h0.size := ⟨_, rfl⟩
 rw [← g11] at A11 st11
 have sz_b11 : h0.size ≤ b11 := Nat.le_trans (Keep.refl h0 []).1 (Nat.le_of_eq g11.symm)
 have f11_1 := (Keep.refl h0 []).ext E11
 have V11 : Arv Z h11 b11 k11 .byte (2 : Int32) [(.int (0 : Int32)), (.int (0 : Int32))] (.int (0 : Int32)) := (Arv.new A11 (by decide)).pad (pad_rep [] (.int (0 : Int32)) 2)
 refine GoW.sg (mkF m 6 #[.val (.int 1)] [(.ref b11)]) (fun t k => st11 t k) ?_
 refine GoW.retA X11 hx Bd.returns rfl rfl rfl (hb hby d14_6) Bd.notSynchronized ?_ (by decide) (by decide)
 rw [e11]
 exact ⟨b11, k11, rfl, N10, f11_1, V11, sz_b11⟩
def Q16_4 (Z : State) (a1c : Addr) (x1c : Int32) (ka1c : ClassId) (h0 : Heap) (n0 : Nat) (v : Option Value) (h : Heap) (L : List Loc) : Prop := v = none ∧ Fr n0 L ∧ (Keep h0 h [a1c]) ∧ (Arv Z h a1c ka1c .byte (2 : Int32) [(.int (lo8 x1c)), (.int (hi8 x1c))] (.int 0))
theorem rm16_4 (l : Launch) (Z : State) (a0 : Array Value) (hw : HW a0 Z) (a1c : Addr) (x1c : Int32) (ka1c : ClassId) (h0 : Heap) (n0 : Nat) (P0 : Arv Z h0 a1c ka1c .byte (2 : Int32) [(.int 0), (.int 0)] (.int 0)) (P1 : Sta Z h0 "java/lang/StringUTF16" "$assertionsDisabled" "Z" (.int 1)) (P2 : Sta Z h0 "java/lang/StringUTF16" "HI_BYTE_SHIFT" "I" (.int 0)) (P3 : Sta Z h0 "java/lang/StringUTF16" "LO_BYTE_SHIFT" "I" (.int 8)) (g_a1c : n0 ≤ a1c) :
  MM l Z Y16 jdk_52_method_4_code 3 none 0 0 0 0 #[(.ref a1c), (.int 0), (.int x1c)] h0 (Q16_4 Z a1c x1c ka1c h0 n0) := by
 refine own_start (fun m => (mkF m 0 (Sh10 a1c 0 x1c) [])) (plainFor_of_name pn_java_lang_StringUTF16) (by simp [entryFrame, mkF, argsToLocals, Value.category]) n0 ?_
 intro p e s m below meth c s₁ Bd hx hby hml hZ hown hnm X0 e0 N0
 obtain ⟨T19, X19, e19, st19⟩ := getS (host := "") X0 hx hZ hown (ww hw 71 rfl) Via.refl e0 P1 (g := (mkF m 0 (Sh10 a1c 0 x1c) [])) rfl (hb hby d16_0)
 refine GoW.sg (mkF m 3 (Sh10 a1c 0 x1c) [(.int 1)]) (fun t k => st19 t k) ?_
 refine GoW.sg (mkF m 30 (Sh10 a1c 0 x1c) [(.int 1), (.int 0)]) (fun t k => XS.ifYes X19.here hx rfl (pc0 := 3) (pc' := 28) rfl (hb hby d16_3) rfl (by decide) (by decide) (by decide) (XS.iloadN X19.here hx rfl (hb hby d16_28) rfl (XS.iconst X19.here hx rfl (hb hby d16_29) k))) ?_
 refine GoW.st (fun t k => XS.ishl X19.here hx rfl (hb hby d16_30) rfl k) ?_
 rw [show ((0 : Int32) <<< ((1 : Int32) &&& 31)) = (0 : Int32) from by decide]
 show GoW p e below s (Q16_4 Z a1c x1c ka1c h0 n0) 0 0 (T19.setTop (mkF m 31 (Sh10 a1c 0 x1c) [(.int 0)]))
 refine GoW.sg (mkF m 38 (Sh10 a1c 1 x1c) [(.int x1c), (.int 0), (.ref a1c)]) (fun t k => XS.istoreN X19.here hx rfl (hb hby d16_31) rfl (l' := (Sh10 a1c 0 x1c)) rfl (XS.aloadN X19.here hx rfl (hb hby d16_32) rfl rfl (XS.iloadN X19.here hx rfl (hb hby d16_33) rfl (XS.iinc X19.here hx rfl (hb hby d16_34) rfl (l' := (Sh10 a1c 1 x1c)) rfl (XS.iloadN X19.here hx rfl (hb hby d16_37) rfl k))))) ?_
 obtain ⟨T20, X20, e20, st20⟩ := getS (host := "") X19 hx hZ hown (ww hw 72 rfl) Via.refl e19 P2 (g := (mkF m 38 (Sh10 a1c 1 x1c) [(.int x1c), (.int 0), (.ref a1c)])) rfl (hb hby d16_38)
 refine GoW.sg (mkF m 41 (Sh10 a1c 1 x1c) [(.int 0), (.int x1c), (.int 0), (.ref a1c)]) (fun t k => st20 t k) ?_
 refine GoW.sg (mkF m 43 (Sh10 a1c 1 x1c) [(.int (x1c >>> ((0 : Int32) &&& 31)).toInt8.toInt32), (.int 0), (.ref a1c)]) (fun t k => XS.ishr X20.here hx rfl (hb hby d16_41) rfl (XS.i2b X20.here hx rfl (hb hby d16_42) rfl k)) ?_
 obtain ⟨cl21, Ar21, q21, Sz21, Nn21, Hh21, Gg21⟩ := P0
 have hin21 : ¬ ((0 : Int32) < 0 ∨ cl21.slots.size ≤ ((0 : Int32)).toNatClampNeg) := inb_of Sz21 ⟨by decide, by decide⟩
 obtain ⟨T21, h21, X21, e21, W21, st21⟩ := stB X20 hx hZ e20 Ar21 (j := (0 : Int32)) hin21 (g := (mkF m 43 (Sh10 a1c 1 x1c) [(.int (x1c >>> ((0 : Int32) &&& 31)).toInt8.toInt32), (.int 0), (.ref a1c)])) rfl rfl (hb hby d16_43)
 have f21_3 := P3.wr W21
 have f21_4 := (Keep.refl h0 [a1c]).wr W21 (Or.inl (List.mem_of_getElem? (i := 0) rfl))
 have V21 : Arv Z h21 a1c ka1c .byte (2 : Int32) [(.int (lo8 x1c)), (.int (0 : Int32))] (.int (0 : Int32)) := Arv.set Ar21 q21 Sz21 Nn21 Hh21 Gg21 (fits_nar_byte _) W21 0 rfl (Nat.le_of_ble_eq_true rfl)
 have N21 := Fr.snoc X21 N0 g_a1c
 refine GoW.sg (mkF m 44 (Sh10 a1c 1 x1c) []) (fun t k => st21 t k) ?_
 refine GoW.sg (mkF m 47 (Sh10 a1c 1 x1c) [(.int x1c), (.int 1), (.ref a1c)]) (fun t k => XS.aloadN X21.here hx rfl (hb hby d16_44) rfl rfl (XS.iloadN X21.here hx rfl (hb hby d16_45) rfl (XS.iloadN X21.here hx rfl (hb hby d16_46) rfl k))) ?_
 obtain ⟨T22, X22, e22, st22⟩ := getS (host := "") X21 hx hZ hown (ww hw 73 rfl) Via.refl e21 f21_3 (g := (mkF m 47 (Sh10 a1c 1 x1c) [(.int x1c), (.int 1), (.ref a1c)])) rfl (hb hby d16_47)
 refine GoW.sg (mkF m 50 (Sh10 a1c 1 x1c) [(.int 8), (.int x1c), (.int 1), (.ref a1c)]) (fun t k => st22 t k) ?_
 refine GoW.sg (mkF m 52 (Sh10 a1c 1 x1c) [(.int (x1c >>> ((8 : Int32) &&& 31)).toInt8.toInt32), (.int 1), (.ref a1c)]) (fun t k => XS.ishr X22.here hx rfl (hb hby d16_50) rfl (XS.i2b X22.here hx rfl (hb hby d16_51) rfl k)) ?_
 obtain ⟨cl23, Ar23, q23, Sz23, Nn23, Hh23, Gg23⟩ := V21
 have hin23 : ¬ ((1 : Int32) < 0 ∨ cl23.slots.size ≤ ((1 : Int32)).toNatClampNeg) := inb_of Sz23 ⟨by decide, by decide⟩
 obtain ⟨T23, h23, X23, e23, W23, st23⟩ := stB X22 hx hZ e22 Ar23 (j := (1 : Int32)) hin23 (g := (mkF m 52 (Sh10 a1c 1 x1c) [(.int (x1c >>> ((8 : Int32) &&& 31)).toInt8.toInt32), (.int 1), (.ref a1c)])) rfl rfl (hb hby d16_52)
 have f23_8 := f21_4.wr W23 (Or.inl (List.mem_of_getElem? (i := 0) rfl))
 have V23 : Arv Z h23 a1c ka1c .byte (2 : Int32) [(.int (lo8 x1c)), (.int (hi8 x1c))] (.int (0 : Int32)) := Arv.set Ar23 q23 Sz23 Nn23 Hh23 Gg23 (fits_nar_byte _) W23 1 rfl (Nat.le_of_ble_eq_true rfl)
 have N23 := Fr.snoc X23 N21 g_a1c
 refine GoW.sg (mkF m 53 (Sh10 a1c 1 x1c) []) (fun t k => st23 t k) ?_
 refine GoW.retV X23 hx Bd.returns (hb hby d16_53) Bd.notSynchronized ?_ (by decide) (by decide)
 rw [e23]
 exact ⟨rfl, N23, f23_8, V23⟩
def Q13_5 (Z : State) (a1c : Addr) (ka1c : ClassId) (x1c : Int32) (h0 : Heap) (n0 : Nat) (v : Option Value) (h : Heap) (L : List Loc) : Prop := ∃ e0 : Addr, ∃ ke0 : ClassId, v = some (.ref e0) ∧ Fr n0 L ∧ (Keep h0 h []) ∧ (Arv Z h e0 ke0 .byte (2 : Int32) [(.int (lo8 x1c)), (.int (hi8 x1c))] (.int 0)) ∧ (h0.size ≤ e0)
theorem rm13_5 (l : Launch) (Z : State) (a0 : Array Value) (hw : HW a0 Z) (a1c : Addr) (ka1c : ClassId) (x1c : Int32) (h0 : Heap) (n0 : Nat) (Z0 : n0 ≤ h0.size) (P0 : Arv Z h0 a1c ka1c .char (1 : Int32) [(.int x1c)] (.int 0)) (P1 : Sta Z h0 "java/lang/StringUTF16" "$assertionsDisabled" "Z" (.int 1)) (P2 : Sta Z h0 "java/lang/StringUTF16" "HI_BYTE_SHIFT" "I" (.int 0)) (P3 : Sta Z h0 "java/lang/StringUTF16" "LO_BYTE_SHIFT" "I" (.int 8)) :
  MM l Z Y13 jdk_52_method_14_code 5 (some (.array .byte)) 2 1 2 24 #[(.ref a1c), (.int 0), (.int 1)] h0 (Q13_5 Z a1c ka1c x1c h0 n0) := by
 refine own_start (fun m => (mkF m 0 (Sh7 a1c 0 1) [])) (plainFor_of_name pn_java_lang_StringUTF16) (by simp [entryFrame, mkF, argsToLocals, Value.category]) n0 ?_
 intro p e s m below meth c s₁ Bd hx hby hml hZ hown hnm X0 e0 N0
 refine GoW.sg (mkF m 1 (Sh7 a1c 0 1) [(.int 1)]) (fun t k => XS.iloadN X0.here hx rfl (hb hby d13_0) rfl k) ?_
 obtain ⟨_, T27, L27, X27, hQ27, st27⟩ := own_callS X0 hx hZ hown (y := Y14) (ww hw 61 rfl) (ww hw 62 rfl) (ww hw 50 rfl) (ww hw 63 rfl) (by decide) 0 (rm14_3 l Z a0 hw   h0 n0 Z0      ) (by decide) (by decide) e0 (by decide) (by decide) (g := (mkF m 1 (Sh7 a1c 0 1) [(.int 1)])) rfl (by rw [hml]; rfl) (argsL := [(.int (1 : Int32))]) (rest := []) (lenOf pd_28I295bB rfl) rfl (by show 2 * 0 + _ ≤ _; exact Nat.le_of_eq rfl) (hb hby d13_1)
 obtain ⟨b27_e0, k27_ke0, rfl, N27q, K27, p27_0, hz_b27_e0⟩ := hQ27
 have g_b27_e0 : n0 ≤ b27_e0 := Nat.le_trans Z0 hz_b27_e0
 have sz_b27_e0 : h0.size ≤ b27_e0 := Nat.le_trans (Keep.refl h0 []).1 hz_b27_e0
 have N27 := Fr.app N0 N27q
 have f27_1 := P0.keep K27 nin0
 have f27_2 := own_staK0 P1 K27
 have f27_3 := own_staK0 P2 K27
 have f27_4 := own_staK0 P3 K27
 have f27_5 := (Keep.refl h0 []).trans K27 all0
 refine GoW.sg (mkF m 4 (Sh7 a1c 0 1) [(.ref b27_e0)]) (fun t k => st27 t k) ?_
 refine GoW.sg (mkF m 17 (Sh9 a1c 0 1 b27_e0 0) [(.int 0), (.ref b27_e0)]) (fun t k => XS.astoreN X27.here hx rfl (hb hby d13_4) rfl rfl (l' := (Sh8 a1c 0 1 b27_e0)) rfl (XS.iconst X27.here hx rfl (hb hby d13_5) (XS.istore X27.here hx rfl (hb hby d13_6) rfl (l' := (Sh9 a1c 0 1 b27_e0 0)) rfl (XS.iload X27.here hx rfl (hb hby d13_8) rfl (XS.iloadN X27.here hx rfl (hb hby d13_10) rfl (XS.icmpNo X27.here hx rfl (hb hby d13_11) rfl (by decide) (XS.aloadN X27.here hx rfl (hb hby d13_14) rfl rfl (XS.iload X27.here hx rfl (hb hby d13_15) rfl k)))))))) ?_
 refine GoW.sg (mkF m 19 (Sh9 a1c 0 1 b27_e0 0) [(.int 0), (.ref a1c), (.int 0), (.ref b27_e0)]) (fun t k => XS.aloadN X27.here hx rfl (hb hby d13_17) rfl rfl (XS.iloadN X27.here hx rfl (hb hby d13_18) rfl k)) ?_
 obtain ⟨cl28, Ar28, q28, Sz28, Nn28, Hh28, Gg28⟩ := id f27_1
 have hin28 : ¬ ((0 : Int32) < 0 ∨ cl28.slots.size ≤ ((0 : Int32)).toNatClampNeg) := inb_of Sz28 ⟨by decide, by decide⟩
 refine GoW.sg (mkF m 20 (Sh9 a1c 0 1 b27_e0 0) [(.int x1c), (.int 0), (.ref b27_e0)]) (fun t k => X27.caload hx (j := (0 : Int32)) (v := (.int x1c)) (hq_ rfl Ar28.1) (State.isArrayOf_alike hZ.alike Ar28.2.1) Ar28.2.2 hin28 (Hh28.at hin28 rfl) (g := (mkF m 19 (Sh9 a1c 0 1 b27_e0 0) [(.int 0), (.ref a1c), (.int 0), (.ref b27_e0)])) rfl rfl (hb hby d13_19) t k) ?_
 obtain ⟨_, T34, L34, X34, hQ34, st34⟩ := own_callS X27 hx hZ hown (y := Y16) (ww hw 68 rfl) (ww hw 69 rfl) (ww hw 50 rfl) (ww hw 70 rfl) (by decide) 0 (rm16_4 l Z a0 hw b27_e0 x1c k27_ke0 T27.heap n0  p27_0 f27_2 f27_3 f27_4 g_b27_e0    ) (by decide) (by decide) rfl (by decide) (by decide) (g := (mkF m 20 (Sh9 a1c 0 1 b27_e0 0) [(.int x1c), (.int 0), (.ref b27_e0)])) rfl (by rw [hml]; rfl) (argsL := [(.ref b27_e0), (.int (0 : Int32)), (.int x1c)]) (rest := []) (lenOf pd_285bBII29V rfl) rfl (by show 2 * 0 + _ ≤ _; exact Nat.le_of_eq rfl) (hb hby d13_20)
 obtain ⟨rfl, N34q, K34, p34_0⟩ := hQ34
 have N34 := Fr.app N27 N34q
 have f34_11 := f27_5.trans K34 (allS (Or.inr sz_b27_e0) all0)
 refine GoW.sg (mkF m 23 (Sh9 a1c 0 1 b27_e0 0) []) (fun t k => st34 t k) ?_
 refine GoW.sg (mkF m 33 (Sh9 a1c 1 1 b27_e0 1) [(.ref b27_e0)]) (fun t k => XS.iinc X34.here hx rfl (hb hby d13_23) rfl (l' := (Sh9 a1c 1 1 b27_e0 0)) rfl (XS.iinc X34.here hx rfl (hb hby d13_26) rfl (l' := (Sh9 a1c 1 1 b27_e0 1)) rfl (XS.goto X34.here hx rfl (pc0 := 29) (pc' := 8) rfl (hb hby d13_29) (by decide) (by decide) (XS.iload X34.here hx rfl (hb hby d13_8) rfl (XS.iloadN X34.here hx rfl (hb hby d13_10) rfl (XS.icmpYes X34.here hx rfl (pc0 := 11) (pc' := 32) rfl (hb hby d13_11) rfl (by decide) (by decide) (by decide) (XS.aloadN X34.here hx rfl (hb hby d13_32) rfl rfl k))))))) ?_
 refine GoW.retA X34 hx Bd.returns rfl rfl rfl (hb hby d13_33) Bd.notSynchronized ?_ (by decide) (by decide)
 exact ⟨b27_e0, k27_ke0, rfl, N34, f34_11, p34_0, sz_b27_e0⟩
def Q17_6 (Z : State) (a1c : Addr) (ka1c : ClassId) (x1c : Int32) (x2c : Int32) (h0 : Heap) (n0 : Nat) (v : Option Value) (h : Heap) (L : List Loc) : Prop := v = some (.int (nar .char (((x1c &&& (255 : Int32)) <<< ((0 : Int32) &&& 31)) ||| ((x2c &&& (255 : Int32)) <<< ((8 : Int32) &&& 31))).toUInt32.toUInt16.toUInt32.toInt32)) ∧ Fr n0 L ∧ (h = h0)
theorem rm17_6 (l : Launch) (Z : State) (a0 : Array Value) (hw : HW a0 Z) (a1c : Addr) (ka1c : ClassId) (x1c : Int32) (x2c : Int32) (h0 : Heap) (n0 : Nat) (P0 : Arv Z h0 a1c ka1c .byte (2 : Int32) [(.int x1c), (.int x2c)] (.int 0)) (P1 : Sta Z h0 "java/lang/StringUTF16" "$assertionsDisabled" "Z" (.int 1)) (P2 : Sta Z h0 "java/lang/StringUTF16" "HI_BYTE_SHIFT" "I" (.int 0)) (P3 : Sta Z h0 "java/lang/StringUTF16" "LO_BYTE_SHIFT" "I" (.int 8)) :
  MM l Z Y17 jdk_52_method_5_code 2 (some .char) 0 0 0 0 #[(.ref a1c), (.int 0)] h0 (Q17_6 Z a1c ka1c x1c x2c h0 n0) := by
 refine own_start (fun m => (mkF m 0 #[.val (.ref a1c), .val (.int 0)] [])) (plainFor_of_name pn_java_lang_StringUTF16) (by simp [entryFrame, mkF, argsToLocals, Value.category]) n0 ?_
 intro p e s m below meth c s₁ Bd hx hby hml hZ hown hnm X0 e0 N0
 obtain ⟨T41, X41, e41, st41⟩ := getS (host := "") X0 hx hZ hown (ww hw 71 rfl) Via.refl e0 P1 (g := (mkF m 0 #[.val (.ref a1c), .val (.int 0)] [])) rfl (hb hby d17_0)
 refine GoW.sg (mkF m 3 #[.val (.ref a1c), .val (.int 0)] [(.int 1)]) (fun t k => st41 t k) ?_
 refine GoW.sg (mkF m 30 #[.val (.ref a1c), .val (.int 0)] [(.int 1), (.int 0)]) (fun t k => XS.ifYes X41.here hx rfl (pc0 := 3) (pc' := 28) rfl (hb hby d17_3) rfl (by decide) (by decide) (by decide) (XS.iloadN X41.here hx rfl (hb hby d17_28) rfl (XS.iconst X41.here hx rfl (hb hby d17_29) k))) ?_
 refine GoW.st (fun t k => XS.ishl X41.here hx rfl (hb hby d17_30) rfl k) ?_
 rw [show ((0 : Int32) <<< ((1 : Int32) &&& 31)) = (0 : Int32) from by decide]
 show GoW p e below s (Q17_6 Z a1c ka1c x1c x2c h0 n0) 0 0 (T41.setTop (mkF m 31 #[.val (.ref a1c), .val (.int 0)] [(.int 0)]))
 refine GoW.sg (mkF m 37 #[.val (.ref a1c), .val (.int 1)] [(.int 0), (.ref a1c)]) (fun t k => XS.istoreN X41.here hx rfl (hb hby d17_31) rfl (l' := #[.val (.ref a1c), .val (.int 0)]) rfl (XS.aloadN X41.here hx rfl (hb hby d17_32) rfl rfl (XS.iloadN X41.here hx rfl (hb hby d17_33) rfl (XS.iinc X41.here hx rfl (hb hby d17_34) rfl (l' := #[.val (.ref a1c), .val (.int 1)]) rfl k)))) ?_
 obtain ⟨cl42, Ar42, q42, Sz42, Nn42, Hh42, Gg42⟩ := id P0
 have hin42 : ¬ ((0 : Int32) < 0 ∨ cl42.slots.size ≤ ((0 : Int32)).toNatClampNeg) := inb_of Sz42 ⟨by decide, by decide⟩
 refine GoW.sg (mkF m 38 #[.val (.ref a1c), .val (.int 1)] [(.int x1c)]) (fun t k => X41.baloadBytes hx (j := (0 : Int32)) (v := (.int x1c)) (hq_ e41 Ar42.1) (State.isArrayOf_alike hZ.alike Ar42.2.1) Ar42.2.2 hin42 (Hh42.at hin42 rfl) (g := (mkF m 37 #[.val (.ref a1c), .val (.int 1)] [(.int 0), (.ref a1c)])) rfl rfl (hb hby d17_37) t k) ?_
 refine GoW.sg (mkF m 42 #[.val (.ref a1c), .val (.int 1)] [(.int (x1c &&& (255 : Int32)))]) (fun t k => XS.sipush X41.here hx rfl (hb hby d17_38) (XS.iand X41.here hx rfl (hb hby d17_41) rfl k)) ?_
 obtain ⟨T43, X43, e43, st43⟩ := getS (host := "") X41 hx hZ hown (ww hw 72 rfl) Via.refl e41 P2 (g := (mkF m 42 #[.val (.ref a1c), .val (.int 1)] [(.int (x1c &&& (255 : Int32)))])) rfl (hb hby d17_42)
 refine GoW.sg (mkF m 45 #[.val (.ref a1c), .val (.int 1)] [(.int 0), (.int (x1c &&& (255 : Int32)))]) (fun t k => st43 t k) ?_
 refine GoW.sg (mkF m 48 #[.val (.ref a1c), .val (.int 1)] [(.int 1), (.ref a1c), (.int ((x1c &&& (255 : Int32)) <<< ((0 : Int32) &&& 31)))]) (fun t k => XS.ishl X43.here hx rfl (hb hby d17_45) rfl (XS.aloadN X43.here hx rfl (hb hby d17_46) rfl rfl (XS.iloadN X43.here hx rfl (hb hby d17_47) rfl k))) ?_
 obtain ⟨cl44, Ar44, q44, Sz44, Nn44, Hh44, Gg44⟩ := id P0
 have hin44 : ¬ ((1 : Int32) < 0 ∨ cl44.slots.size ≤ ((1 : Int32)).toNatClampNeg) := inb_of Sz44 ⟨by decide, by decide⟩
 refine GoW.sg (mkF m 49 #[.val (.ref a1c), .val (.int 1)] [(.int x2c), (.int ((x1c &&& (255 : Int32)) <<< ((0 : Int32) &&& 31)))]) (fun t k => X43.baloadBytes hx (j := (1 : Int32)) (v := (.int x2c)) (hq_ e43 Ar44.1) (State.isArrayOf_alike hZ.alike Ar44.2.1) Ar44.2.2 hin44 (Hh44.at hin44 rfl) (g := (mkF m 48 #[.val (.ref a1c), .val (.int 1)] [(.int 1), (.ref a1c), (.int ((x1c &&& (255 : Int32)) <<< ((0 : Int32) &&& 31)))])) rfl rfl (hb hby d17_48) t k) ?_
 refine GoW.sg (mkF m 53 #[.val (.ref a1c), .val (.int 1)] [(.int (x2c &&& (255 : Int32))), (.int ((x1c &&& (255 : Int32)) <<< ((0 : Int32) &&& 31)))]) (fun t k => XS.sipush X43.here hx rfl (hb hby d17_49) (XS.iand X43.here hx rfl (hb hby d17_52) rfl k)) ?_
 obtain ⟨T45, X45, e45, st45⟩ := getS (host := "") X43 hx hZ hown (ww hw 73 rfl) Via.refl e43 P3 (g := (mkF m 53 #[.val (.ref a1c), .val (.int 1)] [(.int (x2c &&& (255 : Int32))), (.int ((x1c &&& (255 : Int32)) <<< ((0 : Int32) &&& 31)))])) rfl (hb hby d17_53)
 refine GoW.sg (mkF m 56 #[.val (.ref a1c), .val (.int 1)] [(.int 8), (.int (x2c &&& (255 : Int32))), (.int ((x1c &&& (255 : Int32)) <<< ((0 : Int32) &&& 31)))]) (fun t k => st45 t k) ?_
 refine GoW.sg (mkF m 59 #[.val (.ref a1c), .val (.int 1)] [(.int (((x1c &&& (255 : Int32)) <<< ((0 : Int32) &&& 31)) ||| ((x2c &&& (255 : Int32)) <<< ((8 : Int32) &&& 31))).toUInt32.toUInt16.toUInt32.toInt32)]) (fun t k => XS.ishl X45.here hx rfl (hb hby d17_56) rfl (XS.ior X45.here hx rfl (hb hby d17_57) rfl (XS.i2c X45.here hx rfl (hb hby d17_58) rfl k))) ?_
 refine GoW.retN X45 hx (t := .char) Bd.returns (by simp) (hb hby d17_59) Bd.notSynchronized ?_ (by decide) (by decide)
 rw [e45]
 exact ⟨rfl, N0, rfl⟩
def Q10_7 (Z : State) (a1c : Addr) (ka1c : ClassId) (x1c : Int32) (h0 : Heap) (n0 : Nat) (v : Option Value) (h : Heap) (L : List Loc) : Prop := ∃ e0 : Addr, ∃ ke0 : ClassId, v = some (.ref e0) ∧ Fr n0 L ∧ (Keep h0 h []) ∧ (Arv Z h e0 ke0 .byte (2 : Int32) [(.int (lo8 x1c)), (.int (hi8 x1c))] (.int 0)) ∧ (h0.size ≤ e0)
theorem rm10_7 (l : Launch) (Z : State) (a0 : Array Value) (hw : HW a0 Z) (a1c : Addr) (ka1c : ClassId) (x1c : Int32) (h0 : Heap) (n0 : Nat) (Z0 : n0 ≤ h0.size) (P0 : Arv Z h0 a1c ka1c .char (1 : Int32) [(.int x1c)] (.int 0)) (P1 : Sta Z h0 "java/lang/StringUTF16" "$assertionsDisabled" "Z" (.int 1)) (P2 : Sta Z h0 "java/lang/StringUTF16" "HI_BYTE_SHIFT" "I" (.int 0)) (P3 : Sta Z h0 "java/lang/StringUTF16" "LO_BYTE_SHIFT" "I" (.int 8)) (u0 : ¬ (x1c < (0 : Int32))) (u1 : ¬ ((65535 : Int32) < x1c)) (u2 : (255 : Int32) < x1c) :
  MM l Z Y10 jdk_52_method_16_code 6 (some (.array .byte)) 3 2 3 40 #[(.ref a1c), (.int 0), (.int 1)] h0 (Q10_7 Z a1c ka1c x1c h0 n0) := by
 refine own_start (fun m => (mkF m 0 (Sh1 a1c 0 1) [])) (plainFor_of_name pn_java_lang_StringUTF16) (by simp [entryFrame, mkF, argsToLocals, Value.category]) n0 ?_
 intro p e s m below meth c s₁ Bd hx hby hml hZ hown hnm X0 e0 N0
 refine GoW.sg (mkF m 1 (Sh1 a1c 0 1) [(.int 1)]) (fun t k => XS.iloadN X0.here hx rfl (hb hby d10_0) rfl k) ?_
 obtain ⟨T47, h47, k47, X47, e47, E47, A47, st47⟩ := newP X0 hx hZ (ww hw 26 rfl) e0 (g := (mkF m 1 (Sh1 a1c 0 1) [(.int 1)])) rfl (hb hby d10_1) rfl (by decide) (cap := 1) (by decide) (by decide) (by decide) (by decide)
 obtain ⟨b47, g47⟩ : ∃ z, z = h0.size := ⟨_, rfl⟩
 rw [← g47] at A47 st47
 have f47_1 := P0.ext E47
 have f47_2 := P1.ext E47
 have f47_3 := P2.ext E47
 have f47_4 := P3.ext E47
 have f47_5 := (Keep.refl h0 []).ext E47
 have f47_6 := Nat.le_trans Z0 E47.1
 have V47 : Arv Z h47 b47 k47 .byte (1 : Int32) [(.int (0 : Int32))] (.int (0 : Int32)) := (Arv.new A47 (by decide)).pad (pad_rep [] (.int (0 : Int32)) 1)
 refine GoW.sg (mkF m 3 (Sh1 a1c 0 1) [(.ref b47)]) (fun t k => st47 t k) ?_
 refine GoW.sg (mkF m 9 (Sh2 a1c 0 1 b47) [(.int 1), (.int 0), (.ref b47), (.int 0), (.ref a1c)]) (fun t k => XS.astoreN X47.here hx rfl (hb hby d10_3) rfl rfl (l' := (Sh2 a1c 0 1 b47)) rfl (XS.aloadN X47.here hx rfl (hb hby d10_4) rfl rfl (XS.iloadN X47.here hx rfl (hb hby d10_5) rfl (XS.aloadN X47.here hx rfl (hb hby d10_6) rfl rfl (XS.iconst X47.here hx rfl (hb hby d10_7) (XS.iloadN X47.here hx rfl (hb hby d10_8) rfl k)))))) ?_
 obtain ⟨_, T49, L49, X49, hQ49, st49⟩ := own_callS X47 hx hZ hown (y := Y11) (ww hw 52 rfl) (ww hw 53 rfl) (ww hw 50 rfl) (ww hw 54 rfl) (by decide) 0 (rm11_1 l Z a0 hw a1c b47 ka1c x1c h47 n0  f47_1   u2  ) (by decide) (by decide) e47 (by decide) (by decide) (g := (mkF m 9 (Sh2 a1c 0 1 b47) [(.int 1), (.int 0), (.ref b47), (.int 0), (.ref a1c)])) rfl (by rw [hml]; rfl) (argsL := [(.ref a1c), (.int (0 : Int32)), (.ref b47), (.int (0 : Int32)), (.int (1 : Int32))]) (rest := []) (lenOf pd_285bCI5bBII29I rfl) rfl (by show 2 * 0 + _ ≤ _; exact Nat.le_of_eq rfl) (hb hby d10_9)
 obtain ⟨rfl, N49q, e49⟩ := hQ49
 have N49 := Fr.app N0 N49q
 refine GoW.sg (mkF m 12 (Sh2 a1c 0 1 b47) [(.int 0)]) (fun t k => st49 t k) ?_
 refine GoW.sg (mkF m 23 (Sh6 a1c 0 1 b47 0) [(.int 1), (.int 0), (.ref a1c)]) (fun t k => XS.istore X49.here hx rfl (hb hby d10_12) rfl (l' := (Sh6 a1c 0 1 b47 0)) rfl (XS.iload X49.here hx rfl (hb hby d10_14) rfl (XS.iloadN X49.here hx rfl (hb hby d10_16) rfl (XS.icmpNo X49.here hx rfl (hb hby d10_17) rfl (by decide) (XS.aloadN X49.here hx rfl (hb hby d10_20) rfl rfl (XS.iloadN X49.here hx rfl (hb hby d10_21) rfl (XS.iloadN X49.here hx rfl (hb hby d10_22) rfl k))))))) ?_
 obtain ⟨_, T58, L58, X58, hQ58, st58⟩ := own_callS X49 hx hZ hown (y := Y13) (ww hw 58 rfl) (ww hw 59 rfl) (ww hw 50 rfl) (ww hw 60 rfl) (by decide) 0 (rm13_5 l Z a0 hw a1c ka1c x1c h47 n0 f47_6 f47_1 f47_2 f47_3 f47_4     ) (by decide) (by decide) e49 (by decide) (by decide) (g := (mkF m 23 (Sh6 a1c 0 1 b47 0) [(.int 1), (.int 0), (.ref a1c)])) rfl (by rw [hml]; rfl) (argsL := [(.ref a1c), (.int (0 : Int32)), (.int (1 : Int32))]) (rest := []) (lenOf pd_285bCII295bB rfl) rfl (by show 2 * 0 + _ ≤ _; exact Nat.le_of_eq rfl) (hb hby d10_23)
 obtain ⟨b58_e0, k58_ke0, rfl, N58q, K58, p58_0, hz_b58_e0⟩ := hQ58
 have sz_b58_e0 : h0.size ≤ b58_e0 := Nat.le_trans f47_5.1 hz_b58_e0
 have N58 := Fr.app N49 N58q
 have f58_8 := own_staK0 f47_2 K58
 have f58_9 := own_staK0 f47_3 K58
 have f58_10 := own_staK0 f47_4 K58
 have f58_11 := f47_5.trans K58 all0
 refine GoW.sg (mkF m 26 (Sh6 a1c 0 1 b47 0) [(.ref b58_e0)]) (fun t k => st58 t k) ?_
 refine GoW.sg (mkF m 32 (Sh11 a1c 0 1 b47 0 b58_e0) [(.int 0), (.ref b58_e0)]) (fun t k => XS.astore X58.here hx rfl (hb hby d10_26) rfl rfl (l' := (Sh11 a1c 0 1 b47 0 b58_e0)) rfl (XS.aload X58.here hx rfl (hb hby d10_28) rfl rfl (XS.iload X58.here hx rfl (hb hby d10_30) rfl k))) ?_
 obtain ⟨_, T64, L64, X64, hQ64, st64⟩ := own_callS X58 hx hZ hown (y := Y17) (ww hw 74 rfl) (ww hw 75 rfl) (ww hw 50 rfl) (ww hw 76 rfl) (by decide) 0 (rm17_6 l Z a0 hw b58_e0 k58_ke0 (lo8 x1c) (hi8 x1c) T58.heap n0  p58_0 f58_8 f58_9 f58_10     ) (by decide) (by decide) rfl (by decide) (by decide) (g := (mkF m 32 (Sh11 a1c 0 1 b47 0 b58_e0) [(.int 0), (.ref b58_e0)])) rfl (by rw [hml]; rfl) (argsL := [(.ref b58_e0), (.int (0 : Int32))]) (rest := []) (lenOf pd_285bBI29C rfl) rfl (by show 2 * 0 + _ ≤ _; exact Nat.le_of_eq rfl) (hb hby d10_32)
 obtain ⟨rfl, N64q, e64⟩ := hQ64
 have N64 := Fr.app N58 N64q
 refine GoW.sg (mkF m 35 (Sh11 a1c 0 1 b47 0 b58_e0) [(.int (nar .char ((((lo8 x1c) &&& (255 : Int32)) <<< ((0 : Int32) &&& 31)) ||| (((hi8 x1c) &&& (255 : Int32)) <<< ((8 : Int32) &&& 31))).toUInt32.toUInt16.toUInt32.toInt32))]) (fun t k => st64 t k) ?_
 rw [show (nar .char ((((lo8 x1c) &&& (255 : Int32)) <<< ((0 : Int32) &&& 31)) ||| (((hi8 x1c) &&& (255 : Int32)) <<< ((8 : Int32) &&& 31))).toUInt32.toUInt16.toUInt32.toInt32) = x1c from (own_join _ u0 u1)]
 refine GoW.sg (mkF m 56 (Sh11 a1c 0 1 b47 0 b58_e0) [(.ref b58_e0)]) (fun t k => XS.sipush X64.here hx rfl (hb hby d10_35) (XS.icmpYes X64.here hx rfl (pc0 := 38) (pc' := 54) rfl (hb hby d10_38) rfl (tlt u2).2.2.1 (by decide) (by decide) (XS.aload X64.here hx rfl (hb hby d10_54) rfl rfl k))) ?_
 refine GoW.retA X64 hx Bd.returns rfl rfl rfl (hb hby d10_56) Bd.notSynchronized ?_ (by decide) (by decide)
 rw [e64]
 exact ⟨b58_e0, k58_ke0, rfl, N64, f58_11, p58_0, sz_b58_e0⟩
def Q12_8 (Z : State) (a1c : Addr) (ka1c : ClassId) (x1c : Int32) (x2c : Int32) (h0 : Heap) (n0 : Nat) (v : Option Value) (h : Heap) (L : List Loc) : Prop := v = some (.int 1) ∧ Fr n0 L ∧ (h = h0)
theorem rm12_8 (l : Launch) (Z : State) (a0 : Array Value) (hw : HW a0 Z) (a1c : Addr) (ka1c : ClassId) (x1c : Int32) (x2c : Int32) (h0 : Heap) (n0 : Nat) (P0 : Arv Z h0 a1c ka1c .byte (2 : Int32) [(.int x1c), (.int x2c)] (.int 0)) :
  MM l Z Y12 jdk_52_method_15_code 2 (some .byte) 0 0 0 0 #[(.ref a1c), (.int 1)] h0 (Q12_8 Z a1c ka1c x1c x2c h0 n0) := by
 refine own_start (fun m => (mkF m 0 #[.val (.ref a1c), .val (.int 1)] [])) (plainFor_of_name pn_java_lang_StringUTF16) (by simp [entryFrame, mkF, argsToLocals, Value.category]) n0 ?_
 intro p e s m below meth c s₁ Bd hx hby hml hZ hown hnm X0 e0 N0
 refine GoW.sg (mkF m 2 #[.val (.ref a1c), .val (.int 1)] [(.ref a1c), (.int 1)]) (fun t k => XS.iloadN X0.here hx rfl (hb hby d12_0) rfl (XS.aloadN X0.here hx rfl (hb hby d12_1) rfl rfl k)) ?_
 obtain ⟨cl67, Ar67, q67, Sz67, Nn67, Hh67, Gg67⟩ := id P0
 have st67 := X0.arraylength hx (hq_ e0 Ar67.1) (State.isArrayOf_alike hZ.alike Ar67.2.1) (g := (mkF m 2 #[.val (.ref a1c), .val (.int 1)] [(.ref a1c), (.int 1)])) rfl rfl (hb hby d12_2)
 rw [len_of Sz67 Nn67] at st67
 refine GoW.sg (mkF m 3 #[.val (.ref a1c), .val (.int 1)] [(.int 2), (.int 1)]) (fun t k => st67 t k) ?_
 refine GoW.st (fun t k => XS.isub X0.here hx rfl (hb hby d12_3) rfl k) ?_
 rw [show ((1 : Int32) - (2 : Int32)) = (-1 : Int32) from by decide]
 show GoW p e below s (Q12_8 Z a1c ka1c x1c x2c h0 n0) 0 0 (s₁.setTop (mkF m 4 #[.val (.ref a1c), .val (.int 1)] [(.int (-1))]))
 refine GoW.sg (mkF m 6 #[.val (.ref a1c), .val (.int 1)] [(.int 31), (.int (-1))]) (fun t k => XS.bipush X0.here hx rfl (hb hby d12_4) k) ?_
 refine GoW.st (fun t k => XS.iushr X0.here hx rfl (hb hby d12_6) rfl k) ?_
 rw [show ((-1 : Int32).toUInt32 >>> ((31 : Int32) &&& 31).toUInt32).toInt32 = (1 : Int32) from by decide]
 show GoW p e below s (Q12_8 Z a1c ka1c x1c x2c h0 n0) 0 0 (s₁.setTop (mkF m 7 #[.val (.ref a1c), .val (.int 1)] [(.int 1)]))
 refine GoW.st (fun t k => XS.i2b X0.here hx rfl (hb hby d12_7) rfl k) ?_
 rw [show (1 : Int32).toInt8.toInt32 = (1 : Int32) from by decide]
 show GoW p e below s (Q12_8 Z a1c ka1c x1c x2c h0 n0) 0 0 (s₁.setTop (mkF m 8 #[.val (.ref a1c), .val (.int 1)] [(.int 1)]))
 refine GoW.retN X0 hx (t := .byte) Bd.returns (by simp) (hb hby d12_8) Bd.notSynchronized ?_ (by decide) (by decide)
 rw [e0]
 exact ⟨rfl, N0, rfl⟩
def Q5_9 (Z : State) (a1c : Addr) (a2c : Addr) (ka2c : ClassId) (x1c : Int32) (x2c : Int32) (h0 : Heap) (n0 : Nat) (v : Option Value) (h : Heap) (L : List Loc) : Prop := ∃ e0 : Addr, ∃ ke0 : ClassId, v = none ∧ Fr n0 L ∧ (Keep h0 h [a1c]) ∧ (Exa Z h a1c "java/lang/String") ∧ (Fld Z h a1c "java/lang/String" "coder" "B" (.int 1)) ∧ (Fld Z h a1c "java/lang/String" "value" "[B" (.ref e0)) ∧ (Arv Z h e0 ke0 .byte (2 : Int32) [(.int (lo8 x1c)), (.int (hi8 x1c))] (.int 0)) ∧ (h0.size ≤ e0)
theorem rm5_9 (l : Launch) (Z : State) (a0 : Array Value) (hw : HW a0 Z) (a1c : Addr) (a2c : Addr) (ka2c : ClassId) (x1c : Int32) (x2c : Int32) (h0 : Heap) (n0 : Nat) (Z0 : n0 ≤ h0.size) (P0 : Exa Z h0 a1c "java/lang/String") (P1 : Fld Z h0 a1c "java/lang/String" "coder" "B" (.int 0)) (P2 : Fld Z h0 a1c "java/lang/String" "value" "[B" .null) (P3 : Arv Z h0 a2c ka2c .char (1 : Int32) [(.int x1c)] (.int 0)) (P4 : Sta Z h0 "java/lang/String" "COMPACT_STRINGS" "Z" (.int x2c)) (P5 : Sta Z h0 "java/lang/StringUTF16" "$assertionsDisabled" "Z" (.int 1)) (P6 : Sta Z h0 "java/lang/StringUTF16" "HI_BYTE_SHIFT" "I" (.int 0)) (P7 : Sta Z h0 "java/lang/StringUTF16" "LO_BYTE_SHIFT" "I" (.int 8)) (g_a1c : n0 ≤ a1c) (u0 : ¬ (x1c < (0 : Int32))) (u1 : ¬ ((65535 : Int32) < x1c)) (u2 : ¬ (x2c = (0 : Int32))) (u3 : (255 : Int32) < x1c) :
  MM l Z Y5 jdk_42_method_149_code 6 none 4 2 3 57 #[(.ref a1c), (.ref a2c), (.int 0), (.int 1), .null] h0 (Q5_9 Z a1c a2c ka2c x1c x2c h0 n0) := by
 refine own_start (fun m => (mkF m 0 (Sh0 a1c a2c 0 1) [])) (plainFor_of_name pn_java_lang_String) (by simp [entryFrame, mkF, argsToLocals, Value.category]) n0 ?_
 intro p e s m below meth c s₁ Bd hx hby hml hZ hown hnm X0 e0 N0
 refine GoW.sg (mkF m 1 (Sh0 a1c a2c 0 1) [(.ref a1c)]) (fun t k => XS.aloadN X0.here hx rfl (hb hby d5_0) rfl rfl k) ?_
 obtain ⟨T71, X71, e71, st71⟩ := initO X0 hx hZ hown (ww hw 22 rfl) (ww hw 23 rfl) (ww hw 24 rfl) e0 (g := (mkF m 1 (Sh0 a1c a2c 0 1) [(.ref a1c)])) rfl (by rw [hml]; rfl) rfl (hb hby d5_1) (by decide) (W := 0) (by show 2 * 0 + _ ≤ _; exact Nat.le_of_eq rfl) (by decide)
 refine GoW.sg (mkF m 4 (Sh0 a1c a2c 0 1) []) (fun t k => st71 t k) ?_
 refine GoW.sg (mkF m 27 (Sh0 a1c a2c 0 1) []) (fun t k => XS.iloadN X71.here hx rfl (hb hby d5_4) rfl (XS.ifYes X71.here hx rfl (pc0 := 5) (pc' := 27) rfl (hb hby d5_5) rfl (by decide) (by decide) (by decide) k)) ?_
 obtain ⟨T72, X72, e72, st72⟩ := getS (host := "") X71 hx hZ hown (ww hw 47 rfl) Via.refl e71 P4 (g := (mkF m 27 (Sh0 a1c a2c 0 1) [])) rfl (hb hby d5_27)
 refine GoW.sg (mkF m 30 (Sh0 a1c a2c 0 1) [(.int x2c)]) (fun t k => st72 t k) ?_
 refine GoW.sg (mkF m 36 (Sh0 a1c a2c 0 1) [(.int 1), (.int 0), (.ref a2c)]) (fun t k => XS.ifNo X72.here hx rfl (hb hby d5_30) rfl ((if0 _ _).trans (feq u2).1) (XS.aloadN X72.here hx rfl (hb hby d5_33) rfl rfl (XS.iloadN X72.here hx rfl (hb hby d5_34) rfl (XS.iloadN X72.here hx rfl (hb hby d5_35) rfl k)))) ?_
 obtain ⟨_, T73, L73, X73, hQ73, st73⟩ := own_callS X72 hx hZ hown (y := Y10) (ww hw 48 rfl) (ww hw 49 rfl) (ww hw 50 rfl) (ww hw 51 rfl) (by decide) 0 (rm10_7 l Z a0 hw a2c ka2c x1c h0 n0 Z0 P3 P5 P6 P7   u0 u1 u3  ) (by decide) (by decide) e72 (by decide) (by decide) (g := (mkF m 36 (Sh0 a1c a2c 0 1) [(.int 1), (.int 0), (.ref a2c)])) rfl (by rw [hml]; rfl) (argsL := [(.ref a2c), (.int (0 : Int32)), (.int (1 : Int32))]) (rest := []) (lenOf pd_285bCII295bB rfl) rfl (by show 2 * 0 + _ ≤ _; exact Nat.le_of_eq rfl) (hb hby d5_36)
 obtain ⟨b73_e0, k73_ke0, rfl, N73q, K73, p73_0, hz_b73_e0⟩ := hQ73
 have sz_b73_e0 : h0.size ≤ b73_e0 := Nat.le_trans (Keep.refl h0 [a1c]).1 hz_b73_e0
 have ne_a1c_b73_e0 : a1c ≠ b73_e0 := Nat.ne_of_lt (Nat.lt_of_lt_of_le P0.lt hz_b73_e0)
 have N73 := Fr.app N0 N73q
 have f73_1 := P0.keep K73
 have f73_2 := P1.keep K73 nin0
 have f73_3 := P2.keep K73 nin0
 have f73_9 := (Keep.refl h0 [a1c]).trans K73 all0
 refine GoW.sg (mkF m 39 (Sh0 a1c a2c 0 1) [(.ref b73_e0)]) (fun t k => st73 t k) ?_
 refine GoW.sg (mkF m 45 (Sh12 a1c a2c 0 1 b73_e0) [(.int 1), (.ref b73_e0), (.ref a1c)]) (fun t k => XS.astore X73.here hx rfl (hb hby d5_39) rfl rfl (l' := (Sh12 a1c a2c 0 1 b73_e0)) rfl (XS.aloadN X73.here hx rfl (hb hby d5_41) rfl rfl (XS.aload X73.here hx rfl (hb hby d5_42) rfl rfl (XS.iloadN X73.here hx rfl (hb hby d5_44) rfl k)))) ?_
 obtain ⟨_, T74, L74, X74, hQ74, st74⟩ := own_callS X73 hx hZ hown (y := Y12) (ww hw 55 rfl) (ww hw 56 rfl) (ww hw 50 rfl) (ww hw 57 rfl) (by decide) 1 (rm12_8 l Z a0 hw b73_e0 k73_ke0 (lo8 x1c) (hi8 x1c) T73.heap n0  p73_0     ) (by decide) (by decide) rfl (by decide) (by decide) (g := (mkF m 45 (Sh12 a1c a2c 0 1 b73_e0) [(.int 1), (.ref b73_e0), (.ref a1c)])) rfl (by rw [hml]; rfl) (argsL := [(.ref b73_e0), (.int (1 : Int32))]) (rest := [(.ref a1c)]) (lenOf pd_285bBI29B rfl) rfl (by show 2 * 0 + _ ≤ _; exact Nat.le_of_eq rfl) (hb hby d5_45)
 obtain ⟨rfl, N74q, e74⟩ := hQ74
 have N74 := Fr.app N73 N74q
 refine GoW.sg (mkF m 48 (Sh12 a1c a2c 0 1 b73_e0) [(.int 1), (.ref a1c)]) (fun t k => st74 t k) ?_
 obtain ⟨T75, h75, X75, e75, W75, st75⟩ := putF X74 hx hZ hown (host := "") (Or.inl (ww hw 32 rfl)) Via.refl e74 f73_2 f73_1 (Or.inr ⟨(ww hw 28 rfl), rfl, hnm⟩) (ww hw 12 rfl) (ty := .byte) (by decide) rfl rfl (g := (mkF m 48 (Sh12 a1c a2c 0 1 b73_e0) [(.int 1), (.ref a1c)])) rfl rfl (hb hby d5_48)
 have N75 := Fr.snoc X75 N74 g_a1c
 have f75_11 := f73_1.wr W75
 have f75_12 := f73_3.other W75 (Or.inr (slot_ne (t := (.array .byte)) (t' := .byte) (Or.inr (ww hw 27 rfl)) (Or.inr (ww hw 28 rfl)) (by decide) (by decide) (by decide)))
 have f75_17 := f73_9.wr W75 (Or.inl (List.mem_of_getElem? (i := 0) rfl))
 have f75_19 := p73_0.other W75 (Ne.symm ne_a1c_b73_e0)
 have F75coder : Fld Z h75 a1c "java/lang/String" "coder" "B" (.int (1 : Int32)) := f73_2.same W75
 refine GoW.sg (mkF m 51 (Sh12 a1c a2c 0 1 b73_e0) []) (fun t k => st75 t k) ?_
 refine GoW.sg (mkF m 54 (Sh12 a1c a2c 0 1 b73_e0) [(.ref b73_e0), (.ref a1c)]) (fun t k => XS.aloadN X75.here hx rfl (hb hby d5_51) rfl rfl (XS.aload X75.here hx rfl (hb hby d5_52) rfl rfl k)) ?_
 obtain ⟨T76, h76, X76, e76, W76, st76⟩ := putF X75 hx hZ hown (host := "") (Or.inl (ww hw 31 rfl)) Via.refl e75 f75_12 f75_11 (Or.inr ⟨(ww hw 27 rfl), rfl, hnm⟩) (ww hw 12 rfl) (ty := (.array .byte)) (by decide) rfl rfl (g := (mkF m 54 (Sh12 a1c a2c 0 1 b73_e0) [(.ref b73_e0), (.ref a1c)])) rfl rfl (hb hby d5_54)
 have N76 := Fr.snoc X76 N75 g_a1c
 have f76_20 := f75_11.wr W76
 have f76_21 := F75coder.other W76 (Or.inr (slot_ne (t := .byte) (t' := (.array .byte)) (Or.inr (ww hw 28 rfl)) (Or.inr (ww hw 27 rfl)) (by decide) (by decide) (by decide)))
 have f76_26 := f75_17.wr W76 (Or.inl (List.mem_of_getElem? (i := 0) rfl))
 have f76_28 := f75_19.other W76 (Ne.symm ne_a1c_b73_e0)
 have F76value : Fld Z h76 a1c "java/lang/String" "value" "[B" (.ref b73_e0) := f75_12.same W76
 refine GoW.sg (mkF m 57 (Sh12 a1c a2c 0 1 b73_e0) []) (fun t k => st76 t k) ?_
 refine GoW.retV X76 hx Bd.returns (hb hby d5_57) Bd.notSynchronized ?_ (by decide) (by decide)
 rw [e76]
 exact ⟨b73_e0, k73_ke0, rfl, N76, f76_26, f76_20, f76_21, F76value, f76_28, sz_b73_e0⟩
def Q11_11 (Z : State) (a1c : Addr) (a2c : Addr) (ka2c : ClassId) (ka1c : ClassId) (x1c : Int32) (h0 : Heap) (n0 : Nat) (v : Option Value) (h : Heap) (L : List Loc) : Prop := v = some (.int 1) ∧ Fr n0 L ∧ (Keep h0 h [a2c]) ∧ (Arv Z h a2c ka2c .byte (1 : Int32) [(.int (lat8 x1c))] (.int 0))
theorem rm11_11 (l : Launch) (Z : State) (a0 : Array Value) (hw : HW a0 Z) (a1c : Addr) (a2c : Addr) (ka2c : ClassId) (ka1c : ClassId) (x1c : Int32) (h0 : Heap) (n0 : Nat) (P0 : Arv Z h0 a2c ka2c .byte (1 : Int32) [(.int 0)] (.int 0)) (P1 : Arv Z h0 a1c ka1c .char (1 : Int32) [(.int x1c)] (.int 0)) (g_a2c : n0 ≤ a2c) (u0 : ¬ ((255 : Int32) < x1c)) :
  MM l Z Y11 jdk_52_method_21_code 7 (some .int) 0 0 0 0 #[(.ref a1c), (.int 0), (.ref a2c), (.int 0), (.int 1)] h0 (Q11_11 Z a1c a2c ka2c ka1c x1c h0 n0) := by
 refine own_start (fun m => (mkF m 0 (Sh3 a1c 0 a2c 0 1) [])) (plainFor_of_name pn_java_lang_StringUTF16) (by simp [entryFrame, mkF, argsToLocals, Value.category]) n0 ?_
 intro p e s m below meth c s₁ Bd hx hby hml hZ hown hnm X0 e0 N0
 refine GoW.sg (mkF m 12 (Sh4 a1c 0 a2c 0 1 0) [(.int 0), (.ref a1c)]) (fun t k => XS.iconst X0.here hx rfl (hb hby d11_0) (XS.istore X0.here hx rfl (hb hby d11_1) rfl (l' := (Sh4 a1c 0 a2c 0 1 0)) rfl (XS.iload X0.here hx rfl (hb hby d11_3) rfl (XS.iload X0.here hx rfl (hb hby d11_5) rfl (XS.icmpNo X0.here hx rfl (hb hby d11_7) rfl (by decide) (XS.aloadN X0.here hx rfl (hb hby d11_10) rfl rfl (XS.iloadN X0.here hx rfl (hb hby d11_11) rfl k))))))) ?_
 obtain ⟨cl92, Ar92, q92, Sz92, Nn92, Hh92, Gg92⟩ := id P1
 have hin92 : ¬ ((0 : Int32) < 0 ∨ cl92.slots.size ≤ ((0 : Int32)).toNatClampNeg) := inb_of Sz92 ⟨by decide, by decide⟩
 refine GoW.sg (mkF m 13 (Sh4 a1c 0 a2c 0 1 0) [(.int x1c)]) (fun t k => X0.caload hx (j := (0 : Int32)) (v := (.int x1c)) (hq_ e0 Ar92.1) (State.isArrayOf_alike hZ.alike Ar92.2.1) Ar92.2.2 hin92 (Hh92.at hin92 rfl) (g := (mkF m 12 (Sh4 a1c 0 a2c 0 1 0) [(.int 0), (.ref a1c)])) rfl rfl (hb hby d11_12) t k) ?_
 refine GoW.sg (mkF m 31 (Sh5 a1c 0 a2c 0 1 0 x1c) [(.int x1c.toInt8.toInt32), (.int 0), (.ref a2c)]) (fun t k => XS.istore X0.here hx rfl (hb hby d11_13) rfl (l' := (Sh5 a1c 0 a2c 0 1 0 x1c)) rfl (XS.iload X0.here hx rfl (hb hby d11_15) rfl (XS.sipush X0.here hx rfl (hb hby d11_17) (XS.icmpYes X0.here hx rfl (pc0 := 20) (pc' := 26) rfl (hb hby d11_20) rfl (flt u0).2.2.2 (by decide) (by decide) (XS.aloadN X0.here hx rfl (hb hby d11_26) rfl rfl (XS.iloadN X0.here hx rfl (hb hby d11_27) rfl (XS.iload X0.here hx rfl (hb hby d11_28) rfl (XS.i2b X0.here hx rfl (hb hby d11_30) rfl k)))))))) ?_
 obtain ⟨cl93, Ar93, q93, Sz93, Nn93, Hh93, Gg93⟩ := P0
 have hin93 : ¬ ((0 : Int32) < 0 ∨ cl93.slots.size ≤ ((0 : Int32)).toNatClampNeg) := inb_of Sz93 ⟨by decide, by decide⟩
 obtain ⟨T93, h93, X93, e93, W93, st93⟩ := stB X0 hx hZ e0 Ar93 (j := (0 : Int32)) hin93 (g := (mkF m 31 (Sh5 a1c 0 a2c 0 1 0 x1c) [(.int x1c.toInt8.toInt32), (.int 0), (.ref a2c)])) rfl rfl (hb hby d11_31)
 have f93_1 := (Keep.refl h0 [a2c]).wr W93 (Or.inl (List.mem_of_getElem? (i := 0) rfl))
 have V93 : Arv Z h93 a2c ka2c .byte (1 : Int32) [(.int (lat8 x1c))] (.int (0 : Int32)) := Arv.set Ar93 q93 Sz93 Nn93 Hh93 Gg93 (fits_nar_byte _) W93 0 rfl (Nat.le_of_ble_eq_true rfl)
 have N93 := Fr.snoc X93 N0 g_a2c
 refine GoW.sg (mkF m 32 (Sh5 a1c 0 a2c 0 1 0 x1c) []) (fun t k => st93 t k) ?_
 refine GoW.sg (mkF m 46 (Sh5 a1c 1 a2c 1 1 1 x1c) [(.int 1)]) (fun t k => XS.iinc X93.here hx rfl (hb hby d11_32) rfl (l' := (Sh5 a1c 1 a2c 0 1 0 x1c)) rfl (XS.iinc X93.here hx rfl (hb hby d11_35) rfl (l' := (Sh5 a1c 1 a2c 1 1 0 x1c)) rfl (XS.iinc X93.here hx rfl (hb hby d11_38) rfl (l' := (Sh5 a1c 1 a2c 1 1 1 x1c)) rfl (XS.goto X93.here hx rfl (pc0 := 41) (pc' := 3) rfl (hb hby d11_41) (by decide) (by decide) (XS.iload X93.here hx rfl (hb hby d11_3) rfl (XS.iload X93.here hx rfl (hb hby d11_5) rfl (XS.icmpYes X93.here hx rfl (pc0 := 7) (pc' := 44) rfl (hb hby d11_7) rfl (by decide) (by decide) (by decide) (XS.iload X93.here hx rfl (hb hby d11_44) rfl k)))))))) ?_
 refine GoW.retI X93 hx Bd.returns (hb hby d11_46) Bd.notSynchronized ?_ (by decide) (by decide)
 rw [e93]
 exact ⟨rfl, N93, f93_1, V93⟩
def Q10_12 (Z : State) (a1c : Addr) (ka1c : ClassId) (x1c : Int32) (h0 : Heap) (n0 : Nat) (v : Option Value) (h : Heap) (L : List Loc) : Prop := ∃ e0 : Addr, ∃ ke0 : ClassId, v = some (.ref e0) ∧ Fr n0 L ∧ (Keep h0 h []) ∧ (Arv Z h e0 ke0 .byte (1 : Int32) [(.int (lat8 x1c))] (.int 0)) ∧ (h0.size ≤ e0)
theorem rm10_12 (l : Launch) (Z : State) (a0 : Array Value) (hw : HW a0 Z) (a1c : Addr) (ka1c : ClassId) (x1c : Int32) (h0 : Heap) (n0 : Nat) (Z0 : n0 ≤ h0.size) (P0 : Arv Z h0 a1c ka1c .char (1 : Int32) [(.int x1c)] (.int 0)) (u0 : ¬ ((255 : Int32) < x1c)) :
  MM l Z Y10 jdk_52_method_16_code 6 (some (.array .byte)) 1 1 1 18 #[(.ref a1c), (.int 0), (.int 1)] h0 (Q10_12 Z a1c ka1c x1c h0 n0) := by
 refine own_start (fun m => (mkF m 0 (Sh1 a1c 0 1) [])) (plainFor_of_name pn_java_lang_StringUTF16) (by simp [entryFrame, mkF, argsToLocals, Value.category]) n0 ?_
 intro p e s m below meth c s₁ Bd hx hby hml hZ hown hnm X0 e0 N0
 refine GoW.sg (mkF m 1 (Sh1 a1c 0 1) [(.int 1)]) (fun t k => XS.iloadN X0.here hx rfl (hb hby d10_0) rfl k) ?_
 obtain ⟨T95, h95, k95, X95, e95, E95, A95, st95⟩ := newP X0 hx hZ (ww hw 26 rfl) e0 (g := (mkF m 1 (Sh1 a1c 0 1) [(.int 1)])) rfl (hb hby d10_1) rfl (by decide) (cap := 1) (by decide) (by decide) (by decide) (by decide)
 obtain ⟨b95, g95⟩ : ∃ z, z = h0.size := ⟨_, rfl⟩
 rw [← g95] at A95 st95
 have g_b95 : n0 ≤ b95 := Nat.le_trans Z0 (Nat.le_of_eq g95.symm)
 have sz_b95 : h0.size ≤ b95 := Nat.le_trans (Keep.refl h0 []).1 (Nat.le_of_eq g95.symm)
 have f95_1 := P0.ext E95
 have f95_2 := (Keep.refl h0 []).ext E95
 have V95 : Arv Z h95 b95 k95 .byte (1 : Int32) [(.int (0 : Int32))] (.int (0 : Int32)) := (Arv.new A95 (by decide)).pad (pad_rep [] (.int (0 : Int32)) 1)
 refine GoW.sg (mkF m 3 (Sh1 a1c 0 1) [(.ref b95)]) (fun t k => st95 t k) ?_
 refine GoW.sg (mkF m 9 (Sh2 a1c 0 1 b95) [(.int 1), (.int 0), (.ref b95), (.int 0), (.ref a1c)]) (fun t k => XS.astoreN X95.here hx rfl (hb hby d10_3) rfl rfl (l' := (Sh2 a1c 0 1 b95)) rfl (XS.aloadN X95.here hx rfl (hb hby d10_4) rfl rfl (XS.iloadN X95.here hx rfl (hb hby d10_5) rfl (XS.aloadN X95.here hx rfl (hb hby d10_6) rfl rfl (XS.iconst X95.here hx rfl (hb hby d10_7) (XS.iloadN X95.here hx rfl (hb hby d10_8) rfl k)))))) ?_
 obtain ⟨_, T98, L98, X98, hQ98, st98⟩ := own_callS X95 hx hZ hown (y := Y11) (ww hw 52 rfl) (ww hw 53 rfl) (ww hw 50 rfl) (ww hw 54 rfl) (by decide) 0 (rm11_11 l Z a0 hw a1c b95 k95 ka1c x1c h95 n0  V95 f95_1 g_b95  u0  ) (by decide) (by decide) e95 (by decide) (by decide) (g := (mkF m 9 (Sh2 a1c 0 1 b95) [(.int 1), (.int 0), (.ref b95), (.int 0), (.ref a1c)])) rfl (by rw [hml]; rfl) (argsL := [(.ref a1c), (.int (0 : Int32)), (.ref b95), (.int (0 : Int32)), (.int (1 : Int32))]) (rest := []) (lenOf pd_285bCI5bBII29I rfl) rfl (by show 2 * 0 + _ ≤ _; exact Nat.le_of_eq rfl) (hb hby d10_9)
 obtain ⟨rfl, N98q, K98, p98_0⟩ := hQ98
 have N98 := Fr.app N0 N98q
 have f98_5 := f95_2.trans K98 (allS (Or.inr sz_b95) all0)
 refine GoW.sg (mkF m 12 (Sh2 a1c 0 1 b95) [(.int 1)]) (fun t k => st98 t k) ?_
 refine GoW.sg (mkF m 58 (Sh6 a1c 0 1 b95 1) [(.ref b95)]) (fun t k => XS.istore X98.here hx rfl (hb hby d10_12) rfl (l' := (Sh6 a1c 0 1 b95 1)) rfl (XS.iload X98.here hx rfl (hb hby d10_14) rfl (XS.iloadN X98.here hx rfl (hb hby d10_16) rfl (XS.icmpYes X98.here hx rfl (pc0 := 17) (pc' := 57) rfl (hb hby d10_17) rfl (by decide) (by decide) (by decide) (XS.aloadN X98.here hx rfl (hb hby d10_57) rfl rfl k))))) ?_
 refine GoW.retA X98 hx Bd.returns rfl rfl rfl (hb hby d10_58) Bd.notSynchronized ?_ (by decide) (by decide)
 exact ⟨b95, k95, rfl, N98, f98_5, p98_0, sz_b95⟩
def Q12_13 (Z : State) (a1c : Addr) (ka1c : ClassId) (x1c : Int32) (h0 : Heap) (n0 : Nat) (v : Option Value) (h : Heap) (L : List Loc) : Prop := v = some (.int 0) ∧ Fr n0 L ∧ (h = h0)
theorem rm12_13 (l : Launch) (Z : State) (a0 : Array Value) (hw : HW a0 Z) (a1c : Addr) (ka1c : ClassId) (x1c : Int32) (h0 : Heap) (n0 : Nat) (P0 : Arv Z h0 a1c ka1c .byte (1 : Int32) [(.int x1c)] (.int 0)) :
  MM l Z Y12 jdk_52_method_15_code 2 (some .byte) 0 0 0 0 #[(.ref a1c), (.int 1)] h0 (Q12_13 Z a1c ka1c x1c h0 n0) := by
 refine own_start (fun m => (mkF m 0 #[.val (.ref a1c), .val (.int 1)] [])) (plainFor_of_name pn_java_lang_StringUTF16) (by simp [entryFrame, mkF, argsToLocals, Value.category]) n0 ?_
 intro p e s m below meth c s₁ Bd hx hby hml hZ hown hnm X0 e0 N0
 refine GoW.sg (mkF m 2 #[.val (.ref a1c), .val (.int 1)] [(.ref a1c), (.int 1)]) (fun t k => XS.iloadN X0.here hx rfl (hb hby d12_0) rfl (XS.aloadN X0.here hx rfl (hb hby d12_1) rfl rfl k)) ?_
 obtain ⟨cl101, Ar101, q101, Sz101, Nn101, Hh101, Gg101⟩ := id P0
 have st101 := X0.arraylength hx (hq_ e0 Ar101.1) (State.isArrayOf_alike hZ.alike Ar101.2.1) (g := (mkF m 2 #[.val (.ref a1c), .val (.int 1)] [(.ref a1c), (.int 1)])) rfl rfl (hb hby d12_2)
 rw [len_of Sz101 Nn101] at st101
 refine GoW.sg (mkF m 3 #[.val (.ref a1c), .val (.int 1)] [(.int 1), (.int 1)]) (fun t k => st101 t k) ?_
 refine GoW.st (fun t k => XS.isub X0.here hx rfl (hb hby d12_3) rfl k) ?_
 rw [show ((1 : Int32) - (1 : Int32)) = (0 : Int32) from by decide]
 show GoW p e below s (Q12_13 Z a1c ka1c x1c h0 n0) 0 0 (s₁.setTop (mkF m 4 #[.val (.ref a1c), .val (.int 1)] [(.int 0)]))
 refine GoW.sg (mkF m 6 #[.val (.ref a1c), .val (.int 1)] [(.int 31), (.int 0)]) (fun t k => XS.bipush X0.here hx rfl (hb hby d12_4) k) ?_
 refine GoW.st (fun t k => XS.iushr X0.here hx rfl (hb hby d12_6) rfl k) ?_
 rw [show ((0 : Int32).toUInt32 >>> ((31 : Int32) &&& 31).toUInt32).toInt32 = (0 : Int32) from by decide]
 show GoW p e below s (Q12_13 Z a1c ka1c x1c h0 n0) 0 0 (s₁.setTop (mkF m 7 #[.val (.ref a1c), .val (.int 1)] [(.int 0)]))
 refine GoW.st (fun t k => XS.i2b X0.here hx rfl (hb hby d12_7) rfl k) ?_
 rw [show (0 : Int32).toInt8.toInt32 = (0 : Int32) from by decide]
 show GoW p e below s (Q12_13 Z a1c ka1c x1c h0 n0) 0 0 (s₁.setTop (mkF m 8 #[.val (.ref a1c), .val (.int 1)] [(.int 0)]))
 refine GoW.retN X0 hx (t := .byte) Bd.returns (by simp) (hb hby d12_8) Bd.notSynchronized ?_ (by decide) (by decide)
 rw [e0]
 exact ⟨rfl, N0, rfl⟩
def Q5_14 (Z : State) (a1c : Addr) (a2c : Addr) (ka2c : ClassId) (x1c : Int32) (x2c : Int32) (h0 : Heap) (n0 : Nat) (v : Option Value) (h : Heap) (L : List Loc) : Prop := ∃ e0 : Addr, ∃ ke0 : ClassId, v = none ∧ Fr n0 L ∧ (Keep h0 h [a1c]) ∧ (Exa Z h a1c "java/lang/String") ∧ (Fld Z h a1c "java/lang/String" "coder" "B" (.int 0)) ∧ (Fld Z h a1c "java/lang/String" "value" "[B" (.ref e0)) ∧ (Arv Z h e0 ke0 .byte (1 : Int32) [(.int (lat8 x1c))] (.int 0)) ∧ (h0.size ≤ e0)
theorem rm5_14 (l : Launch) (Z : State) (a0 : Array Value) (hw : HW a0 Z) (a1c : Addr) (a2c : Addr) (ka2c : ClassId) (x1c : Int32) (x2c : Int32) (h0 : Heap) (n0 : Nat) (Z0 : n0 ≤ h0.size) (P0 : Exa Z h0 a1c "java/lang/String") (P1 : Fld Z h0 a1c "java/lang/String" "coder" "B" (.int 0)) (P2 : Fld Z h0 a1c "java/lang/String" "value" "[B" .null) (P3 : Arv Z h0 a2c ka2c .char (1 : Int32) [(.int x1c)] (.int 0)) (P4 : Sta Z h0 "java/lang/String" "COMPACT_STRINGS" "Z" (.int x2c)) (g_a1c : n0 ≤ a1c) (u0 : ¬ (x2c = (0 : Int32))) (u1 : ¬ ((255 : Int32) < x1c)) :
  MM l Z Y5 jdk_42_method_149_code 6 none 2 1 1 35 #[(.ref a1c), (.ref a2c), (.int 0), (.int 1), .null] h0 (Q5_14 Z a1c a2c ka2c x1c x2c h0 n0) := by
 refine own_start (fun m => (mkF m 0 (Sh0 a1c a2c 0 1) [])) (plainFor_of_name pn_java_lang_String) (by simp [entryFrame, mkF, argsToLocals, Value.category]) n0 ?_
 intro p e s m below meth c s₁ Bd hx hby hml hZ hown hnm X0 e0 N0
 refine GoW.sg (mkF m 1 (Sh0 a1c a2c 0 1) [(.ref a1c)]) (fun t k => XS.aloadN X0.here hx rfl (hb hby d5_0) rfl rfl k) ?_
 obtain ⟨T105, X105, e105, st105⟩ := initO X0 hx hZ hown (ww hw 22 rfl) (ww hw 23 rfl) (ww hw 24 rfl) e0 (g := (mkF m 1 (Sh0 a1c a2c 0 1) [(.ref a1c)])) rfl (by rw [hml]; rfl) rfl (hb hby d5_1) (by decide) (W := 0) (by show 2 * 0 + _ ≤ _; exact Nat.le_of_eq rfl) (by decide)
 refine GoW.sg (mkF m 4 (Sh0 a1c a2c 0 1) []) (fun t k => st105 t k) ?_
 refine GoW.sg (mkF m 27 (Sh0 a1c a2c 0 1) []) (fun t k => XS.iloadN X105.here hx rfl (hb hby d5_4) rfl (XS.ifYes X105.here hx rfl (pc0 := 5) (pc' := 27) rfl (hb hby d5_5) rfl (by decide) (by decide) (by decide) k)) ?_
 obtain ⟨T106, X106, e106, st106⟩ := getS (host := "") X105 hx hZ hown (ww hw 47 rfl) Via.refl e105 P4 (g := (mkF m 27 (Sh0 a1c a2c 0 1) [])) rfl (hb hby d5_27)
 refine GoW.sg (mkF m 30 (Sh0 a1c a2c 0 1) [(.int x2c)]) (fun t k => st106 t k) ?_
 refine GoW.sg (mkF m 36 (Sh0 a1c a2c 0 1) [(.int 1), (.int 0), (.ref a2c)]) (fun t k => XS.ifNo X106.here hx rfl (hb hby d5_30) rfl ((if0 _ _).trans (feq u0).1) (XS.aloadN X106.here hx rfl (hb hby d5_33) rfl rfl (XS.iloadN X106.here hx rfl (hb hby d5_34) rfl (XS.iloadN X106.here hx rfl (hb hby d5_35) rfl k)))) ?_
 obtain ⟨_, T111, L111, X111, hQ111, st111⟩ := own_callS X106 hx hZ hown (y := Y10) (ww hw 48 rfl) (ww hw 49 rfl) (ww hw 50 rfl) (ww hw 51 rfl) (by decide) 0 (rm10_12 l Z a0 hw a2c ka2c x1c h0 n0 Z0 P3   u1  ) (by decide) (by decide) e106 (by decide) (by decide) (g := (mkF m 36 (Sh0 a1c a2c 0 1) [(.int 1), (.int 0), (.ref a2c)])) rfl (by rw [hml]; rfl) (argsL := [(.ref a2c), (.int (0 : Int32)), (.int (1 : Int32))]) (rest := []) (lenOf pd_285bCII295bB rfl) rfl (by show 2 * 0 + _ ≤ _; exact Nat.le_of_eq rfl) (hb hby d5_36)
 obtain ⟨b111_e0, k111_ke0, rfl, N111q, K111, p111_0, hz_b111_e0⟩ := hQ111
 have sz_b111_e0 : h0.size ≤ b111_e0 := Nat.le_trans (Keep.refl h0 [a1c]).1 hz_b111_e0
 have ne_a1c_b111_e0 : a1c ≠ b111_e0 := Nat.ne_of_lt (Nat.lt_of_lt_of_le P0.lt hz_b111_e0)
 have N111 := Fr.app N0 N111q
 have f111_1 := P0.keep K111
 have f111_2 := P1.keep K111 nin0
 have f111_3 := P2.keep K111 nin0
 have f111_6 := (Keep.refl h0 [a1c]).trans K111 all0
 refine GoW.sg (mkF m 39 (Sh0 a1c a2c 0 1) [(.ref b111_e0)]) (fun t k => st111 t k) ?_
 refine GoW.sg (mkF m 45 (Sh12 a1c a2c 0 1 b111_e0) [(.int 1), (.ref b111_e0), (.ref a1c)]) (fun t k => XS.astore X111.here hx rfl (hb hby d5_39) rfl rfl (l' := (Sh12 a1c a2c 0 1 b111_e0)) rfl (XS.aloadN X111.here hx rfl (hb hby d5_41) rfl rfl (XS.aload X111.here hx rfl (hb hby d5_42) rfl rfl (XS.iloadN X111.here hx rfl (hb hby d5_44) rfl k)))) ?_
 obtain ⟨_, T113, L113, X113, hQ113, st113⟩ := own_callS X111 hx hZ hown (y := Y12) (ww hw 55 rfl) (ww hw 56 rfl) (ww hw 50 rfl) (ww hw 57 rfl) (by decide) 1 (rm12_13 l Z a0 hw b111_e0 k111_ke0 (lat8 x1c) T111.heap n0  p111_0     ) (by decide) (by decide) rfl (by decide) (by decide) (g := (mkF m 45 (Sh12 a1c a2c 0 1 b111_e0) [(.int 1), (.ref b111_e0), (.ref a1c)])) rfl (by rw [hml]; rfl) (argsL := [(.ref b111_e0), (.int (1 : Int32))]) (rest := [(.ref a1c)]) (lenOf pd_285bBI29B rfl) rfl (by show 2 * 0 + _ ≤ _; exact Nat.le_of_eq rfl) (hb hby d5_45)
 obtain ⟨rfl, N113q, e113⟩ := hQ113
 have N113 := Fr.app N111 N113q
 refine GoW.sg (mkF m 48 (Sh12 a1c a2c 0 1 b111_e0) [(.int 0), (.ref a1c)]) (fun t k => st113 t k) ?_
 obtain ⟨T114, h114, X114, e114, W114, st114⟩ := putF X113 hx hZ hown (host := "") (Or.inl (ww hw 32 rfl)) Via.refl e113 f111_2 f111_1 (Or.inr ⟨(ww hw 28 rfl), rfl, hnm⟩) (ww hw 12 rfl) (ty := .byte) (by decide) rfl rfl (g := (mkF m 48 (Sh12 a1c a2c 0 1 b111_e0) [(.int 0), (.ref a1c)])) rfl rfl (hb hby d5_48)
 have N114 := Fr.snoc X114 N113 g_a1c
 have f114_8 := f111_1.wr W114
 have f114_9 := f111_3.other W114 (Or.inr (slot_ne (t := (.array .byte)) (t' := .byte) (Or.inr (ww hw 27 rfl)) (Or.inr (ww hw 28 rfl)) (by decide) (by decide) (by decide)))
 have f114_11 := f111_6.wr W114 (Or.inl (List.mem_of_getElem? (i := 0) rfl))
 have f114_13 := p111_0.other W114 (Ne.symm ne_a1c_b111_e0)
 have F114coder : Fld Z h114 a1c "java/lang/String" "coder" "B" (.int (0 : Int32)) := f111_2.same W114
 refine GoW.sg (mkF m 51 (Sh12 a1c a2c 0 1 b111_e0) []) (fun t k => st114 t k) ?_
 refine GoW.sg (mkF m 54 (Sh12 a1c a2c 0 1 b111_e0) [(.ref b111_e0), (.ref a1c)]) (fun t k => XS.aloadN X114.here hx rfl (hb hby d5_51) rfl rfl (XS.aload X114.here hx rfl (hb hby d5_52) rfl rfl k)) ?_
 obtain ⟨T115, h115, X115, e115, W115, st115⟩ := putF X114 hx hZ hown (host := "") (Or.inl (ww hw 31 rfl)) Via.refl e114 f114_9 f114_8 (Or.inr ⟨(ww hw 27 rfl), rfl, hnm⟩) (ww hw 12 rfl) (ty := (.array .byte)) (by decide) rfl rfl (g := (mkF m 54 (Sh12 a1c a2c 0 1 b111_e0) [(.ref b111_e0), (.ref a1c)])) rfl rfl (hb hby d5_54)
 have N115 := Fr.snoc X115 N114 g_a1c
 have f115_14 := f114_8.wr W115
 have f115_15 := F114coder.other W115 (Or.inr (slot_ne (t := .byte) (t' := (.array .byte)) (Or.inr (ww hw 28 rfl)) (Or.inr (ww hw 27 rfl)) (by decide) (by decide) (by decide)))
 have f115_17 := f114_11.wr W115 (Or.inl (List.mem_of_getElem? (i := 0) rfl))
 have f115_19 := f114_13.other W115 (Ne.symm ne_a1c_b111_e0)
 have F115value : Fld Z h115 a1c "java/lang/String" "value" "[B" (.ref b111_e0) := f114_9.same W115
 refine GoW.sg (mkF m 57 (Sh12 a1c a2c 0 1 b111_e0) []) (fun t k => st115 t k) ?_
 refine GoW.retV X115 hx Bd.returns (hb hby d5_57) Bd.notSynchronized ?_ (by decide) (by decide)
 rw [e115]
 exact ⟨b111_e0, k111_ke0, rfl, N115, f115_17, f115_14, f115_15, F115value, f115_19, sz_b111_e0⟩
def Q4_16 (Z : State) (a1c : Addr) (a2c : Addr) (ka2c : ClassId) (x1c : Int32) (x2c : Int32) (h0 : Heap) (n0 : Nat) (v : Option Value) (h : Heap) (L : List Loc) : Prop := ∃ e0 : Addr, ∃ ke0 : ClassId, v = none ∧ Fr n0 L ∧ (Keep h0 h [a1c]) ∧ (Exa Z h a1c "java/lang/String") ∧ (Fld Z h a1c "java/lang/String" "coder" "B" (.int 1)) ∧ (Fld Z h a1c "java/lang/String" "value" "[B" (.ref e0)) ∧ (Arv Z h e0 ke0 .byte (2 : Int32) [(.int (lo8 x1c)), (.int (hi8 x1c))] (.int 0)) ∧ (h0.size ≤ e0)
theorem rm4_16 (l : Launch) (Z : State) (a0 : Array Value) (hw : HW a0 Z) (a1c : Addr) (a2c : Addr) (ka2c : ClassId) (x1c : Int32) (x2c : Int32) (h0 : Heap) (n0 : Nat) (Z0 : n0 ≤ h0.size) (P0 : Exa Z h0 a1c "java/lang/String") (P1 : Fld Z h0 a1c "java/lang/String" "coder" "B" (.int 0)) (P2 : Fld Z h0 a1c "java/lang/String" "value" "[B" .null) (P3 : Arv Z h0 a2c ka2c .char (1 : Int32) [(.int x1c)] (.int 0)) (P4 : Sta Z h0 "java/lang/String" "COMPACT_STRINGS" "Z" (.int x2c)) (P5 : Sta Z h0 "java/lang/StringUTF16" "$assertionsDisabled" "Z" (.int 1)) (P6 : Sta Z h0 "java/lang/StringUTF16" "HI_BYTE_SHIFT" "I" (.int 0)) (P7 : Sta Z h0 "java/lang/StringUTF16" "LO_BYTE_SHIFT" "I" (.int 8)) (g_a1c : n0 ≤ a1c) (u0 : ¬ (x1c < (0 : Int32))) (u1 : ¬ ((65535 : Int32) < x1c)) (u2 : ¬ (x2c = (0 : Int32))) (u3 : (255 : Int32) < x1c) :
  MM l Z Y4 jdk_42_method_3_code 2 none 5 2 3 74 #[(.ref a1c), (.ref a2c)] h0 (Q4_16 Z a1c a2c ka2c x1c x2c h0 n0) := by
 refine own_start (fun m => (mkF m 0 #[.val (.ref a1c), .val (.ref a2c)] [])) (plainFor_of_name pn_java_lang_String) (by simp [entryFrame, mkF, argsToLocals, Value.category]) n0 ?_
 intro p e s m below meth c s₁ Bd hx hby hml hZ hown hnm X0 e0 N0
 refine GoW.sg (mkF m 4 #[.val (.ref a1c), .val (.ref a2c)] [(.ref a2c), (.int 0), (.ref a2c), (.ref a1c)]) (fun t k => XS.aloadN X0.here hx rfl (hb hby d4_0) rfl rfl (XS.aloadN X0.here hx rfl (hb hby d4_1) rfl rfl (XS.iconst X0.here hx rfl (hb hby d4_2) (XS.aloadN X0.here hx rfl (hb hby d4_3) rfl rfl k)))) ?_
 obtain ⟨cl127, Ar127, q127, Sz127, Nn127, Hh127, Gg127⟩ := id P3
 have st127 := X0.arraylength hx (hq_ e0 Ar127.1) (State.isArrayOf_alike hZ.alike Ar127.2.1) (g := (mkF m 4 #[.val (.ref a1c), .val (.ref a2c)] [(.ref a2c), (.int 0), (.ref a2c), (.ref a1c)])) rfl rfl (hb hby d4_4)
 rw [len_of Sz127 Nn127] at st127
 refine GoW.sg (mkF m 5 #[.val (.ref a1c), .val (.ref a2c)] [(.int 1), (.int 0), (.ref a2c), (.ref a1c)]) (fun t k => st127 t k) ?_
 refine GoW.sg (mkF m 6 #[.val (.ref a1c), .val (.ref a2c)] [.null, (.int 1), (.int 0), (.ref a2c), (.ref a1c)]) (fun t k => XS.aconstNull X0.here hx rfl (hb hby d4_5) k) ?_
 obtain ⟨_, T128, L128, X128, hQ128, st128⟩ := own_spec X0 hx hZ (y := Y5) rfl hown (ww hw 18 rfl) (ww hw 19 rfl) (ww hw 13 rfl) (ww hw 21 rfl) (by decide) 0 (a := a1c) (rm5_9 l Z a0 hw a1c a2c ka2c x1c x2c h0 n0 Z0 P0 P1 P2 P3 P4 P5 P6 P7 g_a1c  u0 u1 u2 u3  ) (by decide) (by decide) e0 (by decide) (by decide) (g := (mkF m 6 #[.val (.ref a1c), .val (.ref a2c)] [.null, (.int 1), (.int 0), (.ref a2c), (.ref a1c)])) rfl (by rw [hml]; rfl) (argsL := [(.ref a2c), (.int (0 : Int32)), (.int (1 : Int32)), .null]) (rest := []) (lenOf pd_285bCIILjava2flang2fVoid3b29V rfl) rfl (by show 2 * 0 + _ ≤ _; exact Nat.le_of_eq rfl) (hb hby d4_6)
 obtain ⟨b128_e0, k128_ke0, rfl, N128q, K128, p128_0, p128_1, p128_2, p128_3, hz_b128_e0⟩ := hQ128
 have sz_b128_e0 : h0.size ≤ b128_e0 := Nat.le_trans (Keep.refl h0 [a1c]).1 hz_b128_e0
 have N128 := Fr.app N0 N128q
 have f128_5 := (Keep.refl h0 [a1c]).trans K128 (allS (Or.inl (List.mem_of_getElem? (i := 0) rfl)) all0)
 refine GoW.sg (mkF m 9 #[.val (.ref a1c), .val (.ref a2c)] []) (fun t k => st128 t k) ?_
 refine GoW.retV X128 hx Bd.returns (hb hby d4_9) Bd.notSynchronized ?_ (by decide) (by decide)
 exact ⟨b128_e0, k128_ke0, rfl, N128, f128_5, p128_0, p128_1, p128_2, p128_3, sz_b128_e0⟩
def Q4_17 (Z : State) (a1c : Addr) (a2c : Addr) (ka2c : ClassId) (x1c : Int32) (x2c : Int32) (h0 : Heap) (n0 : Nat) (v : Option Value) (h : Heap) (L : List Loc) : Prop := ∃ e0 : Addr, ∃ ke0 : ClassId, v = none ∧ Fr n0 L ∧ (Keep h0 h [a1c]) ∧ (Exa Z h a1c "java/lang/String") ∧ (Fld Z h a1c "java/lang/String" "coder" "B" (.int 0)) ∧ (Fld Z h a1c "java/lang/String" "value" "[B" (.ref e0)) ∧ (Arv Z h e0 ke0 .byte (1 : Int32) [(.int (lat8 x1c))] (.int 0)) ∧ (h0.size ≤ e0)
theorem rm4_17 (l : Launch) (Z : State) (a0 : Array Value) (hw : HW a0 Z) (a1c : Addr) (a2c : Addr) (ka2c : ClassId) (x1c : Int32) (x2c : Int32) (h0 : Heap) (n0 : Nat) (Z0 : n0 ≤ h0.size) (P0 : Exa Z h0 a1c "java/lang/String") (P1 : Fld Z h0 a1c "java/lang/String" "coder" "B" (.int 0)) (P2 : Fld Z h0 a1c "java/lang/String" "value" "[B" .null) (P3 : Arv Z h0 a2c ka2c .char (1 : Int32) [(.int x1c)] (.int 0)) (P4 : Sta Z h0 "java/lang/String" "COMPACT_STRINGS" "Z" (.int x2c)) (g_a1c : n0 ≤ a1c) (u0 : ¬ (x2c = (0 : Int32))) (u1 : ¬ ((255 : Int32) < x1c)) :
  MM l Z Y4 jdk_42_method_3_code 2 none 5 2 3 74 #[(.ref a1c), (.ref a2c)] h0 (Q4_17 Z a1c a2c ka2c x1c x2c h0 n0) := by
 refine own_start (fun m => (mkF m 0 #[.val (.ref a1c), .val (.ref a2c)] [])) (plainFor_of_name pn_java_lang_String) (by simp [entryFrame, mkF, argsToLocals, Value.category]) n0 ?_
 intro p e s m below meth c s₁ Bd hx hby hml hZ hown hnm X0 e0 N0
 refine GoW.sg (mkF m 4 #[.val (.ref a1c), .val (.ref a2c)] [(.ref a2c), (.int 0), (.ref a2c), (.ref a1c)]) (fun t k => XS.aloadN X0.here hx rfl (hb hby d4_0) rfl rfl (XS.aloadN X0.here hx rfl (hb hby d4_1) rfl rfl (XS.iconst X0.here hx rfl (hb hby d4_2) (XS.aloadN X0.here hx rfl (hb hby d4_3) rfl rfl k)))) ?_
 obtain ⟨cl131, Ar131, q131, Sz131, Nn131, Hh131, Gg131⟩ := id P3
 have st131 := X0.arraylength hx (hq_ e0 Ar131.1) (State.isArrayOf_alike hZ.alike Ar131.2.1) (g := (mkF m 4 #[.val (.ref a1c), .val (.ref a2c)] [(.ref a2c), (.int 0), (.ref a2c), (.ref a1c)])) rfl rfl (hb hby d4_4)
 rw [len_of Sz131 Nn131] at st131
 refine GoW.sg (mkF m 5 #[.val (.ref a1c), .val (.ref a2c)] [(.int 1), (.int 0), (.ref a2c), (.ref a1c)]) (fun t k => st131 t k) ?_
 refine GoW.sg (mkF m 6 #[.val (.ref a1c), .val (.ref a2c)] [.null, (.int 1), (.int 0), (.ref a2c), (.ref a1c)]) (fun t k => XS.aconstNull X0.here hx rfl (hb hby d4_5) k) ?_
 obtain ⟨_, T132, L132, X132, hQ132, st132⟩ := own_spec X0 hx hZ (y := Y5) rfl hown (ww hw 18 rfl) (ww hw 19 rfl) (ww hw 13 rfl) (ww hw 21 rfl) (by decide) 0 (a := a1c) (rm5_14 l Z a0 hw a1c a2c ka2c x1c x2c h0 n0 Z0 P0 P1 P2 P3 P4 g_a1c  u0 u1  ) (by decide) (by decide) e0 (by decide) (by decide) (g := (mkF m 6 #[.val (.ref a1c), .val (.ref a2c)] [.null, (.int 1), (.int 0), (.ref a2c), (.ref a1c)])) rfl (by rw [hml]; rfl) (argsL := [(.ref a2c), (.int (0 : Int32)), (.int (1 : Int32)), .null]) (rest := []) (lenOf pd_285bCIILjava2flang2fVoid3b29V rfl) rfl (by show 2 * 0 + _ ≤ _; exact Nat.le_of_eq rfl) (hb hby d4_6)
 obtain ⟨b132_e0, k132_ke0, rfl, N132q, K132, p132_0, p132_1, p132_2, p132_3, hz_b132_e0⟩ := hQ132
 have sz_b132_e0 : h0.size ≤ b132_e0 := Nat.le_trans (Keep.refl h0 [a1c]).1 hz_b132_e0
 have N132 := Fr.app N0 N132q
 have f132_2 := (Keep.refl h0 [a1c]).trans K132 (allS (Or.inl (List.mem_of_getElem? (i := 0) rfl)) all0)
 refine GoW.sg (mkF m 9 #[.val (.ref a1c), .val (.ref a2c)] []) (fun t k => st132 t k) ?_
 refine GoW.retV X132 hx Bd.returns (hb hby d4_9) Bd.notSynchronized ?_ (by decide) (by decide)
 exact ⟨b132_e0, k132_ke0, rfl, N132, f132_2, p132_0, p132_1, p132_2, p132_3, sz_b132_e0⟩
def QS1 (Z : State) (a1 : Addr) (c0 : Int32) (h0 : Heap) (n0 : Nat) (v : Option Value) (h : Heap) (L : List Loc) : Prop := v = none ∧ Fr n0 L ∧ Keep h0 h [a1] ∧ Exa Z h a1 "java/lang/String" ∧ Str1 Z h a1 c0
theorem rmS1 (l : Launch) (Z : State) (a0 : Array Value) (hw : HW a0 Z) (a1 a2 : Addr) (k2 : ClassId) (c0 : Int32) (cs : Int32) (h0 : Heap) (n0 : Nat) (Z0 : n0 ≤ h0.size) (PE : Exa Z h0 a1 "java/lang/String") (PV : Fld Z h0 a1 "java/lang/String" "value" "[B" .null) (PK : Fld Z h0 a1 "java/lang/String" "coder" "B" (.int (0 : Int32))) (PR : Arv Z h0 a2 k2 .char (1 : Int32) [(.int c0)] (.int (0 : Int32))) (PC : Sta Z h0 "java/lang/String" "COMPACT_STRINGS" "Z" (.int cs)) (PA : Sta Z h0 "java/lang/StringUTF16" "$assertionsDisabled" "Z" (.int (1 : Int32))) (PH : Sta Z h0 "java/lang/StringUTF16" "HI_BYTE_SHIFT" "I" (.int (0 : Int32))) (PL : Sta Z h0 "java/lang/StringUTF16" "LO_BYTE_SHIFT" "I" (.int (8 : Int32))) (g_a1 : n0 ≤ a1) (ne_a1_a2 : a1 ≠ a2) (lo_c0 : ¬ (c0 < (0 : Int32))) (hi_c0 : ¬ ((65535 : Int32) < c0)) (ncs : ¬ (cs = (0 : Int32))) :
  MM l Z Y4 jdk_42_method_3_code 2 none 5 2 3 74 #[(.ref a1), (.ref a2)] h0 (QS1 Z a1 c0 h0 n0) := by
  by_cases b0 : (255 : Int32) < c0
  · exact (rm4_16 l Z a0 hw a1 a2 k2 c0 cs h0 n0 Z0 PE PK PV PR PC PA PH PL g_a1  lo_c0 hi_c0 ncs b0).mono (fun _ _ h => h) (fun _ _ _ _ _ h => h) (fun _ _ _ _ _ h => by obtain ⟨v, L, q1, ⟨e0, ke0, xr, xN, xK, xE, xC, xV, xA, _⟩, q3⟩ := h; exact ⟨v, L, q1, ⟨xr, xN, xK, xE, Or.inr ⟨e0, ke0, xV, xC, xA⟩⟩, q3⟩)
  · skip
    exact (rm4_17 l Z a0 hw a1 a2 k2 c0 cs h0 n0 Z0 PE PK PV PR PC g_a1  ncs b0).mono (fun _ _ h => h) (fun _ _ _ _ _ h => h) (fun _ _ _ _ _ h => by obtain ⟨v, L, q1, ⟨e0, ke0, xr, xN, xK, xE, xC, xV, xA, _⟩, q3⟩ := h; exact ⟨v, L, q1, ⟨xr, xN, xK, xE, Or.inl ⟨e0, ke0, xV, xC, xA, b0⟩⟩, q3⟩)
def Q11_18 (Z : State) (a1c : Addr) (a2c : Addr) (ka1c : ClassId) (x1c : Int32) (x2c : Int32) (h0 : Heap) (n0 : Nat) (v : Option Value) (h : Heap) (L : List Loc) : Prop := v = some (.int 0) ∧ Fr n0 L ∧ (h = h0)
theorem rm11_18 (l : Launch) (Z : State) (a0 : Array Value) (hw : HW a0 Z) (a1c : Addr) (a2c : Addr) (ka1c : ClassId) (x1c : Int32) (x2c : Int32) (h0 : Heap) (n0 : Nat) (P0 : Arv Z h0 a1c ka1c .char (2 : Int32) [(.int x1c), (.int x2c)] (.int 0)) (u0 : (255 : Int32) < x1c) :
  MM l Z Y11 jdk_52_method_21_code 7 (some .int) 0 0 0 0 #[(.ref a1c), (.int 0), (.ref a2c), (.int 0), (.int 2)] h0 (Q11_18 Z a1c a2c ka1c x1c x2c h0 n0) := by
 refine own_start (fun m => (mkF m 0 (Sh3 a1c 0 a2c 0 2) [])) (plainFor_of_name pn_java_lang_StringUTF16) (by simp [entryFrame, mkF, argsToLocals, Value.category]) n0 ?_
 intro p e s m below meth c s₁ Bd hx hby hml hZ hown hnm X0 e0 N0
 refine GoW.sg (mkF m 12 (Sh4 a1c 0 a2c 0 2 0) [(.int 0), (.ref a1c)]) (fun t k => XS.iconst X0.here hx rfl (hb hby d11_0) (XS.istore X0.here hx rfl (hb hby d11_1) rfl (l' := (Sh4 a1c 0 a2c 0 2 0)) rfl (XS.iload X0.here hx rfl (hb hby d11_3) rfl (XS.iload X0.here hx rfl (hb hby d11_5) rfl (XS.icmpNo X0.here hx rfl (hb hby d11_7) rfl (by decide) (XS.aloadN X0.here hx rfl (hb hby d11_10) rfl rfl (XS.iloadN X0.here hx rfl (hb hby d11_11) rfl k))))))) ?_
 obtain ⟨cl138, Ar138, q138, Sz138, Nn138, Hh138, Gg138⟩ := id P0
 have hin138 : ¬ ((0 : Int32) < 0 ∨ cl138.slots.size ≤ ((0 : Int32)).toNatClampNeg) := inb_of Sz138 ⟨by decide, by decide⟩
 refine GoW.sg (mkF m 13 (Sh4 a1c 0 a2c 0 2 0) [(.int x1c)]) (fun t k => X0.caload hx (j := (0 : Int32)) (v := (.int x1c)) (hq_ e0 Ar138.1) (State.isArrayOf_alike hZ.alike Ar138.2.1) Ar138.2.2 hin138 (Hh138.at hin138 rfl) (g := (mkF m 12 (Sh4 a1c 0 a2c 0 2 0) [(.int 0), (.ref a1c)])) rfl rfl (hb hby d11_12) t k) ?_
 refine GoW.sg (mkF m 25 (Sh5 a1c 0 a2c 0 2 0 x1c) [(.int 0)]) (fun t k => XS.istore X0.here hx rfl (hb hby d11_13) rfl (l' := (Sh5 a1c 0 a2c 0 2 0 x1c)) rfl (XS.iload X0.here hx rfl (hb hby d11_15) rfl (XS.sipush X0.here hx rfl (hb hby d11_17) (XS.icmpNo X0.here hx rfl (hb hby d11_20) rfl (tlt u0).2.2.2 (XS.iload X0.here hx rfl (hb hby d11_23) rfl k))))) ?_
 refine GoW.retI X0 hx Bd.returns (hb hby d11_25) Bd.notSynchronized ?_ (by decide) (by decide)
 rw [e0]
 exact ⟨rfl, N0, rfl⟩
def Q15_19 (Z : State)  (h0 : Heap) (n0 : Nat) (v : Option Value) (h : Heap) (L : List Loc) : Prop := v = some (.int 4) ∧ Fr n0 L ∧ (h = h0)
theorem rm15_19 (l : Launch) (Z : State) (a0 : Array Value) (hw : HW a0 Z) (h0 : Heap) (n0 : Nat) :
  MM l Z Y15 jdk_52_method_3_code 1 (some .int) 0 0 0 0 #[(.int 2)] h0 (Q15_19 Z  h0 n0) := by
 refine own_start (fun m => (mkF m 0 #[.val (.int 2)] [])) (plainFor_of_name pn_java_lang_StringUTF16) (by simp [entryFrame, mkF, argsToLocals, Value.category]) n0 ?_
 intro p e s m below meth c s₁ Bd hx hby hml hZ hown hnm X0 e0 N0
 refine GoW.sg (mkF m 13 #[.val (.int 2)] [(.int 2)]) (fun t k => XS.iloadN X0.here hx rfl (hb hby d15_0) rfl (XS.ifYes X0.here hx rfl (pc0 := 1) (pc' := 12) rfl (hb hby d15_1) rfl (by decide) (by decide) (by decide) (XS.iloadN X0.here hx rfl (hb hby d15_12) rfl k))) ?_
 refine GoW.sg (mkF m 15 #[.val (.int 2)] [(.int 1073741823), (.int 2)]) (fun t k => X0.ldcInt hx hown (mvT hZ (ww hw 67 rfl)) (g := (mkF m 13 #[.val (.int 2)] [(.int 2)])) rfl (hb hby d15_13) t k) ?_
 refine GoW.sg (mkF m 57 #[.val (.int 2)] [(.int 1), (.int 2)]) (fun t k => XS.icmpYes X0.here hx rfl (pc0 := 15) (pc' := 55) rfl (hb hby d15_15) rfl (by decide) (by decide) (by decide) (XS.iloadN X0.here hx rfl (hb hby d15_55) rfl (XS.iconst X0.here hx rfl (hb hby d15_56) k))) ?_
 refine GoW.st (fun t k => XS.ishl X0.here hx rfl (hb hby d15_57) rfl k) ?_
 rw [show ((2 : Int32) <<< ((1 : Int32) &&& 31)) = (4 : Int32) from by decide]
 show GoW p e below s (Q15_19 Z  h0 n0) 0 0 (s₁.setTop (mkF m 58 #[.val (.int 2)] [(.int 4)]))
 refine GoW.retI X0 hx Bd.returns (hb hby d15_58) Bd.notSynchronized ?_ (by decide) (by decide)
 rw [e0]
 exact ⟨rfl, N0, rfl⟩
def Q14_20 (Z : State)  (h0 : Heap) (n0 : Nat) (v : Option Value) (h : Heap) (L : List Loc) : Prop := ∃ e0 : Addr, ∃ ke0 : ClassId, v = some (.ref e0) ∧ Fr n0 L ∧ (Keep h0 h []) ∧ (Arv Z h e0 ke0 .byte (4 : Int32) [(.int 0), (.int 0), (.int 0), (.int 0)] (.int 0)) ∧ (h0.size ≤ e0)
theorem rm14_20 (l : Launch) (Z : State) (a0 : Array Value) (hw : HW a0 Z) (h0 : Heap) (n0 : Nat) (Z0 : n0 ≤ h0.size) :
  MM l Z Y14 jdk_52_method_2_code 1 (some (.array .byte)) 1 1 4 12 #[(.int 2)] h0 (Q14_20 Z  h0 n0) := by
 refine own_start (fun m => (mkF m 0 #[.val (.int 2)] [])) (plainFor_of_name pn_java_lang_StringUTF16) (by simp [entryFrame, mkF, argsToLocals, Value.category]) n0 ?_
 intro p e s m below meth c s₁ Bd hx hby hml hZ hown hnm X0 e0 N0
 refine GoW.sg (mkF m 1 #[.val (.int 2)] [(.int 2)]) (fun t k => XS.iloadN X0.here hx rfl (hb hby d14_0) rfl k) ?_
 obtain ⟨_, T142, L142, X142, hQ142, st142⟩ := own_callS X0 hx hZ hown (y := Y15) (ww hw 64 rfl) (ww hw 65 rfl) (ww hw 50 rfl) (ww hw 66 rfl) (by decide) 0 (rm15_19 l Z a0 hw   h0 n0       ) (by decide) (by decide) e0 (by decide) (by decide) (g := (mkF m 1 #[.val (.int 2)] [(.int 2)])) rfl (by rw [hml]; rfl) (argsL := [(.int (2 : Int32))]) (rest := []) (lenOf pd_28I29I rfl) rfl (by show 2 * 0 + _ ≤ _; exact Nat.le_of_eq rfl) (hb hby d14_1)
 obtain ⟨rfl, N142q, e142⟩ := hQ142
 have N142 := Fr.app N0 N142q
 refine GoW.sg (mkF m 4 #[.val (.int 2)] [(.int 4)]) (fun t k => st142 t k) ?_
 obtain ⟨T143, h143, k143, X143, e143, E143, A143, st143⟩ := newP X142 hx hZ (ww hw 26 rfl) e142 (g := (mkF m 4 #[.val (.int 2)] [(.int 4)])) rfl (hb hby d14_4) rfl (by decide) (cap := 4) (by decide) (by decide) (by decide) (by decide)
 obtain ⟨b143, g143⟩ : ∃ z, z = h0.size := ⟨_, rfl⟩
 rw [← g143] at A143 st143
 have sz_b143 : h0.size ≤ b143 := Nat.le_trans (Keep.refl h0 []).1 (Nat.le_of_eq g143.symm)
 have f143_1 := (Keep.refl h0 []).ext E143
 have V143 : Arv Z h143 b143 k143 .byte (4 : Int32) [(.int (0 : Int32)), (.int (0 : Int32)), (.int (0 : Int32)), (.int (0 : Int32))] (.int (0 : Int32)) := (Arv.new A143 (by decide)).pad (pad_rep [] (.int (0 : Int32)) 4)
 refine GoW.sg (mkF m 6 #[.val (.int 2)] [(.ref b143)]) (fun t k => st143 t k) ?_
 refine GoW.retA X143 hx Bd.returns rfl rfl rfl (hb hby d14_6) Bd.notSynchronized ?_ (by decide) (by decide)
 rw [e143]
 exact ⟨b143, k143, rfl, N142, f143_1, V143, sz_b143⟩
def Q16_21 (Z : State) (a1c : Addr) (x1c : Int32) (ka1c : ClassId) (h0 : Heap) (n0 : Nat) (v : Option Value) (h : Heap) (L : List Loc) : Prop := v = none ∧ Fr n0 L ∧ (Keep h0 h [a1c]) ∧ (Arv Z h a1c ka1c .byte (4 : Int32) [(.int (lo8 x1c)), (.int (hi8 x1c)), (.int 0), (.int 0)] (.int 0))
theorem rm16_21 (l : Launch) (Z : State) (a0 : Array Value) (hw : HW a0 Z) (a1c : Addr) (x1c : Int32) (ka1c : ClassId) (h0 : Heap) (n0 : Nat) (P0 : Arv Z h0 a1c ka1c .byte (4 : Int32) [(.int 0), (.int 0), (.int 0), (.int 0)] (.int 0)) (P1 : Sta Z h0 "java/lang/StringUTF16" "$assertionsDisabled" "Z" (.int 1)) (P2 : Sta Z h0 "java/lang/StringUTF16" "HI_BYTE_SHIFT" "I" (.int 0)) (P3 : Sta Z h0 "java/lang/StringUTF16" "LO_BYTE_SHIFT" "I" (.int 8)) (g_a1c : n0 ≤ a1c) :
  MM l Z Y16 jdk_52_method_4_code 3 none 0 0 0 0 #[(.ref a1c), (.int 0), (.int x1c)] h0 (Q16_21 Z a1c x1c ka1c h0 n0) := by
 refine own_start (fun m => (mkF m 0 (Sh10 a1c 0 x1c) [])) (plainFor_of_name pn_java_lang_StringUTF16) (by simp [entryFrame, mkF, argsToLocals, Value.category]) n0 ?_
 intro p e s m below meth c s₁ Bd hx hby hml hZ hown hnm X0 e0 N0
 obtain ⟨T151, X151, e151, st151⟩ := getS (host := "") X0 hx hZ hown (ww hw 71 rfl) Via.refl e0 P1 (g := (mkF m 0 (Sh10 a1c 0 x1c) [])) rfl (hb hby d16_0)
 refine GoW.sg (mkF m 3 (Sh10 a1c 0 x1c) [(.int 1)]) (fun t k => st151 t k) ?_
 refine GoW.sg (mkF m 30 (Sh10 a1c 0 x1c) [(.int 1), (.int 0)]) (fun t k => XS.ifYes X151.here hx rfl (pc0 := 3) (pc' := 28) rfl (hb hby d16_3) rfl (by decide) (by decide) (by decide) (XS.iloadN X151.here hx rfl (hb hby d16_28) rfl (XS.iconst X151.here hx rfl (hb hby d16_29) k))) ?_
 refine GoW.st (fun t k => XS.ishl X151.here hx rfl (hb hby d16_30) rfl k) ?_
 rw [show ((0 : Int32) <<< ((1 : Int32) &&& 31)) = (0 : Int32) from by decide]
 show GoW p e below s (Q16_21 Z a1c x1c ka1c h0 n0) 0 0 (T151.setTop (mkF m 31 (Sh10 a1c 0 x1c) [(.int 0)]))
 refine GoW.sg (mkF m 38 (Sh10 a1c 1 x1c) [(.int x1c), (.int 0), (.ref a1c)]) (fun t k => XS.istoreN X151.here hx rfl (hb hby d16_31) rfl (l' := (Sh10 a1c 0 x1c)) rfl (XS.aloadN X151.here hx rfl (hb hby d16_32) rfl rfl (XS.iloadN X151.here hx rfl (hb hby d16_33) rfl (XS.iinc X151.here hx rfl (hb hby d16_34) rfl (l' := (Sh10 a1c 1 x1c)) rfl (XS.iloadN X151.here hx rfl (hb hby d16_37) rfl k))))) ?_
 obtain ⟨T152, X152, e152, st152⟩ := getS (host := "") X151 hx hZ hown (ww hw 72 rfl) Via.refl e151 P2 (g := (mkF m 38 (Sh10 a1c 1 x1c) [(.int x1c), (.int 0), (.ref a1c)])) rfl (hb hby d16_38)
 refine GoW.sg (mkF m 41 (Sh10 a1c 1 x1c) [(.int 0), (.int x1c), (.int 0), (.ref a1c)]) (fun t k => st152 t k) ?_
 refine GoW.sg (mkF m 43 (Sh10 a1c 1 x1c) [(.int (x1c >>> ((0 : Int32) &&& 31)).toInt8.toInt32), (.int 0), (.ref a1c)]) (fun t k => XS.ishr X152.here hx rfl (hb hby d16_41) rfl (XS.i2b X152.here hx rfl (hb hby d16_42) rfl k)) ?_
 obtain ⟨cl153, Ar153, q153, Sz153, Nn153, Hh153, Gg153⟩ := P0
 have hin153 : ¬ ((0 : Int32) < 0 ∨ cl153.slots.size ≤ ((0 : Int32)).toNatClampNeg) := inb_of Sz153 ⟨by decide, by decide⟩
 obtain ⟨T153, h153, X153, e153, W153, st153⟩ := stB X152 hx hZ e152 Ar153 (j := (0 : Int32)) hin153 (g := (mkF m 43 (Sh10 a1c 1 x1c) [(.int (x1c >>> ((0 : Int32) &&& 31)).toInt8.toInt32), (.int 0), (.ref a1c)])) rfl rfl (hb hby d16_43)
 have f153_3 := P3.wr W153
 have f153_4 := (Keep.refl h0 [a1c]).wr W153 (Or.inl (List.mem_of_getElem? (i := 0) rfl))
 have V153 : Arv Z h153 a1c ka1c .byte (4 : Int32) [(.int (lo8 x1c)), (.int (0 : Int32)), (.int (0 : Int32)), (.int (0 : Int32))] (.int (0 : Int32)) := Arv.set Ar153 q153 Sz153 Nn153 Hh153 Gg153 (fits_nar_byte _) W153 0 rfl (Nat.le_of_ble_eq_true rfl)
 have N153 := Fr.snoc X153 N0 g_a1c
 refine GoW.sg (mkF m 44 (Sh10 a1c 1 x1c) []) (fun t k => st153 t k) ?_
 refine GoW.sg (mkF m 47 (Sh10 a1c 1 x1c) [(.int x1c), (.int 1), (.ref a1c)]) (fun t k => XS.aloadN X153.here hx rfl (hb hby d16_44) rfl rfl (XS.iloadN X153.here hx rfl (hb hby d16_45) rfl (XS.iloadN X153.here hx rfl (hb hby d16_46) rfl k))) ?_
 obtain ⟨T154, X154, e154, st154⟩ := getS (host := "") X153 hx hZ hown (ww hw 73 rfl) Via.refl e153 f153_3 (g := (mkF m 47 (Sh10 a1c 1 x1c) [(.int x1c), (.int 1), (.ref a1c)])) rfl (hb hby d16_47)
 refine GoW.sg (mkF m 50 (Sh10 a1c 1 x1c) [(.int 8), (.int x1c), (.int 1), (.ref a1c)]) (fun t k => st154 t k) ?_
 refine GoW.sg (mkF m 52 (Sh10 a1c 1 x1c) [(.int (x1c >>> ((8 : Int32) &&& 31)).toInt8.toInt32), (.int 1), (.ref a1c)]) (fun t k => XS.ishr X154.here hx rfl (hb hby d16_50) rfl (XS.i2b X154.here hx rfl (hb hby d16_51) rfl k)) ?_
 obtain ⟨cl155, Ar155, q155, Sz155, Nn155, Hh155, Gg155⟩ := V153
 have hin155 : ¬ ((1 : Int32) < 0 ∨ cl155.slots.size ≤ ((1 : Int32)).toNatClampNeg) := inb_of Sz155 ⟨by decide, by decide⟩
 obtain ⟨T155, h155, X155, e155, W155, st155⟩ := stB X154 hx hZ e154 Ar155 (j := (1 : Int32)) hin155 (g := (mkF m 52 (Sh10 a1c 1 x1c) [(.int (x1c >>> ((8 : Int32) &&& 31)).toInt8.toInt32), (.int 1), (.ref a1c)])) rfl rfl (hb hby d16_52)
 have f155_8 := f153_4.wr W155 (Or.inl (List.mem_of_getElem? (i := 0) rfl))
 have V155 : Arv Z h155 a1c ka1c .byte (4 : Int32) [(.int (lo8 x1c)), (.int (hi8 x1c)), (.int (0 : Int32)), (.int (0 : Int32))] (.int (0 : Int32)) := Arv.set Ar155 q155 Sz155 Nn155 Hh155 Gg155 (fits_nar_byte _) W155 1 rfl (Nat.le_of_ble_eq_true rfl)
 have N155 := Fr.snoc X155 N153 g_a1c
 refine GoW.sg (mkF m 53 (Sh10 a1c 1 x1c) []) (fun t k => st155 t k) ?_
 refine GoW.retV X155 hx Bd.returns (hb hby d16_53) Bd.notSynchronized ?_ (by decide) (by decide)
 rw [e155]
 exact ⟨rfl, N155, f155_8, V155⟩
def Q16_22 (Z : State) (a1c : Addr) (x1c : Int32) (ka1c : ClassId) (x2c : Int32) (x3c : Int32) (h0 : Heap) (n0 : Nat) (v : Option Value) (h : Heap) (L : List Loc) : Prop := v = none ∧ Fr n0 L ∧ (Keep h0 h [a1c]) ∧ (Arv Z h a1c ka1c .byte (4 : Int32) [(.int x2c), (.int x3c), (.int (lo8 x1c)), (.int (hi8 x1c))] (.int 0))
theorem rm16_22 (l : Launch) (Z : State) (a0 : Array Value) (hw : HW a0 Z) (a1c : Addr) (x1c : Int32) (ka1c : ClassId) (x2c : Int32) (x3c : Int32) (h0 : Heap) (n0 : Nat) (P0 : Arv Z h0 a1c ka1c .byte (4 : Int32) [(.int x2c), (.int x3c), (.int 0), (.int 0)] (.int 0)) (P1 : Sta Z h0 "java/lang/StringUTF16" "$assertionsDisabled" "Z" (.int 1)) (P2 : Sta Z h0 "java/lang/StringUTF16" "HI_BYTE_SHIFT" "I" (.int 0)) (P3 : Sta Z h0 "java/lang/StringUTF16" "LO_BYTE_SHIFT" "I" (.int 8)) (g_a1c : n0 ≤ a1c) :
  MM l Z Y16 jdk_52_method_4_code 3 none 0 0 0 0 #[(.ref a1c), (.int 1), (.int x1c)] h0 (Q16_22 Z a1c x1c ka1c x2c x3c h0 n0) := by
 refine own_start (fun m => (mkF m 0 (Sh10 a1c 1 x1c) [])) (plainFor_of_name pn_java_lang_StringUTF16) (by simp [entryFrame, mkF, argsToLocals, Value.category]) n0 ?_
 intro p e s m below meth c s₁ Bd hx hby hml hZ hown hnm X0 e0 N0
 obtain ⟨T163, X163, e163, st163⟩ := getS (host := "") X0 hx hZ hown (ww hw 71 rfl) Via.refl e0 P1 (g := (mkF m 0 (Sh10 a1c 1 x1c) [])) rfl (hb hby d16_0)
 refine GoW.sg (mkF m 3 (Sh10 a1c 1 x1c) [(.int 1)]) (fun t k => st163 t k) ?_
 refine GoW.sg (mkF m 30 (Sh10 a1c 1 x1c) [(.int 1), (.int 1)]) (fun t k => XS.ifYes X163.here hx rfl (pc0 := 3) (pc' := 28) rfl (hb hby d16_3) rfl (by decide) (by decide) (by decide) (XS.iloadN X163.here hx rfl (hb hby d16_28) rfl (XS.iconst X163.here hx rfl (hb hby d16_29) k))) ?_
 refine GoW.st (fun t k => XS.ishl X163.here hx rfl (hb hby d16_30) rfl k) ?_
 rw [show ((1 : Int32) <<< ((1 : Int32) &&& 31)) = (2 : Int32) from by decide]
 show GoW p e below s (Q16_22 Z a1c x1c ka1c x2c x3c h0 n0) 0 0 (T163.setTop (mkF m 31 (Sh10 a1c 1 x1c) [(.int 2)]))
 refine GoW.sg (mkF m 38 (Sh10 a1c 3 x1c) [(.int x1c), (.int 2), (.ref a1c)]) (fun t k => XS.istoreN X163.here hx rfl (hb hby d16_31) rfl (l' := (Sh10 a1c 2 x1c)) rfl (XS.aloadN X163.here hx rfl (hb hby d16_32) rfl rfl (XS.iloadN X163.here hx rfl (hb hby d16_33) rfl (XS.iinc X163.here hx rfl (hb hby d16_34) rfl (l' := (Sh10 a1c 3 x1c)) rfl (XS.iloadN X163.here hx rfl (hb hby d16_37) rfl k))))) ?_
 obtain ⟨T164, X164, e164, st164⟩ := getS (host := "") X163 hx hZ hown (ww hw 72 rfl) Via.refl e163 P2 (g := (mkF m 38 (Sh10 a1c 3 x1c) [(.int x1c), (.int 2), (.ref a1c)])) rfl (hb hby d16_38)
 refine GoW.sg (mkF m 41 (Sh10 a1c 3 x1c) [(.int 0), (.int x1c), (.int 2), (.ref a1c)]) (fun t k => st164 t k) ?_
 refine GoW.sg (mkF m 43 (Sh10 a1c 3 x1c) [(.int (x1c >>> ((0 : Int32) &&& 31)).toInt8.toInt32), (.int 2), (.ref a1c)]) (fun t k => XS.ishr X164.here hx rfl (hb hby d16_41) rfl (XS.i2b X164.here hx rfl (hb hby d16_42) rfl k)) ?_
 obtain ⟨cl165, Ar165, q165, Sz165, Nn165, Hh165, Gg165⟩ := P0
 have hin165 : ¬ ((2 : Int32) < 0 ∨ cl165.slots.size ≤ ((2 : Int32)).toNatClampNeg) := inb_of Sz165 ⟨by decide, by decide⟩
 obtain ⟨T165, h165, X165, e165, W165, st165⟩ := stB X164 hx hZ e164 Ar165 (j := (2 : Int32)) hin165 (g := (mkF m 43 (Sh10 a1c 3 x1c) [(.int (x1c >>> ((0 : Int32) &&& 31)).toInt8.toInt32), (.int 2), (.ref a1c)])) rfl rfl (hb hby d16_43)
 have f165_3 := P3.wr W165
 have f165_4 := (Keep.refl h0 [a1c]).wr W165 (Or.inl (List.mem_of_getElem? (i := 0) rfl))
 have V165 : Arv Z h165 a1c ka1c .byte (4 : Int32) [(.int x2c), (.int x3c), (.int (lo8 x1c)), (.int (0 : Int32))] (.int (0 : Int32)) := Arv.set Ar165 q165 Sz165 Nn165 Hh165 Gg165 (fits_nar_byte _) W165 2 rfl (Nat.le_of_ble_eq_true rfl)
 have N165 := Fr.snoc X165 N0 g_a1c
 refine GoW.sg (mkF m 44 (Sh10 a1c 3 x1c) []) (fun t k => st165 t k) ?_
 refine GoW.sg (mkF m 47 (Sh10 a1c 3 x1c) [(.int x1c), (.int 3), (.ref a1c)]) (fun t k => XS.aloadN X165.here hx rfl (hb hby d16_44) rfl rfl (XS.iloadN X165.here hx rfl (hb hby d16_45) rfl (XS.iloadN X165.here hx rfl (hb hby d16_46) rfl k))) ?_
 obtain ⟨T166, X166, e166, st166⟩ := getS (host := "") X165 hx hZ hown (ww hw 73 rfl) Via.refl e165 f165_3 (g := (mkF m 47 (Sh10 a1c 3 x1c) [(.int x1c), (.int 3), (.ref a1c)])) rfl (hb hby d16_47)
 refine GoW.sg (mkF m 50 (Sh10 a1c 3 x1c) [(.int 8), (.int x1c), (.int 3), (.ref a1c)]) (fun t k => st166 t k) ?_
 refine GoW.sg (mkF m 52 (Sh10 a1c 3 x1c) [(.int (x1c >>> ((8 : Int32) &&& 31)).toInt8.toInt32), (.int 3), (.ref a1c)]) (fun t k => XS.ishr X166.here hx rfl (hb hby d16_50) rfl (XS.i2b X166.here hx rfl (hb hby d16_51) rfl k)) ?_
 obtain ⟨cl167, Ar167, q167, Sz167, Nn167, Hh167, Gg167⟩ := V165
 have hin167 : ¬ ((3 : Int32) < 0 ∨ cl167.slots.size ≤ ((3 : Int32)).toNatClampNeg) := inb_of Sz167 ⟨by decide, by decide⟩
 obtain ⟨T167, h167, X167, e167, W167, st167⟩ := stB X166 hx hZ e166 Ar167 (j := (3 : Int32)) hin167 (g := (mkF m 52 (Sh10 a1c 3 x1c) [(.int (x1c >>> ((8 : Int32) &&& 31)).toInt8.toInt32), (.int 3), (.ref a1c)])) rfl rfl (hb hby d16_52)
 have f167_8 := f165_4.wr W167 (Or.inl (List.mem_of_getElem? (i := 0) rfl))
 have V167 : Arv Z h167 a1c ka1c .byte (4 : Int32) [(.int x2c), (.int x3c), (.int (lo8 x1c)), (.int (hi8 x1c))] (.int (0 : Int32)) := Arv.set Ar167 q167 Sz167 Nn167 Hh167 Gg167 (fits_nar_byte _) W167 3 rfl (Nat.le_of_ble_eq_true rfl)
 have N167 := Fr.snoc X167 N165 g_a1c
 refine GoW.sg (mkF m 53 (Sh10 a1c 3 x1c) []) (fun t k => st167 t k) ?_
 refine GoW.retV X167 hx Bd.returns (hb hby d16_53) Bd.notSynchronized ?_ (by decide) (by decide)
 rw [e167]
 exact ⟨rfl, N167, f167_8, V167⟩
def Q13_23 (Z : State) (a1c : Addr) (ka1c : ClassId) (x1c : Int32) (x2c : Int32) (h0 : Heap) (n0 : Nat) (v : Option Value) (h : Heap) (L : List Loc) : Prop := ∃ e0 : Addr, ∃ ke0 : ClassId, v = some (.ref e0) ∧ Fr n0 L ∧ (Keep h0 h []) ∧ (Arv Z h e0 ke0 .byte (4 : Int32) [(.int (lo8 x1c)), (.int (hi8 x1c)), (.int (lo8 x2c)), (.int (hi8 x2c))] (.int 0)) ∧ (h0.size ≤ e0)
theorem rm13_23 (l : Launch) (Z : State) (a0 : Array Value) (hw : HW a0 Z) (a1c : Addr) (ka1c : ClassId) (x1c : Int32) (x2c : Int32) (h0 : Heap) (n0 : Nat) (Z0 : n0 ≤ h0.size) (P0 : Arv Z h0 a1c ka1c .char (2 : Int32) [(.int x1c), (.int x2c)] (.int 0)) (P1 : Sta Z h0 "java/lang/StringUTF16" "$assertionsDisabled" "Z" (.int 1)) (P2 : Sta Z h0 "java/lang/StringUTF16" "HI_BYTE_SHIFT" "I" (.int 0)) (P3 : Sta Z h0 "java/lang/StringUTF16" "LO_BYTE_SHIFT" "I" (.int 8)) :
  MM l Z Y13 jdk_52_method_14_code 5 (some (.array .byte)) 2 1 4 24 #[(.ref a1c), (.int 0), (.int 2)] h0 (Q13_23 Z a1c ka1c x1c x2c h0 n0) := by
 refine own_start (fun m => (mkF m 0 (Sh7 a1c 0 2) [])) (plainFor_of_name pn_java_lang_StringUTF16) (by simp [entryFrame, mkF, argsToLocals, Value.category]) n0 ?_
 intro p e s m below meth c s₁ Bd hx hby hml hZ hown hnm X0 e0 N0
 refine GoW.sg (mkF m 1 (Sh7 a1c 0 2) [(.int 2)]) (fun t k => XS.iloadN X0.here hx rfl (hb hby d13_0) rfl k) ?_
 obtain ⟨_, T171, L171, X171, hQ171, st171⟩ := own_callS X0 hx hZ hown (y := Y14) (ww hw 61 rfl) (ww hw 62 rfl) (ww hw 50 rfl) (ww hw 63 rfl) (by decide) 0 (rm14_20 l Z a0 hw   h0 n0 Z0      ) (by decide) (by decide) e0 (by decide) (by decide) (g := (mkF m 1 (Sh7 a1c 0 2) [(.int 2)])) rfl (by rw [hml]; rfl) (argsL := [(.int (2 : Int32))]) (rest := []) (lenOf pd_28I295bB rfl) rfl (by show 2 * 0 + _ ≤ _; exact Nat.le_of_eq rfl) (hb hby d13_1)
 obtain ⟨b171_e0, k171_ke0, rfl, N171q, K171, p171_0, hz_b171_e0⟩ := hQ171
 have g_b171_e0 : n0 ≤ b171_e0 := Nat.le_trans Z0 hz_b171_e0
 have sz_b171_e0 : h0.size ≤ b171_e0 := Nat.le_trans (Keep.refl h0 []).1 hz_b171_e0
 have ne_a1c_b171_e0 : a1c ≠ b171_e0 := Nat.ne_of_lt (Nat.lt_of_lt_of_le P0.lt hz_b171_e0)
 have N171 := Fr.app N0 N171q
 have f171_1 := P0.keep K171 nin0
 have f171_2 := own_staK0 P1 K171
 have f171_3 := own_staK0 P2 K171
 have f171_4 := own_staK0 P3 K171
 have f171_5 := (Keep.refl h0 []).trans K171 all0
 refine GoW.sg (mkF m 4 (Sh7 a1c 0 2) [(.ref b171_e0)]) (fun t k => st171 t k) ?_
 refine GoW.sg (mkF m 17 (Sh9 a1c 0 2 b171_e0 0) [(.int 0), (.ref b171_e0)]) (fun t k => XS.astoreN X171.here hx rfl (hb hby d13_4) rfl rfl (l' := (Sh8 a1c 0 2 b171_e0)) rfl (XS.iconst X171.here hx rfl (hb hby d13_5) (XS.istore X171.here hx rfl (hb hby d13_6) rfl (l' := (Sh9 a1c 0 2 b171_e0 0)) rfl (XS.iload X171.here hx rfl (hb hby d13_8) rfl (XS.iloadN X171.here hx rfl (hb hby d13_10) rfl (XS.icmpNo X171.here hx rfl (hb hby d13_11) rfl (by decide) (XS.aloadN X171.here hx rfl (hb hby d13_14) rfl rfl (XS.iload X171.here hx rfl (hb hby d13_15) rfl k)))))))) ?_
 refine GoW.sg (mkF m 19 (Sh9 a1c 0 2 b171_e0 0) [(.int 0), (.ref a1c), (.int 0), (.ref b171_e0)]) (fun t k => XS.aloadN X171.here hx rfl (hb hby d13_17) rfl rfl (XS.iloadN X171.here hx rfl (hb hby d13_18) rfl k)) ?_
 obtain ⟨cl172, Ar172, q172, Sz172, Nn172, Hh172, Gg172⟩ := id f171_1
 have hin172 : ¬ ((0 : Int32) < 0 ∨ cl172.slots.size ≤ ((0 : Int32)).toNatClampNeg) := inb_of Sz172 ⟨by decide, by decide⟩
 refine GoW.sg (mkF m 20 (Sh9 a1c 0 2 b171_e0 0) [(.int x1c), (.int 0), (.ref b171_e0)]) (fun t k => X171.caload hx (j := (0 : Int32)) (v := (.int x1c)) (hq_ rfl Ar172.1) (State.isArrayOf_alike hZ.alike Ar172.2.1) Ar172.2.2 hin172 (Hh172.at hin172 rfl) (g := (mkF m 19 (Sh9 a1c 0 2 b171_e0 0) [(.int 0), (.ref a1c), (.int 0), (.ref b171_e0)])) rfl rfl (hb hby d13_19) t k) ?_
 obtain ⟨_, T178, L178, X178, hQ178, st178⟩ := own_callS X171 hx hZ hown (y := Y16) (ww hw 68 rfl) (ww hw 69 rfl) (ww hw 50 rfl) (ww hw 70 rfl) (by decide) 0 (rm16_21 l Z a0 hw b171_e0 x1c k171_ke0 T171.heap n0  p171_0 f171_2 f171_3 f171_4 g_b171_e0    ) (by decide) (by decide) rfl (by decide) (by decide) (g := (mkF m 20 (Sh9 a1c 0 2 b171_e0 0) [(.int x1c), (.int 0), (.ref b171_e0)])) rfl (by rw [hml]; rfl) (argsL := [(.ref b171_e0), (.int (0 : Int32)), (.int x1c)]) (rest := []) (lenOf pd_285bBII29V rfl) rfl (by show 2 * 0 + _ ≤ _; exact Nat.le_of_eq rfl) (hb hby d13_20)
 obtain ⟨rfl, N178q, K178, p178_0⟩ := hQ178
 have N178 := Fr.app N171 N178q
 have f178_7 := f171_1.keep K178 (ninS ne_a1c_b171_e0 nin0)
 have f178_8 := own_staK f171_2 K178 (allS (own_nsA p171_0) all0)
 have f178_9 := own_staK f171_3 K178 (allS (own_nsA p171_0) all0)
 have f178_10 := own_staK f171_4 K178 (allS (own_nsA p171_0) all0)
 have f178_11 := f171_5.trans K178 (allS (Or.inr sz_b171_e0) all0)
 refine GoW.sg (mkF m 23 (Sh9 a1c 0 2 b171_e0 0) []) (fun t k => st178 t k) ?_
 refine GoW.sg (mkF m 17 (Sh9 a1c 1 2 b171_e0 1) [(.int 1), (.ref b171_e0)]) (fun t k => XS.iinc X178.here hx rfl (hb hby d13_23) rfl (l' := (Sh9 a1c 1 2 b171_e0 0)) rfl (XS.iinc X178.here hx rfl (hb hby d13_26) rfl (l' := (Sh9 a1c 1 2 b171_e0 1)) rfl (XS.goto X178.here hx rfl (pc0 := 29) (pc' := 8) rfl (hb hby d13_29) (by decide) (by decide) (XS.iload X178.here hx rfl (hb hby d13_8) rfl (XS.iloadN X178.here hx rfl (hb hby d13_10) rfl (XS.icmpNo X178.here hx rfl (hb hby d13_11) rfl (by decide) (XS.aloadN X178.here hx rfl (hb hby d13_14) rfl rfl (XS.iload X178.here hx rfl (hb hby d13_15) rfl k)))))))) ?_
 refine GoW.sg (mkF m 19 (Sh9 a1c 1 2 b171_e0 1) [(.int 1), (.ref a1c), (.int 1), (.ref b171_e0)]) (fun t k => XS.aloadN X178.here hx rfl (hb hby d13_17) rfl rfl (XS.iloadN X178.here hx rfl (hb hby d13_18) rfl k)) ?_
 obtain ⟨cl179, Ar179, q179, Sz179, Nn179, Hh179, Gg179⟩ := id f178_7
 have hin179 : ¬ ((1 : Int32) < 0 ∨ cl179.slots.size ≤ ((1 : Int32)).toNatClampNeg) := inb_of Sz179 ⟨by decide, by decide⟩
 refine GoW.sg (mkF m 20 (Sh9 a1c 1 2 b171_e0 1) [(.int x2c), (.int 1), (.ref b171_e0)]) (fun t k => X178.caload hx (j := (1 : Int32)) (v := (.int x2c)) (hq_ rfl Ar179.1) (State.isArrayOf_alike hZ.alike Ar179.2.1) Ar179.2.2 hin179 (Hh179.at hin179 rfl) (g := (mkF m 19 (Sh9 a1c 1 2 b171_e0 1) [(.int 1), (.ref a1c), (.int 1), (.ref b171_e0)])) rfl rfl (hb hby d13_19) t k) ?_
 obtain ⟨_, T185, L185, X185, hQ185, st185⟩ := own_callS X178 hx hZ hown (y := Y16) (ww hw 68 rfl) (ww hw 69 rfl) (ww hw 50 rfl) (ww hw 70 rfl) (by decide) 0 (rm16_22 l Z a0 hw b171_e0 x2c k171_ke0 (lo8 x1c) (hi8 x1c) T178.heap n0  p178_0 f178_8 f178_9 f178_10 g_b171_e0    ) (by decide) (by decide) rfl (by decide) (by decide) (g := (mkF m 20 (Sh9 a1c 1 2 b171_e0 1) [(.int x2c), (.int 1), (.ref b171_e0)])) rfl (by rw [hml]; rfl) (argsL := [(.ref b171_e0), (.int (1 : Int32)), (.int x2c)]) (rest := []) (lenOf pd_285bBII29V rfl) rfl (by show 2 * 0 + _ ≤ _; exact Nat.le_of_eq rfl) (hb hby d13_20)
 obtain ⟨rfl, N185q, K185, p185_0⟩ := hQ185
 have N185 := Fr.app N178 N185q
 have f185_17 := f178_11.trans K185 (allS (Or.inr sz_b171_e0) all0)
 refine GoW.sg (mkF m 23 (Sh9 a1c 1 2 b171_e0 1) []) (fun t k => st185 t k) ?_
 refine GoW.sg (mkF m 33 (Sh9 a1c 2 2 b171_e0 2) [(.ref b171_e0)]) (fun t k => XS.iinc X185.here hx rfl (hb hby d13_23) rfl (l' := (Sh9 a1c 2 2 b171_e0 1)) rfl (XS.iinc X185.here hx rfl (hb hby d13_26) rfl (l' := (Sh9 a1c 2 2 b171_e0 2)) rfl (XS.goto X185.here hx rfl (pc0 := 29) (pc' := 8) rfl (hb hby d13_29) (by decide) (by decide) (XS.iload X185.here hx rfl (hb hby d13_8) rfl (XS.iloadN X185.here hx rfl (hb hby d13_10) rfl (XS.icmpYes X185.here hx rfl (pc0 := 11) (pc' := 32) rfl (hb hby d13_11) rfl (by decide) (by decide) (by decide) (XS.aloadN X185.here hx rfl (hb hby d13_32) rfl rfl k))))))) ?_
 refine GoW.retA X185 hx Bd.returns rfl rfl rfl (hb hby d13_33) Bd.notSynchronized ?_ (by decide) (by decide)
 exact ⟨b171_e0, k171_ke0, rfl, N185, f185_17, p185_0, sz_b171_e0⟩
def Q17_24 (Z : State) (a1c : Addr) (ka1c : ClassId) (x1c : Int32) (x2c : Int32) (x3c : Int32) (x4c : Int32) (h0 : Heap) (n0 : Nat) (v : Option Value) (h : Heap) (L : List Loc) : Prop := v = some (.int (nar .char (((x1c &&& (255 : Int32)) <<< ((0 : Int32) &&& 31)) ||| ((x2c &&& (255 : Int32)) <<< ((8 : Int32) &&& 31))).toUInt32.toUInt16.toUInt32.toInt32)) ∧ Fr n0 L ∧ (h = h0)
theorem rm17_24 (l : Launch) (Z : State) (a0 : Array Value) (hw : HW a0 Z) (a1c : Addr) (ka1c : ClassId) (x1c : Int32) (x2c : Int32) (x3c : Int32) (x4c : Int32) (h0 : Heap) (n0 : Nat) (P0 : Arv Z h0 a1c ka1c .byte (4 : Int32) [(.int x1c), (.int x2c), (.int x3c), (.int x4c)] (.int 0)) (P1 : Sta Z h0 "java/lang/StringUTF16" "$assertionsDisabled" "Z" (.int 1)) (P2 : Sta Z h0 "java/lang/StringUTF16" "HI_BYTE_SHIFT" "I" (.int 0)) (P3 : Sta Z h0 "java/lang/StringUTF16" "LO_BYTE_SHIFT" "I" (.int 8)) :
  MM l Z Y17 jdk_52_method_5_code 2 (some .char) 0 0 0 0 #[(.ref a1c), (.int 0)] h0 (Q17_24 Z a1c ka1c x1c x2c x3c x4c h0 n0) := by
 refine own_start (fun m => (mkF m 0 #[.val (.ref a1c), .val (.int 0)] [])) (plainFor_of_name pn_java_lang_StringUTF16) (by simp [entryFrame, mkF, argsToLocals, Value.category]) n0 ?_
 intro p e s m below meth c s₁ Bd hx hby hml hZ hown hnm X0 e0 N0
 obtain ⟨T192, X192, e192, st192⟩ := getS (host := "") X0 hx hZ hown (ww hw 71 rfl) Via.refl e0 P1 (g := (mkF m 0 #[.val (.ref a1c), .val (.int 0)] [])) rfl (hb hby d17_0)
 refine GoW.sg (mkF m 3 #[.val (.ref a1c), .val (.int 0)] [(.int 1)]) (fun t k => st192 t k) ?_
 refine GoW.sg (mkF m 30 #[.val (.ref a1c), .val (.int 0)] [(.int 1), (.int 0)]) (fun t k => XS.ifYes X192.here hx rfl (pc0 := 3) (pc' := 28) rfl (hb hby d17_3) rfl (by decide) (by decide) (by decide) (XS.iloadN X192.here hx rfl (hb hby d17_28) rfl (XS.iconst X192.here hx rfl (hb hby d17_29) k))) ?_
 refine GoW.st (fun t k => XS.ishl X192.here hx rfl (hb hby d17_30) rfl k) ?_
 rw [show ((0 : Int32) <<< ((1 : Int32) &&& 31)) = (0 : Int32) from by decide]
 show GoW p e below s (Q17_24 Z a1c ka1c x1c x2c x3c x4c h0 n0) 0 0 (T192.setTop (mkF m 31 #[.val (.ref a1c), .val (.int 0)] [(.int 0)]))
 refine GoW.sg (mkF m 37 #[.val (.ref a1c), .val (.int 1)] [(.int 0), (.ref a1c)]) (fun t k => XS.istoreN X192.here hx rfl (hb hby d17_31) rfl (l' := #[.val (.ref a1c), .val (.int 0)]) rfl (XS.aloadN X192.here hx rfl (hb hby d17_32) rfl rfl (XS.iloadN X192.here hx rfl (hb hby d17_33) rfl (XS.iinc X192.here hx rfl (hb hby d17_34) rfl (l' := #[.val (.ref a1c), .val (.int 1)]) rfl k)))) ?_
 obtain ⟨cl193, Ar193, q193, Sz193, Nn193, Hh193, Gg193⟩ := id P0
 have hin193 : ¬ ((0 : Int32) < 0 ∨ cl193.slots.size ≤ ((0 : Int32)).toNatClampNeg) := inb_of Sz193 ⟨by decide, by decide⟩
 refine GoW.sg (mkF m 38 #[.val (.ref a1c), .val (.int 1)] [(.int x1c)]) (fun t k => X192.baloadBytes hx (j := (0 : Int32)) (v := (.int x1c)) (hq_ e192 Ar193.1) (State.isArrayOf_alike hZ.alike Ar193.2.1) Ar193.2.2 hin193 (Hh193.at hin193 rfl) (g := (mkF m 37 #[.val (.ref a1c), .val (.int 1)] [(.int 0), (.ref a1c)])) rfl rfl (hb hby d17_37) t k) ?_
 refine GoW.sg (mkF m 42 #[.val (.ref a1c), .val (.int 1)] [(.int (x1c &&& (255 : Int32)))]) (fun t k => XS.sipush X192.here hx rfl (hb hby d17_38) (XS.iand X192.here hx rfl (hb hby d17_41) rfl k)) ?_
 obtain ⟨T194, X194, e194, st194⟩ := getS (host := "") X192 hx hZ hown (ww hw 72 rfl) Via.refl e192 P2 (g := (mkF m 42 #[.val (.ref a1c), .val (.int 1)] [(.int (x1c &&& (255 : Int32)))])) rfl (hb hby d17_42)
 refine GoW.sg (mkF m 45 #[.val (.ref a1c), .val (.int 1)] [(.int 0), (.int (x1c &&& (255 : Int32)))]) (fun t k => st194 t k) ?_
 refine GoW.sg (mkF m 48 #[.val (.ref a1c), .val (.int 1)] [(.int 1), (.ref a1c), (.int ((x1c &&& (255 : Int32)) <<< ((0 : Int32) &&& 31)))]) (fun t k => XS.ishl X194.here hx rfl (hb hby d17_45) rfl (XS.aloadN X194.here hx rfl (hb hby d17_46) rfl rfl (XS.iloadN X194.here hx rfl (hb hby d17_47) rfl k))) ?_
 obtain ⟨cl195, Ar195, q195, Sz195, Nn195, Hh195, Gg195⟩ := id P0
 have hin195 : ¬ ((1 : Int32) < 0 ∨ cl195.slots.size ≤ ((1 : Int32)).toNatClampNeg) := inb_of Sz195 ⟨by decide, by decide⟩
 refine GoW.sg (mkF m 49 #[.val (.ref a1c), .val (.int 1)] [(.int x2c), (.int ((x1c &&& (255 : Int32)) <<< ((0 : Int32) &&& 31)))]) (fun t k => X194.baloadBytes hx (j := (1 : Int32)) (v := (.int x2c)) (hq_ e194 Ar195.1) (State.isArrayOf_alike hZ.alike Ar195.2.1) Ar195.2.2 hin195 (Hh195.at hin195 rfl) (g := (mkF m 48 #[.val (.ref a1c), .val (.int 1)] [(.int 1), (.ref a1c), (.int ((x1c &&& (255 : Int32)) <<< ((0 : Int32) &&& 31)))])) rfl rfl (hb hby d17_48) t k) ?_
 refine GoW.sg (mkF m 53 #[.val (.ref a1c), .val (.int 1)] [(.int (x2c &&& (255 : Int32))), (.int ((x1c &&& (255 : Int32)) <<< ((0 : Int32) &&& 31)))]) (fun t k => XS.sipush X194.here hx rfl (hb hby d17_49) (XS.iand X194.here hx rfl (hb hby d17_52) rfl k)) ?_
 obtain ⟨T196, X196, e196, st196⟩ := getS (host := "") X194 hx hZ hown (ww hw 73 rfl) Via.refl e194 P3 (g := (mkF m 53 #[.val (.ref a1c), .val (.int 1)] [(.int (x2c &&& (255 : Int32))), (.int ((x1c &&& (255 : Int32)) <<< ((0 : Int32) &&& 31)))])) rfl (hb hby d17_53)
 refine GoW.sg (mkF m 56 #[.val (.ref a1c), .val (.int 1)] [(.int 8), (.int (x2c &&& (255 : Int32))), (.int ((x1c &&& (255 : Int32)) <<< ((0 : Int32) &&& 31)))]) (fun t k => st196 t k) ?_
 refine GoW.sg (mkF m 59 #[.val (.ref a1c), .val (.int 1)] [(.int (((x1c &&& (255 : Int32)) <<< ((0 : Int32) &&& 31)) ||| ((x2c &&& (255 : Int32)) <<< ((8 : Int32) &&& 31))).toUInt32.toUInt16.toUInt32.toInt32)]) (fun t k => XS.ishl X196.here hx rfl (hb hby d17_56) rfl (XS.ior X196.here hx rfl (hb hby d17_57) rfl (XS.i2c X196.here hx rfl (hb hby d17_58) rfl k))) ?_
 refine GoW.retN X196 hx (t := .char) Bd.returns (by simp) (hb hby d17_59) Bd.notSynchronized ?_ (by decide) (by decide)
 rw [e196]
 exact ⟨rfl, N0, rfl⟩
def Q10_25 (Z : State) (a1c : Addr) (ka1c : ClassId) (x1c : Int32) (x2c : Int32) (h0 : Heap) (n0 : Nat) (v : Option Value) (h : Heap) (L : List Loc) : Prop := ∃ e0 : Addr, ∃ ke0 : ClassId, v = some (.ref e0) ∧ Fr n0 L ∧ (Keep h0 h []) ∧ (Arv Z h e0 ke0 .byte (4 : Int32) [(.int (lo8 x1c)), (.int (hi8 x1c)), (.int (lo8 x2c)), (.int (hi8 x2c))] (.int 0)) ∧ (h0.size ≤ e0)
theorem rm10_25 (l : Launch) (Z : State) (a0 : Array Value) (hw : HW a0 Z) (a1c : Addr) (ka1c : ClassId) (x1c : Int32) (x2c : Int32) (h0 : Heap) (n0 : Nat) (Z0 : n0 ≤ h0.size) (P0 : Arv Z h0 a1c ka1c .char (2 : Int32) [(.int x1c), (.int x2c)] (.int 0)) (P1 : Sta Z h0 "java/lang/StringUTF16" "$assertionsDisabled" "Z" (.int 1)) (P2 : Sta Z h0 "java/lang/StringUTF16" "HI_BYTE_SHIFT" "I" (.int 0)) (P3 : Sta Z h0 "java/lang/StringUTF16" "LO_BYTE_SHIFT" "I" (.int 8)) (u0 : ¬ (x1c < (0 : Int32))) (u1 : ¬ ((65535 : Int32) < x1c)) (u2 : (255 : Int32) < x1c) :
  MM l Z Y10 jdk_52_method_16_code 6 (some (.array .byte)) 3 2 6 40 #[(.ref a1c), (.int 0), (.int 2)] h0 (Q10_25 Z a1c ka1c x1c x2c h0 n0) := by
 refine own_start (fun m => (mkF m 0 (Sh1 a1c 0 2) [])) (plainFor_of_name pn_java_lang_StringUTF16) (by simp [entryFrame, mkF, argsToLocals, Value.category]) n0 ?_
 intro p e s m below meth c s₁ Bd hx hby hml hZ hown hnm X0 e0 N0
 refine GoW.sg (mkF m 1 (Sh1 a1c 0 2) [(.int 2)]) (fun t k => XS.iloadN X0.here hx rfl (hb hby d10_0) rfl k) ?_
 obtain ⟨T198, h198, k198, X198, e198, E198, A198, st198⟩ := newP X0 hx hZ (ww hw 26 rfl) e0 (g := (mkF m 1 (Sh1 a1c 0 2) [(.int 2)])) rfl (hb hby d10_1) rfl (by decide) (cap := 2) (by decide) (by decide) (by decide) (by decide)
 obtain ⟨b198, g198⟩ : ∃ z, z = h0.size := ⟨_, rfl⟩
 rw [← g198] at A198 st198
 have f198_1 := P0.ext E198
 have f198_2 := P1.ext E198
 have f198_3 := P2.ext E198
 have f198_4 := P3.ext E198
 have f198_5 := (Keep.refl h0 []).ext E198
 have f198_6 := Nat.le_trans Z0 E198.1
 have V198 : Arv Z h198 b198 k198 .byte (2 : Int32) [(.int (0 : Int32)), (.int (0 : Int32))] (.int (0 : Int32)) := (Arv.new A198 (by decide)).pad (pad_rep [] (.int (0 : Int32)) 2)
 refine GoW.sg (mkF m 3 (Sh1 a1c 0 2) [(.ref b198)]) (fun t k => st198 t k) ?_
 refine GoW.sg (mkF m 9 (Sh2 a1c 0 2 b198) [(.int 2), (.int 0), (.ref b198), (.int 0), (.ref a1c)]) (fun t k => XS.astoreN X198.here hx rfl (hb hby d10_3) rfl rfl (l' := (Sh2 a1c 0 2 b198)) rfl (XS.aloadN X198.here hx rfl (hb hby d10_4) rfl rfl (XS.iloadN X198.here hx rfl (hb hby d10_5) rfl (XS.aloadN X198.here hx rfl (hb hby d10_6) rfl rfl (XS.iconst X198.here hx rfl (hb hby d10_7) (XS.iloadN X198.here hx rfl (hb hby d10_8) rfl k)))))) ?_
 obtain ⟨_, T200, L200, X200, hQ200, st200⟩ := own_callS X198 hx hZ hown (y := Y11) (ww hw 52 rfl) (ww hw 53 rfl) (ww hw 50 rfl) (ww hw 54 rfl) (by decide) 0 (rm11_18 l Z a0 hw a1c b198 ka1c x1c x2c h198 n0  f198_1   u2  ) (by decide) (by decide) e198 (by decide) (by decide) (g := (mkF m 9 (Sh2 a1c 0 2 b198) [(.int 2), (.int 0), (.ref b198), (.int 0), (.ref a1c)])) rfl (by rw [hml]; rfl) (argsL := [(.ref a1c), (.int (0 : Int32)), (.ref b198), (.int (0 : Int32)), (.int (2 : Int32))]) (rest := []) (lenOf pd_285bCI5bBII29I rfl) rfl (by show 2 * 0 + _ ≤ _; exact Nat.le_of_eq rfl) (hb hby d10_9)
 obtain ⟨rfl, N200q, e200⟩ := hQ200
 have N200 := Fr.app N0 N200q
 refine GoW.sg (mkF m 12 (Sh2 a1c 0 2 b198) [(.int 0)]) (fun t k => st200 t k) ?_
 refine GoW.sg (mkF m 23 (Sh6 a1c 0 2 b198 0) [(.int 2), (.int 0), (.ref a1c)]) (fun t k => XS.istore X200.here hx rfl (hb hby d10_12) rfl (l' := (Sh6 a1c 0 2 b198 0)) rfl (XS.iload X200.here hx rfl (hb hby d10_14) rfl (XS.iloadN X200.here hx rfl (hb hby d10_16) rfl (XS.icmpNo X200.here hx rfl (hb hby d10_17) rfl (by decide) (XS.aloadN X200.here hx rfl (hb hby d10_20) rfl rfl (XS.iloadN X200.here hx rfl (hb hby d10_21) rfl (XS.iloadN X200.here hx rfl (hb hby d10_22) rfl k))))))) ?_
 obtain ⟨_, T211, L211, X211, hQ211, st211⟩ := own_callS X200 hx hZ hown (y := Y13) (ww hw 58 rfl) (ww hw 59 rfl) (ww hw 50 rfl) (ww hw 60 rfl) (by decide) 0 (rm13_23 l Z a0 hw a1c ka1c x1c x2c h198 n0 f198_6 f198_1 f198_2 f198_3 f198_4     ) (by decide) (by decide) e200 (by decide) (by decide) (g := (mkF m 23 (Sh6 a1c 0 2 b198 0) [(.int 2), (.int 0), (.ref a1c)])) rfl (by rw [hml]; rfl) (argsL := [(.ref a1c), (.int (0 : Int32)), (.int (2 : Int32))]) (rest := []) (lenOf pd_285bCII295bB rfl) rfl (by show 2 * 0 + _ ≤ _; exact Nat.le_of_eq rfl) (hb hby d10_23)
 obtain ⟨b211_e0, k211_ke0, rfl, N211q, K211, p211_0, hz_b211_e0⟩ := hQ211
 have sz_b211_e0 : h0.size ≤ b211_e0 := Nat.le_trans f198_5.1 hz_b211_e0
 have N211 := Fr.app N200 N211q
 have f211_8 := own_staK0 f198_2 K211
 have f211_9 := own_staK0 f198_3 K211
 have f211_10 := own_staK0 f198_4 K211
 have f211_11 := f198_5.trans K211 all0
 refine GoW.sg (mkF m 26 (Sh6 a1c 0 2 b198 0) [(.ref b211_e0)]) (fun t k => st211 t k) ?_
 refine GoW.sg (mkF m 32 (Sh11 a1c 0 2 b198 0 b211_e0) [(.int 0), (.ref b211_e0)]) (fun t k => XS.astore X211.here hx rfl (hb hby d10_26) rfl rfl (l' := (Sh11 a1c 0 2 b198 0 b211_e0)) rfl (XS.aload X211.here hx rfl (hb hby d10_28) rfl rfl (XS.iload X211.here hx rfl (hb hby d10_30) rfl k))) ?_
 obtain ⟨_, T217, L217, X217, hQ217, st217⟩ := own_callS X211 hx hZ hown (y := Y17) (ww hw 74 rfl) (ww hw 75 rfl) (ww hw 50 rfl) (ww hw 76 rfl) (by decide) 0 (rm17_24 l Z a0 hw b211_e0 k211_ke0 (lo8 x1c) (hi8 x1c) (lo8 x2c) (hi8 x2c) T211.heap n0  p211_0 f211_8 f211_9 f211_10     ) (by decide) (by decide) rfl (by decide) (by decide) (g := (mkF m 32 (Sh11 a1c 0 2 b198 0 b211_e0) [(.int 0), (.ref b211_e0)])) rfl (by rw [hml]; rfl) (argsL := [(.ref b211_e0), (.int (0 : Int32))]) (rest := []) (lenOf pd_285bBI29C rfl) rfl (by show 2 * 0 + _ ≤ _; exact Nat.le_of_eq rfl) (hb hby d10_32)
 obtain ⟨rfl, N217q, e217⟩ := hQ217
 have N217 := Fr.app N211 N217q
 refine GoW.sg (mkF m 35 (Sh11 a1c 0 2 b198 0 b211_e0) [(.int (nar .char ((((lo8 x1c) &&& (255 : Int32)) <<< ((0 : Int32) &&& 31)) ||| (((hi8 x1c) &&& (255 : Int32)) <<< ((8 : Int32) &&& 31))).toUInt32.toUInt16.toUInt32.toInt32))]) (fun t k => st217 t k) ?_
 rw [show (nar .char ((((lo8 x1c) &&& (255 : Int32)) <<< ((0 : Int32) &&& 31)) ||| (((hi8 x1c) &&& (255 : Int32)) <<< ((8 : Int32) &&& 31))).toUInt32.toUInt16.toUInt32.toInt32) = x1c from (own_join _ u0 u1)]
 refine GoW.sg (mkF m 56 (Sh11 a1c 0 2 b198 0 b211_e0) [(.ref b211_e0)]) (fun t k => XS.sipush X217.here hx rfl (hb hby d10_35) (XS.icmpYes X217.here hx rfl (pc0 := 38) (pc' := 54) rfl (hb hby d10_38) rfl (tlt u2).2.2.1 (by decide) (by decide) (XS.aload X217.here hx rfl (hb hby d10_54) rfl rfl k))) ?_
 refine GoW.retA X217 hx Bd.returns rfl rfl rfl (hb hby d10_56) Bd.notSynchronized ?_ (by decide) (by decide)
 rw [e217]
 exact ⟨b211_e0, k211_ke0, rfl, N217, f211_11, p211_0, sz_b211_e0⟩
def Q12_26 (Z : State) (a1c : Addr) (ka1c : ClassId) (x1c : Int32) (x2c : Int32) (x3c : Int32) (x4c : Int32) (h0 : Heap) (n0 : Nat) (v : Option Value) (h : Heap) (L : List Loc) : Prop := v = some (.int 1) ∧ Fr n0 L ∧ (h = h0)
theorem rm12_26 (l : Launch) (Z : State) (a0 : Array Value) (hw : HW a0 Z) (a1c : Addr) (ka1c : ClassId) (x1c : Int32) (x2c : Int32) (x3c : Int32) (x4c : Int32) (h0 : Heap) (n0 : Nat) (P0 : Arv Z h0 a1c ka1c .byte (4 : Int32) [(.int x1c), (.int x2c), (.int x3c), (.int x4c)] (.int 0)) :
  MM l Z Y12 jdk_52_method_15_code 2 (some .byte) 0 0 0 0 #[(.ref a1c), (.int 2)] h0 (Q12_26 Z a1c ka1c x1c x2c x3c x4c h0 n0) := by
 refine own_start (fun m => (mkF m 0 #[.val (.ref a1c), .val (.int 2)] [])) (plainFor_of_name pn_java_lang_StringUTF16) (by simp [entryFrame, mkF, argsToLocals, Value.category]) n0 ?_
 intro p e s m below meth c s₁ Bd hx hby hml hZ hown hnm X0 e0 N0
 refine GoW.sg (mkF m 2 #[.val (.ref a1c), .val (.int 2)] [(.ref a1c), (.int 2)]) (fun t k => XS.iloadN X0.here hx rfl (hb hby d12_0) rfl (XS.aloadN X0.here hx rfl (hb hby d12_1) rfl rfl k)) ?_
 obtain ⟨cl220, Ar220, q220, Sz220, Nn220, Hh220, Gg220⟩ := id P0
 have st220 := X0.arraylength hx (hq_ e0 Ar220.1) (State.isArrayOf_alike hZ.alike Ar220.2.1) (g := (mkF m 2 #[.val (.ref a1c), .val (.int 2)] [(.ref a1c), (.int 2)])) rfl rfl (hb hby d12_2)
 rw [len_of Sz220 Nn220] at st220
 refine GoW.sg (mkF m 3 #[.val (.ref a1c), .val (.int 2)] [(.int 4), (.int 2)]) (fun t k => st220 t k) ?_
 refine GoW.st (fun t k => XS.isub X0.here hx rfl (hb hby d12_3) rfl k) ?_
 rw [show ((2 : Int32) - (4 : Int32)) = (-2 : Int32) from by decide]
 show GoW p e below s (Q12_26 Z a1c ka1c x1c x2c x3c x4c h0 n0) 0 0 (s₁.setTop (mkF m 4 #[.val (.ref a1c), .val (.int 2)] [(.int (-2))]))
 refine GoW.sg (mkF m 6 #[.val (.ref a1c), .val (.int 2)] [(.int 31), (.int (-2))]) (fun t k => XS.bipush X0.here hx rfl (hb hby d12_4) k) ?_
 refine GoW.st (fun t k => XS.iushr X0.here hx rfl (hb hby d12_6) rfl k) ?_
 rw [show ((-2 : Int32).toUInt32 >>> ((31 : Int32) &&& 31).toUInt32).toInt32 = (1 : Int32) from by decide]
 show GoW p e below s (Q12_26 Z a1c ka1c x1c x2c x3c x4c h0 n0) 0 0 (s₁.setTop (mkF m 7 #[.val (.ref a1c), .val (.int 2)] [(.int 1)]))
 refine GoW.st (fun t k => XS.i2b X0.here hx rfl (hb hby d12_7) rfl k) ?_
 rw [show (1 : Int32).toInt8.toInt32 = (1 : Int32) from by decide]
 show GoW p e below s (Q12_26 Z a1c ka1c x1c x2c x3c x4c h0 n0) 0 0 (s₁.setTop (mkF m 8 #[.val (.ref a1c), .val (.int 2)] [(.int 1)]))
 refine GoW.retN X0 hx (t := .byte) Bd.returns (by simp) (hb hby d12_8) Bd.notSynchronized ?_ (by decide) (by decide)
 rw [e0]
 exact ⟨rfl, N0, rfl⟩
def Q5_27 (Z : State) (a1c : Addr) (a2c : Addr) (ka2c : ClassId) (x1c : Int32) (x2c : Int32) (x3c : Int32) (h0 : Heap) (n0 : Nat) (v : Option Value) (h : Heap) (L : List Loc) : Prop := ∃ e0 : Addr, ∃ ke0 : ClassId, v = none ∧ Fr n0 L ∧ (Keep h0 h [a1c]) ∧ (Exa Z h a1c "java/lang/String") ∧ (Fld Z h a1c "java/lang/String" "coder" "B" (.int 1)) ∧ (Fld Z h a1c "java/lang/String" "value" "[B" (.ref e0)) ∧ (Arv Z h e0 ke0 .byte (4 : Int32) [(.int (lo8 x1c)), (.int (hi8 x1c)), (.int (lo8 x2c)), (.int (hi8 x2c))] (.int 0)) ∧ (h0.size ≤ e0)
theorem rm5_27 (l : Launch) (Z : State) (a0 : Array Value) (hw : HW a0 Z) (a1c : Addr) (a2c : Addr) (ka2c : ClassId) (x1c : Int32) (x2c : Int32) (x3c : Int32) (h0 : Heap) (n0 : Nat) (Z0 : n0 ≤ h0.size) (P0 : Exa Z h0 a1c "java/lang/String") (P1 : Fld Z h0 a1c "java/lang/String" "coder" "B" (.int 0)) (P2 : Fld Z h0 a1c "java/lang/String" "value" "[B" .null) (P3 : Arv Z h0 a2c ka2c .char (2 : Int32) [(.int x1c), (.int x2c)] (.int 0)) (P4 : Sta Z h0 "java/lang/String" "COMPACT_STRINGS" "Z" (.int x3c)) (P5 : Sta Z h0 "java/lang/StringUTF16" "$assertionsDisabled" "Z" (.int 1)) (P6 : Sta Z h0 "java/lang/StringUTF16" "HI_BYTE_SHIFT" "I" (.int 0)) (P7 : Sta Z h0 "java/lang/StringUTF16" "LO_BYTE_SHIFT" "I" (.int 8)) (g_a1c : n0 ≤ a1c) (u0 : ¬ (x1c < (0 : Int32))) (u1 : ¬ ((65535 : Int32) < x1c)) (u2 : ¬ (x3c = (0 : Int32))) (u3 : (255 : Int32) < x1c) :
  MM l Z Y5 jdk_42_method_149_code 6 none 4 2 6 57 #[(.ref a1c), (.ref a2c), (.int 0), (.int 2), .null] h0 (Q5_27 Z a1c a2c ka2c x1c x2c x3c h0 n0) := by
 refine own_start (fun m => (mkF m 0 (Sh0 a1c a2c 0 2) [])) (plainFor_of_name pn_java_lang_String) (by simp [entryFrame, mkF, argsToLocals, Value.category]) n0 ?_
 intro p e s m below meth c s₁ Bd hx hby hml hZ hown hnm X0 e0 N0
 refine GoW.sg (mkF m 1 (Sh0 a1c a2c 0 2) [(.ref a1c)]) (fun t k => XS.aloadN X0.here hx rfl (hb hby d5_0) rfl rfl k) ?_
 obtain ⟨T224, X224, e224, st224⟩ := initO X0 hx hZ hown (ww hw 22 rfl) (ww hw 23 rfl) (ww hw 24 rfl) e0 (g := (mkF m 1 (Sh0 a1c a2c 0 2) [(.ref a1c)])) rfl (by rw [hml]; rfl) rfl (hb hby d5_1) (by decide) (W := 0) (by show 2 * 0 + _ ≤ _; exact Nat.le_of_eq rfl) (by decide)
 refine GoW.sg (mkF m 4 (Sh0 a1c a2c 0 2) []) (fun t k => st224 t k) ?_
 refine GoW.sg (mkF m 27 (Sh0 a1c a2c 0 2) []) (fun t k => XS.iloadN X224.here hx rfl (hb hby d5_4) rfl (XS.ifYes X224.here hx rfl (pc0 := 5) (pc' := 27) rfl (hb hby d5_5) rfl (by decide) (by decide) (by decide) k)) ?_
 obtain ⟨T225, X225, e225, st225⟩ := getS (host := "") X224 hx hZ hown (ww hw 47 rfl) Via.refl e224 P4 (g := (mkF m 27 (Sh0 a1c a2c 0 2) [])) rfl (hb hby d5_27)
 refine GoW.sg (mkF m 30 (Sh0 a1c a2c 0 2) [(.int x3c)]) (fun t k => st225 t k) ?_
 refine GoW.sg (mkF m 36 (Sh0 a1c a2c 0 2) [(.int 2), (.int 0), (.ref a2c)]) (fun t k => XS.ifNo X225.here hx rfl (hb hby d5_30) rfl ((if0 _ _).trans (feq u2).1) (XS.aloadN X225.here hx rfl (hb hby d5_33) rfl rfl (XS.iloadN X225.here hx rfl (hb hby d5_34) rfl (XS.iloadN X225.here hx rfl (hb hby d5_35) rfl k)))) ?_
 obtain ⟨_, T241, L241, X241, hQ241, st241⟩ := own_callS X225 hx hZ hown (y := Y10) (ww hw 48 rfl) (ww hw 49 rfl) (ww hw 50 rfl) (ww hw 51 rfl) (by decide) 0 (rm10_25 l Z a0 hw a2c ka2c x1c x2c h0 n0 Z0 P3 P5 P6 P7   u0 u1 u3  ) (by decide) (by decide) e225 (by decide) (by decide) (g := (mkF m 36 (Sh0 a1c a2c 0 2) [(.int 2), (.int 0), (.ref a2c)])) rfl (by rw [hml]; rfl) (argsL := [(.ref a2c), (.int (0 : Int32)), (.int (2 : Int32))]) (rest := []) (lenOf pd_285bCII295bB rfl) rfl (by show 2 * 0 + _ ≤ _; exact Nat.le_of_eq rfl) (hb hby d5_36)
 obtain ⟨b241_e0, k241_ke0, rfl, N241q, K241, p241_0, hz_b241_e0⟩ := hQ241
 have sz_b241_e0 : h0.size ≤ b241_e0 := Nat.le_trans (Keep.refl h0 [a1c]).1 hz_b241_e0
 have ne_a1c_b241_e0 : a1c ≠ b241_e0 := Nat.ne_of_lt (Nat.lt_of_lt_of_le P0.lt hz_b241_e0)
 have N241 := Fr.app N0 N241q
 have f241_1 := P0.keep K241
 have f241_2 := P1.keep K241 nin0
 have f241_3 := P2.keep K241 nin0
 have f241_9 := (Keep.refl h0 [a1c]).trans K241 all0
 refine GoW.sg (mkF m 39 (Sh0 a1c a2c 0 2) [(.ref b241_e0)]) (fun t k => st241 t k) ?_
 refine GoW.sg (mkF m 45 (Sh12 a1c a2c 0 2 b241_e0) [(.int 2), (.ref b241_e0), (.ref a1c)]) (fun t k => XS.astore X241.here hx rfl (hb hby d5_39) rfl rfl (l' := (Sh12 a1c a2c 0 2 b241_e0)) rfl (XS.aloadN X241.here hx rfl (hb hby d5_41) rfl rfl (XS.aload X241.here hx rfl (hb hby d5_42) rfl rfl (XS.iloadN X241.here hx rfl (hb hby d5_44) rfl k)))) ?_
 obtain ⟨_, T242, L242, X242, hQ242, st242⟩ := own_callS X241 hx hZ hown (y := Y12) (ww hw 55 rfl) (ww hw 56 rfl) (ww hw 50 rfl) (ww hw 57 rfl) (by decide) 1 (rm12_26 l Z a0 hw b241_e0 k241_ke0 (lo8 x1c) (hi8 x1c) (lo8 x2c) (hi8 x2c) T241.heap n0  p241_0     ) (by decide) (by decide) rfl (by decide) (by decide) (g := (mkF m 45 (Sh12 a1c a2c 0 2 b241_e0) [(.int 2), (.ref b241_e0), (.ref a1c)])) rfl (by rw [hml]; rfl) (argsL := [(.ref b241_e0), (.int (2 : Int32))]) (rest := [(.ref a1c)]) (lenOf pd_285bBI29B rfl) rfl (by show 2 * 0 + _ ≤ _; exact Nat.le_of_eq rfl) (hb hby d5_45)
 obtain ⟨rfl, N242q, e242⟩ := hQ242
 have N242 := Fr.app N241 N242q
 refine GoW.sg (mkF m 48 (Sh12 a1c a2c 0 2 b241_e0) [(.int 1), (.ref a1c)]) (fun t k => st242 t k) ?_
 obtain ⟨T243, h243, X243, e243, W243, st243⟩ := putF X242 hx hZ hown (host := "") (Or.inl (ww hw 32 rfl)) Via.refl e242 f241_2 f241_1 (Or.inr ⟨(ww hw 28 rfl), rfl, hnm⟩) (ww hw 12 rfl) (ty := .byte) (by decide) rfl rfl (g := (mkF m 48 (Sh12 a1c a2c 0 2 b241_e0) [(.int 1), (.ref a1c)])) rfl rfl (hb hby d5_48)
 have N243 := Fr.snoc X243 N242 g_a1c
 have f243_11 := f241_1.wr W243
 have f243_12 := f241_3.other W243 (Or.inr (slot_ne (t := (.array .byte)) (t' := .byte) (Or.inr (ww hw 27 rfl)) (Or.inr (ww hw 28 rfl)) (by decide) (by decide) (by decide)))
 have f243_17 := f241_9.wr W243 (Or.inl (List.mem_of_getElem? (i := 0) rfl))
 have f243_19 := p241_0.other W243 (Ne.symm ne_a1c_b241_e0)
 have F243coder : Fld Z h243 a1c "java/lang/String" "coder" "B" (.int (1 : Int32)) := f241_2.same W243
 refine GoW.sg (mkF m 51 (Sh12 a1c a2c 0 2 b241_e0) []) (fun t k => st243 t k) ?_
 refine GoW.sg (mkF m 54 (Sh12 a1c a2c 0 2 b241_e0) [(.ref b241_e0), (.ref a1c)]) (fun t k => XS.aloadN X243.here hx rfl (hb hby d5_51) rfl rfl (XS.aload X243.here hx rfl (hb hby d5_52) rfl rfl k)) ?_
 obtain ⟨T244, h244, X244, e244, W244, st244⟩ := putF X243 hx hZ hown (host := "") (Or.inl (ww hw 31 rfl)) Via.refl e243 f243_12 f243_11 (Or.inr ⟨(ww hw 27 rfl), rfl, hnm⟩) (ww hw 12 rfl) (ty := (.array .byte)) (by decide) rfl rfl (g := (mkF m 54 (Sh12 a1c a2c 0 2 b241_e0) [(.ref b241_e0), (.ref a1c)])) rfl rfl (hb hby d5_54)
 have N244 := Fr.snoc X244 N243 g_a1c
 have f244_20 := f243_11.wr W244
 have f244_21 := F243coder.other W244 (Or.inr (slot_ne (t := .byte) (t' := (.array .byte)) (Or.inr (ww hw 28 rfl)) (Or.inr (ww hw 27 rfl)) (by decide) (by decide) (by decide)))
 have f244_26 := f243_17.wr W244 (Or.inl (List.mem_of_getElem? (i := 0) rfl))
 have f244_28 := f243_19.other W244 (Ne.symm ne_a1c_b241_e0)
 have F244value : Fld Z h244 a1c "java/lang/String" "value" "[B" (.ref b241_e0) := f243_12.same W244
 refine GoW.sg (mkF m 57 (Sh12 a1c a2c 0 2 b241_e0) []) (fun t k => st244 t k) ?_
 refine GoW.retV X244 hx Bd.returns (hb hby d5_57) Bd.notSynchronized ?_ (by decide) (by decide)
 rw [e244]
 exact ⟨b241_e0, k241_ke0, rfl, N244, f244_26, f244_20, f244_21, F244value, f244_28, sz_b241_e0⟩
def Q11_29 (Z : State) (a1c : Addr) (a2c : Addr) (ka2c : ClassId) (ka1c : ClassId) (x1c : Int32) (x2c : Int32) (h0 : Heap) (n0 : Nat) (v : Option Value) (h : Heap) (L : List Loc) : Prop := v = some (.int 1) ∧ Fr n0 L ∧ (Keep h0 h [a2c]) ∧ (Arv Z h a2c ka2c .byte (2 : Int32) [(.int (lat8 x1c)), (.int 0)] (.int 0))
theorem rm11_29 (l : Launch) (Z : State) (a0 : Array Value) (hw : HW a0 Z) (a1c : Addr) (a2c : Addr) (ka2c : ClassId) (ka1c : ClassId) (x1c : Int32) (x2c : Int32) (h0 : Heap) (n0 : Nat) (P0 : Arv Z h0 a2c ka2c .byte (2 : Int32) [(.int 0), (.int 0)] (.int 0)) (P1 : Arv Z h0 a1c ka1c .char (2 : Int32) [(.int x1c), (.int x2c)] (.int 0)) (g_a2c : n0 ≤ a2c) (ne_a1c_a2c : a1c ≠ a2c) (u0 : ¬ ((255 : Int32) < x1c)) (u1 : (255 : Int32) < x2c) :
  MM l Z Y11 jdk_52_method_21_code 7 (some .int) 0 0 0 0 #[(.ref a1c), (.int 0), (.ref a2c), (.int 0), (.int 2)] h0 (Q11_29 Z a1c a2c ka2c ka1c x1c x2c h0 n0) := by
 refine own_start (fun m => (mkF m 0 (Sh3 a1c 0 a2c 0 2) [])) (plainFor_of_name pn_java_lang_StringUTF16) (by simp [entryFrame, mkF, argsToLocals, Value.category]) n0 ?_
 intro p e s m below meth c s₁ Bd hx hby hml hZ hown hnm X0 e0 N0
 refine GoW.sg (mkF m 12 (Sh4 a1c 0 a2c 0 2 0) [(.int 0), (.ref a1c)]) (fun t k => XS.iconst X0.here hx rfl (hb hby d11_0) (XS.istore X0.here hx rfl (hb hby d11_1) rfl (l' := (Sh4 a1c 0 a2c 0 2 0)) rfl (XS.iload X0.here hx rfl (hb hby d11_3) rfl (XS.iload X0.here hx rfl (hb hby d11_5) rfl (XS.icmpNo X0.here hx rfl (hb hby d11_7) rfl (by decide) (XS.aloadN X0.here hx rfl (hb hby d11_10) rfl rfl (XS.iloadN X0.here hx rfl (hb hby d11_11) rfl k))))))) ?_
 obtain ⟨cl261, Ar261, q261, Sz261, Nn261, Hh261, Gg261⟩ := id P1
 have hin261 : ¬ ((0 : Int32) < 0 ∨ cl261.slots.size ≤ ((0 : Int32)).toNatClampNeg) := inb_of Sz261 ⟨by decide, by decide⟩
 refine GoW.sg (mkF m 13 (Sh4 a1c 0 a2c 0 2 0) [(.int x1c)]) (fun t k => X0.caload hx (j := (0 : Int32)) (v := (.int x1c)) (hq_ e0 Ar261.1) (State.isArrayOf_alike hZ.alike Ar261.2.1) Ar261.2.2 hin261 (Hh261.at hin261 rfl) (g := (mkF m 12 (Sh4 a1c 0 a2c 0 2 0) [(.int 0), (.ref a1c)])) rfl rfl (hb hby d11_12) t k) ?_
 refine GoW.sg (mkF m 31 (Sh5 a1c 0 a2c 0 2 0 x1c) [(.int x1c.toInt8.toInt32), (.int 0), (.ref a2c)]) (fun t k => XS.istore X0.here hx rfl (hb hby d11_13) rfl (l' := (Sh5 a1c 0 a2c 0 2 0 x1c)) rfl (XS.iload X0.here hx rfl (hb hby d11_15) rfl (XS.sipush X0.here hx rfl (hb hby d11_17) (XS.icmpYes X0.here hx rfl (pc0 := 20) (pc' := 26) rfl (hb hby d11_20) rfl (flt u0).2.2.2 (by decide) (by decide) (XS.aloadN X0.here hx rfl (hb hby d11_26) rfl rfl (XS.iloadN X0.here hx rfl (hb hby d11_27) rfl (XS.iload X0.here hx rfl (hb hby d11_28) rfl (XS.i2b X0.here hx rfl (hb hby d11_30) rfl k)))))))) ?_
 obtain ⟨cl262, Ar262, q262, Sz262, Nn262, Hh262, Gg262⟩ := P0
 have hin262 : ¬ ((0 : Int32) < 0 ∨ cl262.slots.size ≤ ((0 : Int32)).toNatClampNeg) := inb_of Sz262 ⟨by decide, by decide⟩
 obtain ⟨T262, h262, X262, e262, W262, st262⟩ := stB X0 hx hZ e0 Ar262 (j := (0 : Int32)) hin262 (g := (mkF m 31 (Sh5 a1c 0 a2c 0 2 0 x1c) [(.int x1c.toInt8.toInt32), (.int 0), (.ref a2c)])) rfl rfl (hb hby d11_31)
 have f262_1 := P1.other W262 ne_a1c_a2c
 have f262_2 := (Keep.refl h0 [a2c]).wr W262 (Or.inl (List.mem_of_getElem? (i := 0) rfl))
 have V262 : Arv Z h262 a2c ka2c .byte (2 : Int32) [(.int (lat8 x1c)), (.int (0 : Int32))] (.int (0 : Int32)) := Arv.set Ar262 q262 Sz262 Nn262 Hh262 Gg262 (fits_nar_byte _) W262 0 rfl (Nat.le_of_ble_eq_true rfl)
 have N262 := Fr.snoc X262 N0 g_a2c
 refine GoW.sg (mkF m 32 (Sh5 a1c 0 a2c 0 2 0 x1c) []) (fun t k => st262 t k) ?_
 refine GoW.sg (mkF m 11 (Sh5 a1c 1 a2c 1 2 1 x1c) [(.ref a1c)]) (fun t k => XS.iinc X262.here hx rfl (hb hby d11_32) rfl (l' := (Sh5 a1c 1 a2c 0 2 0 x1c)) rfl (XS.iinc X262.here hx rfl (hb hby d11_35) rfl (l' := (Sh5 a1c 1 a2c 1 2 0 x1c)) rfl (XS.iinc X262.here hx rfl (hb hby d11_38) rfl (l' := (Sh5 a1c 1 a2c 1 2 1 x1c)) rfl (XS.goto X262.here hx rfl (pc0 := 41) (pc' := 3) rfl (hb hby d11_41) (by decide) (by decide) (XS.iload X262.here hx rfl (hb hby d11_3) rfl (XS.iload X262.here hx rfl (hb hby d11_5) rfl (XS.icmpNo X262.here hx rfl (hb hby d11_7) rfl (by decide) (XS.aloadN X262.here hx rfl (hb hby d11_10) rfl rfl k)))))))) ?_
 refine GoW.sg (mkF m 12 (Sh5 a1c 1 a2c 1 2 1 x1c) [(.int 1), (.ref a1c)]) (fun t k => XS.iloadN X262.here hx rfl (hb hby d11_11) rfl k) ?_
 obtain ⟨cl263, Ar263, q263, Sz263, Nn263, Hh263, Gg263⟩ := id f262_1
 have hin263 : ¬ ((1 : Int32) < 0 ∨ cl263.slots.size ≤ ((1 : Int32)).toNatClampNeg) := inb_of Sz263 ⟨by decide, by decide⟩
 refine GoW.sg (mkF m 13 (Sh5 a1c 1 a2c 1 2 1 x1c) [(.int x2c)]) (fun t k => X262.caload hx (j := (1 : Int32)) (v := (.int x2c)) (hq_ e262 Ar263.1) (State.isArrayOf_alike hZ.alike Ar263.2.1) Ar263.2.2 hin263 (Hh263.at hin263 rfl) (g := (mkF m 12 (Sh5 a1c 1 a2c 1 2 1 x1c) [(.int 1), (.ref a1c)])) rfl rfl (hb hby d11_12) t k) ?_
 refine GoW.sg (mkF m 25 (Sh5 a1c 1 a2c 1 2 1 x2c) [(.int 1)]) (fun t k => XS.istore X262.here hx rfl (hb hby d11_13) rfl (l' := (Sh5 a1c 1 a2c 1 2 1 x2c)) rfl (XS.iload X262.here hx rfl (hb hby d11_15) rfl (XS.sipush X262.here hx rfl (hb hby d11_17) (XS.icmpNo X262.here hx rfl (hb hby d11_20) rfl (tlt u1).2.2.2 (XS.iload X262.here hx rfl (hb hby d11_23) rfl k))))) ?_
 refine GoW.retI X262 hx Bd.returns (hb hby d11_25) Bd.notSynchronized ?_ (by decide) (by decide)
 rw [e262]
 exact ⟨rfl, N262, f262_2, V262⟩
def Q17_30 (Z : State) (a1c : Addr) (ka1c : ClassId) (x1c : Int32) (x2c : Int32) (x3c : Int32) (x4c : Int32) (h0 : Heap) (n0 : Nat) (v : Option Value) (h : Heap) (L : List Loc) : Prop := v = some (.int (nar .char (((x3c &&& (255 : Int32)) <<< ((0 : Int32) &&& 31)) ||| ((x4c &&& (255 : Int32)) <<< ((8 : Int32) &&& 31))).toUInt32.toUInt16.toUInt32.toInt32)) ∧ Fr n0 L ∧ (h = h0)
theorem rm17_30 (l : Launch) (Z : State) (a0 : Array Value) (hw : HW a0 Z) (a1c : Addr) (ka1c : ClassId) (x1c : Int32) (x2c : Int32) (x3c : Int32) (x4c : Int32) (h0 : Heap) (n0 : Nat) (P0 : Arv Z h0 a1c ka1c .byte (4 : Int32) [(.int x1c), (.int x2c), (.int x3c), (.int x4c)] (.int 0)) (P1 : Sta Z h0 "java/lang/StringUTF16" "$assertionsDisabled" "Z" (.int 1)) (P2 : Sta Z h0 "java/lang/StringUTF16" "HI_BYTE_SHIFT" "I" (.int 0)) (P3 : Sta Z h0 "java/lang/StringUTF16" "LO_BYTE_SHIFT" "I" (.int 8)) :
  MM l Z Y17 jdk_52_method_5_code 2 (some .char) 0 0 0 0 #[(.ref a1c), (.int 1)] h0 (Q17_30 Z a1c ka1c x1c x2c x3c x4c h0 n0) := by
 refine own_start (fun m => (mkF m 0 #[.val (.ref a1c), .val (.int 1)] [])) (plainFor_of_name pn_java_lang_StringUTF16) (by simp [entryFrame, mkF, argsToLocals, Value.category]) n0 ?_
 intro p e s m below meth c s₁ Bd hx hby hml hZ hown hnm X0 e0 N0
 obtain ⟨T286, X286, e286, st286⟩ := getS (host := "") X0 hx hZ hown (ww hw 71 rfl) Via.refl e0 P1 (g := (mkF m 0 #[.val (.ref a1c), .val (.int 1)] [])) rfl (hb hby d17_0)
 refine GoW.sg (mkF m 3 #[.val (.ref a1c), .val (.int 1)] [(.int 1)]) (fun t k => st286 t k) ?_
 refine GoW.sg (mkF m 30 #[.val (.ref a1c), .val (.int 1)] [(.int 1), (.int 1)]) (fun t k => XS.ifYes X286.here hx rfl (pc0 := 3) (pc' := 28) rfl (hb hby d17_3) rfl (by decide) (by decide) (by decide) (XS.iloadN X286.here hx rfl (hb hby d17_28) rfl (XS.iconst X286.here hx rfl (hb hby d17_29) k))) ?_
 refine GoW.st (fun t k => XS.ishl X286.here hx rfl (hb hby d17_30) rfl k) ?_
 rw [show ((1 : Int32) <<< ((1 : Int32) &&& 31)) = (2 : Int32) from by decide]
 show GoW p e below s (Q17_30 Z a1c ka1c x1c x2c x3c x4c h0 n0) 0 0 (T286.setTop (mkF m 31 #[.val (.ref a1c), .val (.int 1)] [(.int 2)]))
 refine GoW.sg (mkF m 37 #[.val (.ref a1c), .val (.int 3)] [(.int 2), (.ref a1c)]) (fun t k => XS.istoreN X286.here hx rfl (hb hby d17_31) rfl (l' := #[.val (.ref a1c), .val (.int 2)]) rfl (XS.aloadN X286.here hx rfl (hb hby d17_32) rfl rfl (XS.iloadN X286.here hx rfl (hb hby d17_33) rfl (XS.iinc X286.here hx rfl (hb hby d17_34) rfl (l' := #[.val (.ref a1c), .val (.int 3)]) rfl k)))) ?_
 obtain ⟨cl287, Ar287, q287, Sz287, Nn287, Hh287, Gg287⟩ := id P0
 have hin287 : ¬ ((2 : Int32) < 0 ∨ cl287.slots.size ≤ ((2 : Int32)).toNatClampNeg) := inb_of Sz287 ⟨by decide, by decide⟩
 refine GoW.sg (mkF m 38 #[.val (.ref a1c), .val (.int 3)] [(.int x3c)]) (fun t k => X286.baloadBytes hx (j := (2 : Int32)) (v := (.int x3c)) (hq_ e286 Ar287.1) (State.isArrayOf_alike hZ.alike Ar287.2.1) Ar287.2.2 hin287 (Hh287.at hin287 rfl) (g := (mkF m 37 #[.val (.ref a1c), .val (.int 3)] [(.int 2), (.ref a1c)])) rfl rfl (hb hby d17_37) t k) ?_
 refine GoW.sg (mkF m 42 #[.val (.ref a1c), .val (.int 3)] [(.int (x3c &&& (255 : Int32)))]) (fun t k => XS.sipush X286.here hx rfl (hb hby d17_38) (XS.iand X286.here hx rfl (hb hby d17_41) rfl k)) ?_
 obtain ⟨T288, X288, e288, st288⟩ := getS (host := "") X286 hx hZ hown (ww hw 72 rfl) Via.refl e286 P2 (g := (mkF m 42 #[.val (.ref a1c), .val (.int 3)] [(.int (x3c &&& (255 : Int32)))])) rfl (hb hby d17_42)
 refine GoW.sg (mkF m 45 #[.val (.ref a1c), .val (.int 3)] [(.int 0), (.int (x3c &&& (255 : Int32)))]) (fun t k => st288 t k) ?_
 refine GoW.sg (mkF m 48 #[.val (.ref a1c), .val (.int 3)] [(.int 3), (.ref a1c), (.int ((x3c &&& (255 : Int32)) <<< ((0 : Int32) &&& 31)))]) (fun t k => XS.ishl X288.here hx rfl (hb hby d17_45) rfl (XS.aloadN X288.here hx rfl (hb hby d17_46) rfl rfl (XS.iloadN X288.here hx rfl (hb hby d17_47) rfl k))) ?_
 obtain ⟨cl289, Ar289, q289, Sz289, Nn289, Hh289, Gg289⟩ := id P0
 have hin289 : ¬ ((3 : Int32) < 0 ∨ cl289.slots.size ≤ ((3 : Int32)).toNatClampNeg) := inb_of Sz289 ⟨by decide, by decide⟩
 refine GoW.sg (mkF m 49 #[.val (.ref a1c), .val (.int 3)] [(.int x4c), (.int ((x3c &&& (255 : Int32)) <<< ((0 : Int32) &&& 31)))]) (fun t k => X288.baloadBytes hx (j := (3 : Int32)) (v := (.int x4c)) (hq_ e288 Ar289.1) (State.isArrayOf_alike hZ.alike Ar289.2.1) Ar289.2.2 hin289 (Hh289.at hin289 rfl) (g := (mkF m 48 #[.val (.ref a1c), .val (.int 3)] [(.int 3), (.ref a1c), (.int ((x3c &&& (255 : Int32)) <<< ((0 : Int32) &&& 31)))])) rfl rfl (hb hby d17_48) t k) ?_
 refine GoW.sg (mkF m 53 #[.val (.ref a1c), .val (.int 3)] [(.int (x4c &&& (255 : Int32))), (.int ((x3c &&& (255 : Int32)) <<< ((0 : Int32) &&& 31)))]) (fun t k => XS.sipush X288.here hx rfl (hb hby d17_49) (XS.iand X288.here hx rfl (hb hby d17_52) rfl k)) ?_
 obtain ⟨T290, X290, e290, st290⟩ := getS (host := "") X288 hx hZ hown (ww hw 73 rfl) Via.refl e288 P3 (g := (mkF m 53 #[.val (.ref a1c), .val (.int 3)] [(.int (x4c &&& (255 : Int32))), (.int ((x3c &&& (255 : Int32)) <<< ((0 : Int32) &&& 31)))])) rfl (hb hby d17_53)
 refine GoW.sg (mkF m 56 #[.val (.ref a1c), .val (.int 3)] [(.int 8), (.int (x4c &&& (255 : Int32))), (.int ((x3c &&& (255 : Int32)) <<< ((0 : Int32) &&& 31)))]) (fun t k => st290 t k) ?_
 refine GoW.sg (mkF m 59 #[.val (.ref a1c), .val (.int 3)] [(.int (((x3c &&& (255 : Int32)) <<< ((0 : Int32) &&& 31)) ||| ((x4c &&& (255 : Int32)) <<< ((8 : Int32) &&& 31))).toUInt32.toUInt16.toUInt32.toInt32)]) (fun t k => XS.ishl X290.here hx rfl (hb hby d17_56) rfl (XS.ior X290.here hx rfl (hb hby d17_57) rfl (XS.i2c X290.here hx rfl (hb hby d17_58) rfl k))) ?_
 refine GoW.retN X290 hx (t := .char) Bd.returns (by simp) (hb hby d17_59) Bd.notSynchronized ?_ (by decide) (by decide)
 rw [e290]
 exact ⟨rfl, N0, rfl⟩
def Q10_31 (Z : State) (a1c : Addr) (ka1c : ClassId) (x1c : Int32) (x2c : Int32) (h0 : Heap) (n0 : Nat) (v : Option Value) (h : Heap) (L : List Loc) : Prop := ∃ e0 : Addr, ∃ ke0 : ClassId, v = some (.ref e0) ∧ Fr n0 L ∧ (Keep h0 h []) ∧ (Arv Z h e0 ke0 .byte (4 : Int32) [(.int (lo8 x1c)), (.int (hi8 x1c)), (.int (lo8 x2c)), (.int (hi8 x2c))] (.int 0)) ∧ (h0.size ≤ e0)
theorem rm10_31 (l : Launch) (Z : State) (a0 : Array Value) (hw : HW a0 Z) (a1c : Addr) (ka1c : ClassId) (x1c : Int32) (x2c : Int32) (h0 : Heap) (n0 : Nat) (Z0 : n0 ≤ h0.size) (P0 : Arv Z h0 a1c ka1c .char (2 : Int32) [(.int x1c), (.int x2c)] (.int 0)) (P1 : Sta Z h0 "java/lang/StringUTF16" "$assertionsDisabled" "Z" (.int 1)) (P2 : Sta Z h0 "java/lang/StringUTF16" "HI_BYTE_SHIFT" "I" (.int 0)) (P3 : Sta Z h0 "java/lang/StringUTF16" "LO_BYTE_SHIFT" "I" (.int 8)) (u0 : ¬ (x2c < (0 : Int32))) (u1 : ¬ ((65535 : Int32) < x2c)) (u2 : ¬ ((255 : Int32) < x1c)) (u3 : (255 : Int32) < x2c) :
  MM l Z Y10 jdk_52_method_16_code 6 (some (.array .byte)) 3 2 6 40 #[(.ref a1c), (.int 0), (.int 2)] h0 (Q10_31 Z a1c ka1c x1c x2c h0 n0) := by
 refine own_start (fun m => (mkF m 0 (Sh1 a1c 0 2) [])) (plainFor_of_name pn_java_lang_StringUTF16) (by simp [entryFrame, mkF, argsToLocals, Value.category]) n0 ?_
 intro p e s m below meth c s₁ Bd hx hby hml hZ hown hnm X0 e0 N0
 refine GoW.sg (mkF m 1 (Sh1 a1c 0 2) [(.int 2)]) (fun t k => XS.iloadN X0.here hx rfl (hb hby d10_0) rfl k) ?_
 obtain ⟨T292, h292, k292, X292, e292, E292, A292, st292⟩ := newP X0 hx hZ (ww hw 26 rfl) e0 (g := (mkF m 1 (Sh1 a1c 0 2) [(.int 2)])) rfl (hb hby d10_1) rfl (by decide) (cap := 2) (by decide) (by decide) (by decide) (by decide)
 obtain ⟨b292, g292⟩ : ∃ z, z = h0.size := ⟨_, rfl⟩
 rw [← g292] at A292 st292
 have g_b292 : n0 ≤ b292 := Nat.le_trans Z0 (Nat.le_of_eq g292.symm)
 have sz_b292 : h0.size ≤ b292 := Nat.le_trans (Keep.refl h0 []).1 (Nat.le_of_eq g292.symm)
 have ne_a1c_b292 : a1c ≠ b292 := Nat.ne_of_lt (Nat.lt_of_lt_of_eq P0.lt g292.symm)
 have f292_1 := P0.ext E292
 have f292_2 := P1.ext E292
 have f292_3 := P2.ext E292
 have f292_4 := P3.ext E292
 have f292_5 := (Keep.refl h0 []).ext E292
 have f292_6 := Nat.le_trans Z0 E292.1
 have V292 : Arv Z h292 b292 k292 .byte (2 : Int32) [(.int (0 : Int32)), (.int (0 : Int32))] (.int (0 : Int32)) := (Arv.new A292 (by decide)).pad (pad_rep [] (.int (0 : Int32)) 2)
 refine GoW.sg (mkF m 3 (Sh1 a1c 0 2) [(.ref b292)]) (fun t k => st292 t k) ?_
 refine GoW.sg (mkF m 9 (Sh2 a1c 0 2 b292) [(.int 2), (.int 0), (.ref b292), (.int 0), (.ref a1c)]) (fun t k => XS.astoreN X292.here hx rfl (hb hby d10_3) rfl rfl (l' := (Sh2 a1c 0 2 b292)) rfl (XS.aloadN X292.here hx rfl (hb hby d10_4) rfl rfl (XS.iloadN X292.here hx rfl (hb hby d10_5) rfl (XS.aloadN X292.here hx rfl (hb hby d10_6) rfl rfl (XS.iconst X292.here hx rfl (hb hby d10_7) (XS.iloadN X292.here hx rfl (hb hby d10_8) rfl k)))))) ?_
 obtain ⟨_, T296, L296, X296, hQ296, st296⟩ := own_callS X292 hx hZ hown (y := Y11) (ww hw 52 rfl) (ww hw 53 rfl) (ww hw 50 rfl) (ww hw 54 rfl) (by decide) 0 (rm11_29 l Z a0 hw a1c b292 k292 ka1c x1c x2c h292 n0  V292 f292_1 g_b292 ne_a1c_b292 u2 u3  ) (by decide) (by decide) e292 (by decide) (by decide) (g := (mkF m 9 (Sh2 a1c 0 2 b292) [(.int 2), (.int 0), (.ref b292), (.int 0), (.ref a1c)])) rfl (by rw [hml]; rfl) (argsL := [(.ref a1c), (.int (0 : Int32)), (.ref b292), (.int (0 : Int32)), (.int (2 : Int32))]) (rest := []) (lenOf pd_285bCI5bBII29I rfl) rfl (by show 2 * 0 + _ ≤ _; exact Nat.le_of_eq rfl) (hb hby d10_9)
 obtain ⟨rfl, N296q, K296, p296_0⟩ := hQ296
 have N296 := Fr.app N0 N296q
 have f296_7 := f292_1.keep K296 (ninS ne_a1c_b292 nin0)
 have f296_8 := own_staK f292_2 K296 (allS (own_nsA V292) all0)
 have f296_9 := own_staK f292_3 K296 (allS (own_nsA V292) all0)
 have f296_10 := own_staK f292_4 K296 (allS (own_nsA V292) all0)
 have f296_11 := f292_5.trans K296 (allS (Or.inr sz_b292) all0)
 have f296_12 := Nat.le_trans f292_6 K296.1
 refine GoW.sg (mkF m 12 (Sh2 a1c 0 2 b292) [(.int 1)]) (fun t k => st296 t k) ?_
 refine GoW.sg (mkF m 23 (Sh6 a1c 0 2 b292 1) [(.int 2), (.int 0), (.ref a1c)]) (fun t k => XS.istore X296.here hx rfl (hb hby d10_12) rfl (l' := (Sh6 a1c 0 2 b292 1)) rfl (XS.iload X296.here hx rfl (hb hby d10_14) rfl (XS.iloadN X296.here hx rfl (hb hby d10_16) rfl (XS.icmpNo X296.here hx rfl (hb hby d10_17) rfl (by decide) (XS.aloadN X296.here hx rfl (hb hby d10_20) rfl rfl (XS.iloadN X296.here hx rfl (hb hby d10_21) rfl (XS.iloadN X296.here hx rfl (hb hby d10_22) rfl k))))))) ?_
 obtain ⟨_, T312, L312, X312, hQ312, st312⟩ := own_callS X296 hx hZ hown (y := Y13) (ww hw 58 rfl) (ww hw 59 rfl) (ww hw 50 rfl) (ww hw 60 rfl) (by decide) 0 (rm13_23 l Z a0 hw a1c ka1c x1c x2c T296.heap n0 f296_12 f296_7 f296_8 f296_9 f296_10     ) (by decide) (by decide) rfl (by decide) (by decide) (g := (mkF m 23 (Sh6 a1c 0 2 b292 1) [(.int 2), (.int 0), (.ref a1c)])) rfl (by rw [hml]; rfl) (argsL := [(.ref a1c), (.int (0 : Int32)), (.int (2 : Int32))]) (rest := []) (lenOf pd_285bCII295bB rfl) rfl (by show 2 * 0 + _ ≤ _; exact Nat.le_of_eq rfl) (hb hby d10_23)
 obtain ⟨b312_e0, k312_ke0, rfl, N312q, K312, p312_0, hz_b312_e0⟩ := hQ312
 have sz_b312_e0 : h0.size ≤ b312_e0 := Nat.le_trans f296_11.1 hz_b312_e0
 have N312 := Fr.app N296 N312q
 have f312_14 := own_staK0 f296_8 K312
 have f312_15 := own_staK0 f296_9 K312
 have f312_16 := own_staK0 f296_10 K312
 have f312_17 := f296_11.trans K312 all0
 refine GoW.sg (mkF m 26 (Sh6 a1c 0 2 b292 1) [(.ref b312_e0)]) (fun t k => st312 t k) ?_
 refine GoW.sg (mkF m 32 (Sh11 a1c 0 2 b292 1 b312_e0) [(.int 1), (.ref b312_e0)]) (fun t k => XS.astore X312.here hx rfl (hb hby d10_26) rfl rfl (l' := (Sh11 a1c 0 2 b292 1 b312_e0)) rfl (XS.aload X312.here hx rfl (hb hby d10_28) rfl rfl (XS.iload X312.here hx rfl (hb hby d10_30) rfl k))) ?_
 obtain ⟨_, T318, L318, X318, hQ318, st318⟩ := own_callS X312 hx hZ hown (y := Y17) (ww hw 74 rfl) (ww hw 75 rfl) (ww hw 50 rfl) (ww hw 76 rfl) (by decide) 0 (rm17_30 l Z a0 hw b312_e0 k312_ke0 (lo8 x1c) (hi8 x1c) (lo8 x2c) (hi8 x2c) T312.heap n0  p312_0 f312_14 f312_15 f312_16     ) (by decide) (by decide) rfl (by decide) (by decide) (g := (mkF m 32 (Sh11 a1c 0 2 b292 1 b312_e0) [(.int 1), (.ref b312_e0)])) rfl (by rw [hml]; rfl) (argsL := [(.ref b312_e0), (.int (1 : Int32))]) (rest := []) (lenOf pd_285bBI29C rfl) rfl (by show 2 * 0 + _ ≤ _; exact Nat.le_of_eq rfl) (hb hby d10_32)
 obtain ⟨rfl, N318q, e318⟩ := hQ318
 have N318 := Fr.app N312 N318q
 refine GoW.sg (mkF m 35 (Sh11 a1c 0 2 b292 1 b312_e0) [(.int (nar .char ((((lo8 x2c) &&& (255 : Int32)) <<< ((0 : Int32) &&& 31)) ||| (((hi8 x2c) &&& (255 : Int32)) <<< ((8 : Int32) &&& 31))).toUInt32.toUInt16.toUInt32.toInt32))]) (fun t k => st318 t k) ?_
 rw [show (nar .char ((((lo8 x2c) &&& (255 : Int32)) <<< ((0 : Int32) &&& 31)) ||| (((hi8 x2c) &&& (255 : Int32)) <<< ((8 : Int32) &&& 31))).toUInt32.toUInt16.toUInt32.toInt32) = x2c from (own_join _ u0 u1)]
 refine GoW.sg (mkF m 56 (Sh11 a1c 0 2 b292 1 b312_e0) [(.ref b312_e0)]) (fun t k => XS.sipush X318.here hx rfl (hb hby d10_35) (XS.icmpYes X318.here hx rfl (pc0 := 38) (pc' := 54) rfl (hb hby d10_38) rfl (tlt u3).2.2.1 (by decide) (by decide) (XS.aload X318.here hx rfl (hb hby d10_54) rfl rfl k))) ?_
 refine GoW.retA X318 hx Bd.returns rfl rfl rfl (hb hby d10_56) Bd.notSynchronized ?_ (by decide) (by decide)
 rw [e318]
 exact ⟨b312_e0, k312_ke0, rfl, N318, f312_17, p312_0, sz_b312_e0⟩
def Q5_32 (Z : State) (a1c : Addr) (a2c : Addr) (ka2c : ClassId) (x1c : Int32) (x2c : Int32) (x3c : Int32) (h0 : Heap) (n0 : Nat) (v : Option Value) (h : Heap) (L : List Loc) : Prop := ∃ e0 : Addr, ∃ ke0 : ClassId, v = none ∧ Fr n0 L ∧ (Keep h0 h [a1c]) ∧ (Exa Z h a1c "java/lang/String") ∧ (Fld Z h a1c "java/lang/String" "coder" "B" (.int 1)) ∧ (Fld Z h a1c "java/lang/String" "value" "[B" (.ref e0)) ∧ (Arv Z h e0 ke0 .byte (4 : Int32) [(.int (lo8 x1c)), (.int (hi8 x1c)), (.int (lo8 x2c)), (.int (hi8 x2c))] (.int 0)) ∧ (h0.size ≤ e0)
theorem rm5_32 (l : Launch) (Z : State) (a0 : Array Value) (hw : HW a0 Z) (a1c : Addr) (a2c : Addr) (ka2c : ClassId) (x1c : Int32) (x2c : Int32) (x3c : Int32) (h0 : Heap) (n0 : Nat) (Z0 : n0 ≤ h0.size) (P0 : Exa Z h0 a1c "java/lang/String") (P1 : Fld Z h0 a1c "java/lang/String" "coder" "B" (.int 0)) (P2 : Fld Z h0 a1c "java/lang/String" "value" "[B" .null) (P3 : Arv Z h0 a2c ka2c .char (2 : Int32) [(.int x1c), (.int x2c)] (.int 0)) (P4 : Sta Z h0 "java/lang/String" "COMPACT_STRINGS" "Z" (.int x3c)) (P5 : Sta Z h0 "java/lang/StringUTF16" "$assertionsDisabled" "Z" (.int 1)) (P6 : Sta Z h0 "java/lang/StringUTF16" "HI_BYTE_SHIFT" "I" (.int 0)) (P7 : Sta Z h0 "java/lang/StringUTF16" "LO_BYTE_SHIFT" "I" (.int 8)) (g_a1c : n0 ≤ a1c) (u0 : ¬ (x2c < (0 : Int32))) (u1 : ¬ ((65535 : Int32) < x2c)) (u2 : ¬ (x3c = (0 : Int32))) (u3 : ¬ ((255 : Int32) < x1c)) (u4 : (255 : Int32) < x2c) :
  MM l Z Y5 jdk_42_method_149_code 6 none 4 2 6 57 #[(.ref a1c), (.ref a2c), (.int 0), (.int 2), .null] h0 (Q5_32 Z a1c a2c ka2c x1c x2c x3c h0 n0) := by
 refine own_start (fun m => (mkF m 0 (Sh0 a1c a2c 0 2) [])) (plainFor_of_name pn_java_lang_String) (by simp [entryFrame, mkF, argsToLocals, Value.category]) n0 ?_
 intro p e s m below meth c s₁ Bd hx hby hml hZ hown hnm X0 e0 N0
 refine GoW.sg (mkF m 1 (Sh0 a1c a2c 0 2) [(.ref a1c)]) (fun t k => XS.aloadN X0.here hx rfl (hb hby d5_0) rfl rfl k) ?_
 obtain ⟨T323, X323, e323, st323⟩ := initO X0 hx hZ hown (ww hw 22 rfl) (ww hw 23 rfl) (ww hw 24 rfl) e0 (g := (mkF m 1 (Sh0 a1c a2c 0 2) [(.ref a1c)])) rfl (by rw [hml]; rfl) rfl (hb hby d5_1) (by decide) (W := 0) (by show 2 * 0 + _ ≤ _; exact Nat.le_of_eq rfl) (by decide)
 refine GoW.sg (mkF m 4 (Sh0 a1c a2c 0 2) []) (fun t k => st323 t k) ?_
 refine GoW.sg (mkF m 27 (Sh0 a1c a2c 0 2) []) (fun t k => XS.iloadN X323.here hx rfl (hb hby d5_4) rfl (XS.ifYes X323.here hx rfl (pc0 := 5) (pc' := 27) rfl (hb hby d5_5) rfl (by decide) (by decide) (by decide) k)) ?_
 obtain ⟨T324, X324, e324, st324⟩ := getS (host := "") X323 hx hZ hown (ww hw 47 rfl) Via.refl e323 P4 (g := (mkF m 27 (Sh0 a1c a2c 0 2) [])) rfl (hb hby d5_27)
 refine GoW.sg (mkF m 30 (Sh0 a1c a2c 0 2) [(.int x3c)]) (fun t k => st324 t k) ?_
 refine GoW.sg (mkF m 36 (Sh0 a1c a2c 0 2) [(.int 2), (.int 0), (.ref a2c)]) (fun t k => XS.ifNo X324.here hx rfl (hb hby d5_30) rfl ((if0 _ _).trans (feq u2).1) (XS.aloadN X324.here hx rfl (hb hby d5_33) rfl rfl (XS.iloadN X324.here hx rfl (hb hby d5_34) rfl (XS.iloadN X324.here hx rfl (hb hby d5_35) rfl k)))) ?_
 obtain ⟨_, T342, L342, X342, hQ342, st342⟩ := own_callS X324 hx hZ hown (y := Y10) (ww hw 48 rfl) (ww hw 49 rfl) (ww hw 50 rfl) (ww hw 51 rfl) (by decide) 0 (rm10_31 l Z a0 hw a2c ka2c x1c x2c h0 n0 Z0 P3 P5 P6 P7   u0 u1 u3 u4  ) (by decide) (by decide) e324 (by decide) (by decide) (g := (mkF m 36 (Sh0 a1c a2c 0 2) [(.int 2), (.int 0), (.ref a2c)])) rfl (by rw [hml]; rfl) (argsL := [(.ref a2c), (.int (0 : Int32)), (.int (2 : Int32))]) (rest := []) (lenOf pd_285bCII295bB rfl) rfl (by show 2 * 0 + _ ≤ _; exact Nat.le_of_eq rfl) (hb hby d5_36)
 obtain ⟨b342_e0, k342_ke0, rfl, N342q, K342, p342_0, hz_b342_e0⟩ := hQ342
 have sz_b342_e0 : h0.size ≤ b342_e0 := Nat.le_trans (Keep.refl h0 [a1c]).1 hz_b342_e0
 have ne_a1c_b342_e0 : a1c ≠ b342_e0 := Nat.ne_of_lt (Nat.lt_of_lt_of_le P0.lt hz_b342_e0)
 have N342 := Fr.app N0 N342q
 have f342_1 := P0.keep K342
 have f342_2 := P1.keep K342 nin0
 have f342_3 := P2.keep K342 nin0
 have f342_9 := (Keep.refl h0 [a1c]).trans K342 all0
 refine GoW.sg (mkF m 39 (Sh0 a1c a2c 0 2) [(.ref b342_e0)]) (fun t k => st342 t k) ?_
 refine GoW.sg (mkF m 45 (Sh12 a1c a2c 0 2 b342_e0) [(.int 2), (.ref b342_e0), (.ref a1c)]) (fun t k => XS.astore X342.here hx rfl (hb hby d5_39) rfl rfl (l' := (Sh12 a1c a2c 0 2 b342_e0)) rfl (XS.aloadN X342.here hx rfl (hb hby d5_41) rfl rfl (XS.aload X342.here hx rfl (hb hby d5_42) rfl rfl (XS.iloadN X342.here hx rfl (hb hby d5_44) rfl k)))) ?_
 obtain ⟨_, T343, L343, X343, hQ343, st343⟩ := own_callS X342 hx hZ hown (y := Y12) (ww hw 55 rfl) (ww hw 56 rfl) (ww hw 50 rfl) (ww hw 57 rfl) (by decide) 1 (rm12_26 l Z a0 hw b342_e0 k342_ke0 (lo8 x1c) (hi8 x1c) (lo8 x2c) (hi8 x2c) T342.heap n0  p342_0     ) (by decide) (by decide) rfl (by decide) (by decide) (g := (mkF m 45 (Sh12 a1c a2c 0 2 b342_e0) [(.int 2), (.ref b342_e0), (.ref a1c)])) rfl (by rw [hml]; rfl) (argsL := [(.ref b342_e0), (.int (2 : Int32))]) (rest := [(.ref a1c)]) (lenOf pd_285bBI29B rfl) rfl (by show 2 * 0 + _ ≤ _; exact Nat.le_of_eq rfl) (hb hby d5_45)
 obtain ⟨rfl, N343q, e343⟩ := hQ343
 have N343 := Fr.app N342 N343q
 refine GoW.sg (mkF m 48 (Sh12 a1c a2c 0 2 b342_e0) [(.int 1), (.ref a1c)]) (fun t k => st343 t k) ?_
 obtain ⟨T344, h344, X344, e344, W344, st344⟩ := putF X343 hx hZ hown (host := "") (Or.inl (ww hw 32 rfl)) Via.refl e343 f342_2 f342_1 (Or.inr ⟨(ww hw 28 rfl), rfl, hnm⟩) (ww hw 12 rfl) (ty := .byte) (by decide) rfl rfl (g := (mkF m 48 (Sh12 a1c a2c 0 2 b342_e0) [(.int 1), (.ref a1c)])) rfl rfl (hb hby d5_48)
 have N344 := Fr.snoc X344 N343 g_a1c
 have f344_11 := f342_1.wr W344
 have f344_12 := f342_3.other W344 (Or.inr (slot_ne (t := (.array .byte)) (t' := .byte) (Or.inr (ww hw 27 rfl)) (Or.inr (ww hw 28 rfl)) (by decide) (by decide) (by decide)))
 have f344_17 := f342_9.wr W344 (Or.inl (List.mem_of_getElem? (i := 0) rfl))
 have f344_19 := p342_0.other W344 (Ne.symm ne_a1c_b342_e0)
 have F344coder : Fld Z h344 a1c "java/lang/String" "coder" "B" (.int (1 : Int32)) := f342_2.same W344
 refine GoW.sg (mkF m 51 (Sh12 a1c a2c 0 2 b342_e0) []) (fun t k => st344 t k) ?_
 refine GoW.sg (mkF m 54 (Sh12 a1c a2c 0 2 b342_e0) [(.ref b342_e0), (.ref a1c)]) (fun t k => XS.aloadN X344.here hx rfl (hb hby d5_51) rfl rfl (XS.aload X344.here hx rfl (hb hby d5_52) rfl rfl k)) ?_
 obtain ⟨T345, h345, X345, e345, W345, st345⟩ := putF X344 hx hZ hown (host := "") (Or.inl (ww hw 31 rfl)) Via.refl e344 f344_12 f344_11 (Or.inr ⟨(ww hw 27 rfl), rfl, hnm⟩) (ww hw 12 rfl) (ty := (.array .byte)) (by decide) rfl rfl (g := (mkF m 54 (Sh12 a1c a2c 0 2 b342_e0) [(.ref b342_e0), (.ref a1c)])) rfl rfl (hb hby d5_54)
 have N345 := Fr.snoc X345 N344 g_a1c
 have f345_20 := f344_11.wr W345
 have f345_21 := F344coder.other W345 (Or.inr (slot_ne (t := .byte) (t' := (.array .byte)) (Or.inr (ww hw 28 rfl)) (Or.inr (ww hw 27 rfl)) (by decide) (by decide) (by decide)))
 have f345_26 := f344_17.wr W345 (Or.inl (List.mem_of_getElem? (i := 0) rfl))
 have f345_28 := f344_19.other W345 (Ne.symm ne_a1c_b342_e0)
 have F345value : Fld Z h345 a1c "java/lang/String" "value" "[B" (.ref b342_e0) := f344_12.same W345
 refine GoW.sg (mkF m 57 (Sh12 a1c a2c 0 2 b342_e0) []) (fun t k => st345 t k) ?_
 refine GoW.retV X345 hx Bd.returns (hb hby d5_57) Bd.notSynchronized ?_ (by decide) (by decide)
 rw [e345]
 exact ⟨b342_e0, k342_ke0, rfl, N345, f345_26, f345_20, f345_21, F345value, f345_28, sz_b342_e0⟩
def Q11_34 (Z : State) (a1c : Addr) (a2c : Addr) (ka2c : ClassId) (ka1c : ClassId) (x1c : Int32) (x2c : Int32) (h0 : Heap) (n0 : Nat) (v : Option Value) (h : Heap) (L : List Loc) : Prop := v = some (.int 2) ∧ Fr n0 L ∧ (Keep h0 h [a2c]) ∧ (Arv Z h a2c ka2c .byte (2 : Int32) [(.int (lat8 x1c)), (.int (lat8 x2c))] (.int 0))
theorem rm11_34 (l : Launch) (Z : State) (a0 : Array Value) (hw : HW a0 Z) (a1c : Addr) (a2c : Addr) (ka2c : ClassId) (ka1c : ClassId) (x1c : Int32) (x2c : Int32) (h0 : Heap) (n0 : Nat) (P0 : Arv Z h0 a2c ka2c .byte (2 : Int32) [(.int 0), (.int 0)] (.int 0)) (P1 : Arv Z h0 a1c ka1c .char (2 : Int32) [(.int x1c), (.int x2c)] (.int 0)) (g_a2c : n0 ≤ a2c) (ne_a1c_a2c : a1c ≠ a2c) (u0 : ¬ ((255 : Int32) < x1c)) (u1 : ¬ ((255 : Int32) < x2c)) :
  MM l Z Y11 jdk_52_method_21_code 7 (some .int) 0 0 0 0 #[(.ref a1c), (.int 0), (.ref a2c), (.int 0), (.int 2)] h0 (Q11_34 Z a1c a2c ka2c ka1c x1c x2c h0 n0) := by
 refine own_start (fun m => (mkF m 0 (Sh3 a1c 0 a2c 0 2) [])) (plainFor_of_name pn_java_lang_StringUTF16) (by simp [entryFrame, mkF, argsToLocals, Value.category]) n0 ?_
 intro p e s m below meth c s₁ Bd hx hby hml hZ hown hnm X0 e0 N0
 refine GoW.sg (mkF m 12 (Sh4 a1c 0 a2c 0 2 0) [(.int 0), (.ref a1c)]) (fun t k => XS.iconst X0.here hx rfl (hb hby d11_0) (XS.istore X0.here hx rfl (hb hby d11_1) rfl (l' := (Sh4 a1c 0 a2c 0 2 0)) rfl (XS.iload X0.here hx rfl (hb hby d11_3) rfl (XS.iload X0.here hx rfl (hb hby d11_5) rfl (XS.icmpNo X0.here hx rfl (hb hby d11_7) rfl (by decide) (XS.aloadN X0.here hx rfl (hb hby d11_10) rfl rfl (XS.iloadN X0.here hx rfl (hb hby d11_11) rfl k))))))) ?_
 obtain ⟨cl363, Ar363, q363, Sz363, Nn363, Hh363, Gg363⟩ := id P1
 have hin363 : ¬ ((0 : Int32) < 0 ∨ cl363.slots.size ≤ ((0 : Int32)).toNatClampNeg) := inb_of Sz363 ⟨by decide, by decide⟩
 refine GoW.sg (mkF m 13 (Sh4 a1c 0 a2c 0 2 0) [(.int x1c)]) (fun t k => X0.caload hx (j := (0 : Int32)) (v := (.int x1c)) (hq_ e0 Ar363.1) (State.isArrayOf_alike hZ.alike Ar363.2.1) Ar363.2.2 hin363 (Hh363.at hin363 rfl) (g := (mkF m 12 (Sh4 a1c 0 a2c 0 2 0) [(.int 0), (.ref a1c)])) rfl rfl (hb hby d11_12) t k) ?_
 refine GoW.sg (mkF m 31 (Sh5 a1c 0 a2c 0 2 0 x1c) [(.int x1c.toInt8.toInt32), (.int 0), (.ref a2c)]) (fun t k => XS.istore X0.here hx rfl (hb hby d11_13) rfl (l' := (Sh5 a1c 0 a2c 0 2 0 x1c)) rfl (XS.iload X0.here hx rfl (hb hby d11_15) rfl (XS.sipush X0.here hx rfl (hb hby d11_17) (XS.icmpYes X0.here hx rfl (pc0 := 20) (pc' := 26) rfl (hb hby d11_20) rfl (flt u0).2.2.2 (by decide) (by decide) (XS.aloadN X0.here hx rfl (hb hby d11_26) rfl rfl (XS.iloadN X0.here hx rfl (hb hby d11_27) rfl (XS.iload X0.here hx rfl (hb hby d11_28) rfl (XS.i2b X0.here hx rfl (hb hby d11_30) rfl k)))))))) ?_
 obtain ⟨cl364, Ar364, q364, Sz364, Nn364, Hh364, Gg364⟩ := P0
 have hin364 : ¬ ((0 : Int32) < 0 ∨ cl364.slots.size ≤ ((0 : Int32)).toNatClampNeg) := inb_of Sz364 ⟨by decide, by decide⟩
 obtain ⟨T364, h364, X364, e364, W364, st364⟩ := stB X0 hx hZ e0 Ar364 (j := (0 : Int32)) hin364 (g := (mkF m 31 (Sh5 a1c 0 a2c 0 2 0 x1c) [(.int x1c.toInt8.toInt32), (.int 0), (.ref a2c)])) rfl rfl (hb hby d11_31)
 have f364_1 := P1.other W364 ne_a1c_a2c
 have f364_2 := (Keep.refl h0 [a2c]).wr W364 (Or.inl (List.mem_of_getElem? (i := 0) rfl))
 have V364 : Arv Z h364 a2c ka2c .byte (2 : Int32) [(.int (lat8 x1c)), (.int (0 : Int32))] (.int (0 : Int32)) := Arv.set Ar364 q364 Sz364 Nn364 Hh364 Gg364 (fits_nar_byte _) W364 0 rfl (Nat.le_of_ble_eq_true rfl)
 have N364 := Fr.snoc X364 N0 g_a2c
 refine GoW.sg (mkF m 32 (Sh5 a1c 0 a2c 0 2 0 x1c) []) (fun t k => st364 t k) ?_
 refine GoW.sg (mkF m 11 (Sh5 a1c 1 a2c 1 2 1 x1c) [(.ref a1c)]) (fun t k => XS.iinc X364.here hx rfl (hb hby d11_32) rfl (l' := (Sh5 a1c 1 a2c 0 2 0 x1c)) rfl (XS.iinc X364.here hx rfl (hb hby d11_35) rfl (l' := (Sh5 a1c 1 a2c 1 2 0 x1c)) rfl (XS.iinc X364.here hx rfl (hb hby d11_38) rfl (l' := (Sh5 a1c 1 a2c 1 2 1 x1c)) rfl (XS.goto X364.here hx rfl (pc0 := 41) (pc' := 3) rfl (hb hby d11_41) (by decide) (by decide) (XS.iload X364.here hx rfl (hb hby d11_3) rfl (XS.iload X364.here hx rfl (hb hby d11_5) rfl (XS.icmpNo X364.here hx rfl (hb hby d11_7) rfl (by decide) (XS.aloadN X364.here hx rfl (hb hby d11_10) rfl rfl k)))))))) ?_
 refine GoW.sg (mkF m 12 (Sh5 a1c 1 a2c 1 2 1 x1c) [(.int 1), (.ref a1c)]) (fun t k => XS.iloadN X364.here hx rfl (hb hby d11_11) rfl k) ?_
 obtain ⟨cl365, Ar365, q365, Sz365, Nn365, Hh365, Gg365⟩ := id f364_1
 have hin365 : ¬ ((1 : Int32) < 0 ∨ cl365.slots.size ≤ ((1 : Int32)).toNatClampNeg) := inb_of Sz365 ⟨by decide, by decide⟩
 refine GoW.sg (mkF m 13 (Sh5 a1c 1 a2c 1 2 1 x1c) [(.int x2c)]) (fun t k => X364.caload hx (j := (1 : Int32)) (v := (.int x2c)) (hq_ e364 Ar365.1) (State.isArrayOf_alike hZ.alike Ar365.2.1) Ar365.2.2 hin365 (Hh365.at hin365 rfl) (g := (mkF m 12 (Sh5 a1c 1 a2c 1 2 1 x1c) [(.int 1), (.ref a1c)])) rfl rfl (hb hby d11_12) t k) ?_
 refine GoW.sg (mkF m 31 (Sh5 a1c 1 a2c 1 2 1 x2c) [(.int x2c.toInt8.toInt32), (.int 1), (.ref a2c)]) (fun t k => XS.istore X364.here hx rfl (hb hby d11_13) rfl (l' := (Sh5 a1c 1 a2c 1 2 1 x2c)) rfl (XS.iload X364.here hx rfl (hb hby d11_15) rfl (XS.sipush X364.here hx rfl (hb hby d11_17) (XS.icmpYes X364.here hx rfl (pc0 := 20) (pc' := 26) rfl (hb hby d11_20) rfl (flt u1).2.2.2 (by decide) (by decide) (XS.aloadN X364.here hx rfl (hb hby d11_26) rfl rfl (XS.iloadN X364.here hx rfl (hb hby d11_27) rfl (XS.iload X364.here hx rfl (hb hby d11_28) rfl (XS.i2b X364.here hx rfl (hb hby d11_30) rfl k)))))))) ?_
 obtain ⟨cl366, Ar366, q366, Sz366, Nn366, Hh366, Gg366⟩ := V364
 have hin366 : ¬ ((1 : Int32) < 0 ∨ cl366.slots.size ≤ ((1 : Int32)).toNatClampNeg) := inb_of Sz366 ⟨by decide, by decide⟩
 obtain ⟨T366, h366, X366, e366, W366, st366⟩ := stB X364 hx hZ e364 Ar366 (j := (1 : Int32)) hin366 (g := (mkF m 31 (Sh5 a1c 1 a2c 1 2 1 x2c) [(.int x2c.toInt8.toInt32), (.int 1), (.ref a2c)])) rfl rfl (hb hby d11_31)
 have f366_4 := f364_2.wr W366 (Or.inl (List.mem_of_getElem? (i := 0) rfl))
 have V366 : Arv Z h366 a2c ka2c .byte (2 : Int32) [(.int (lat8 x1c)), (.int (lat8 x2c))] (.int (0 : Int32)) := Arv.set Ar366 q366 Sz366 Nn366 Hh366 Gg366 (fits_nar_byte _) W366 1 rfl (Nat.le_of_ble_eq_true rfl)
 have N366 := Fr.snoc X366 N364 g_a2c
 refine GoW.sg (mkF m 32 (Sh5 a1c 1 a2c 1 2 1 x2c) []) (fun t k => st366 t k) ?_
 refine GoW.sg (mkF m 46 (Sh5 a1c 2 a2c 2 2 2 x2c) [(.int 2)]) (fun t k => XS.iinc X366.here hx rfl (hb hby d11_32) rfl (l' := (Sh5 a1c 2 a2c 1 2 1 x2c)) rfl (XS.iinc X366.here hx rfl (hb hby d11_35) rfl (l' := (Sh5 a1c 2 a2c 2 2 1 x2c)) rfl (XS.iinc X366.here hx rfl (hb hby d11_38) rfl (l' := (Sh5 a1c 2 a2c 2 2 2 x2c)) rfl (XS.goto X366.here hx rfl (pc0 := 41) (pc' := 3) rfl (hb hby d11_41) (by decide) (by decide) (XS.iload X366.here hx rfl (hb hby d11_3) rfl (XS.iload X366.here hx rfl (hb hby d11_5) rfl (XS.icmpYes X366.here hx rfl (pc0 := 7) (pc' := 44) rfl (hb hby d11_7) rfl (by decide) (by decide) (by decide) (XS.iload X366.here hx rfl (hb hby d11_44) rfl k)))))))) ?_
 refine GoW.retI X366 hx Bd.returns (hb hby d11_46) Bd.notSynchronized ?_ (by decide) (by decide)
 rw [e366]
 exact ⟨rfl, N366, f366_4, V366⟩
def Q10_35 (Z : State) (a1c : Addr) (ka1c : ClassId) (x1c : Int32) (x2c : Int32) (h0 : Heap) (n0 : Nat) (v : Option Value) (h : Heap) (L : List Loc) : Prop := ∃ e0 : Addr, ∃ ke0 : ClassId, v = some (.ref e0) ∧ Fr n0 L ∧ (Keep h0 h []) ∧ (Arv Z h e0 ke0 .byte (2 : Int32) [(.int (lat8 x1c)), (.int (lat8 x2c))] (.int 0)) ∧ (h0.size ≤ e0)
theorem rm10_35 (l : Launch) (Z : State) (a0 : Array Value) (hw : HW a0 Z) (a1c : Addr) (ka1c : ClassId) (x1c : Int32) (x2c : Int32) (h0 : Heap) (n0 : Nat) (Z0 : n0 ≤ h0.size) (P0 : Arv Z h0 a1c ka1c .char (2 : Int32) [(.int x1c), (.int x2c)] (.int 0)) (u0 : ¬ ((255 : Int32) < x1c)) (u1 : ¬ ((255 : Int32) < x2c)) :
  MM l Z Y10 jdk_52_method_16_code 6 (some (.array .byte)) 1 1 2 18 #[(.ref a1c), (.int 0), (.int 2)] h0 (Q10_35 Z a1c ka1c x1c x2c h0 n0) := by
 refine own_start (fun m => (mkF m 0 (Sh1 a1c 0 2) [])) (plainFor_of_name pn_java_lang_StringUTF16) (by simp [entryFrame, mkF, argsToLocals, Value.category]) n0 ?_
 intro p e s m below meth c s₁ Bd hx hby hml hZ hown hnm X0 e0 N0
 refine GoW.sg (mkF m 1 (Sh1 a1c 0 2) [(.int 2)]) (fun t k => XS.iloadN X0.here hx rfl (hb hby d10_0) rfl k) ?_
 obtain ⟨T368, h368, k368, X368, e368, E368, A368, st368⟩ := newP X0 hx hZ (ww hw 26 rfl) e0 (g := (mkF m 1 (Sh1 a1c 0 2) [(.int 2)])) rfl (hb hby d10_1) rfl (by decide) (cap := 2) (by decide) (by decide) (by decide) (by decide)
 obtain ⟨b368, g368⟩ : ∃ z, z = h0.size := ⟨_, rfl⟩
 rw [← g368] at A368 st368
 have g_b368 : n0 ≤ b368 := Nat.le_trans Z0 (Nat.le_of_eq g368.symm)
 have sz_b368 : h0.size ≤ b368 := Nat.le_trans (Keep.refl h0 []).1 (Nat.le_of_eq g368.symm)
 have ne_a1c_b368 : a1c ≠ b368 := Nat.ne_of_lt (Nat.lt_of_lt_of_eq P0.lt g368.symm)
 have f368_1 := P0.ext E368
 have f368_2 := (Keep.refl h0 []).ext E368
 have V368 : Arv Z h368 b368 k368 .byte (2 : Int32) [(.int (0 : Int32)), (.int (0 : Int32))] (.int (0 : Int32)) := (Arv.new A368 (by decide)).pad (pad_rep [] (.int (0 : Int32)) 2)
 refine GoW.sg (mkF m 3 (Sh1 a1c 0 2) [(.ref b368)]) (fun t k => st368 t k) ?_
 refine GoW.sg (mkF m 9 (Sh2 a1c 0 2 b368) [(.int 2), (.int 0), (.ref b368), (.int 0), (.ref a1c)]) (fun t k => XS.astoreN X368.here hx rfl (hb hby d10_3) rfl rfl (l' := (Sh2 a1c 0 2 b368)) rfl (XS.aloadN X368.here hx rfl (hb hby d10_4) rfl rfl (XS.iloadN X368.here hx rfl (hb hby d10_5) rfl (XS.aloadN X368.here hx rfl (hb hby d10_6) rfl rfl (XS.iconst X368.here hx rfl (hb hby d10_7) (XS.iloadN X368.here hx rfl (hb hby d10_8) rfl k)))))) ?_
 obtain ⟨_, T373, L373, X373, hQ373, st373⟩ := own_callS X368 hx hZ hown (y := Y11) (ww hw 52 rfl) (ww hw 53 rfl) (ww hw 50 rfl) (ww hw 54 rfl) (by decide) 0 (rm11_34 l Z a0 hw a1c b368 k368 ka1c x1c x2c h368 n0  V368 f368_1 g_b368 ne_a1c_b368 u0 u1  ) (by decide) (by decide) e368 (by decide) (by decide) (g := (mkF m 9 (Sh2 a1c 0 2 b368) [(.int 2), (.int 0), (.ref b368), (.int 0), (.ref a1c)])) rfl (by rw [hml]; rfl) (argsL := [(.ref a1c), (.int (0 : Int32)), (.ref b368), (.int (0 : Int32)), (.int (2 : Int32))]) (rest := []) (lenOf pd_285bCI5bBII29I rfl) rfl (by show 2 * 0 + _ ≤ _; exact Nat.le_of_eq rfl) (hb hby d10_9)
 obtain ⟨rfl, N373q, K373, p373_0⟩ := hQ373
 have N373 := Fr.app N0 N373q
 have f373_5 := f368_2.trans K373 (allS (Or.inr sz_b368) all0)
 refine GoW.sg (mkF m 12 (Sh2 a1c 0 2 b368) [(.int 2)]) (fun t k => st373 t k) ?_
 refine GoW.sg (mkF m 58 (Sh6 a1c 0 2 b368 2) [(.ref b368)]) (fun t k => XS.istore X373.here hx rfl (hb hby d10_12) rfl (l' := (Sh6 a1c 0 2 b368 2)) rfl (XS.iload X373.here hx rfl (hb hby d10_14) rfl (XS.iloadN X373.here hx rfl (hb hby d10_16) rfl (XS.icmpYes X373.here hx rfl (pc0 := 17) (pc' := 57) rfl (hb hby d10_17) rfl (by decide) (by decide) (by decide) (XS.aloadN X373.here hx rfl (hb hby d10_57) rfl rfl k))))) ?_
 refine GoW.retA X373 hx Bd.returns rfl rfl rfl (hb hby d10_58) Bd.notSynchronized ?_ (by decide) (by decide)
 exact ⟨b368, k368, rfl, N373, f373_5, p373_0, sz_b368⟩
def Q12_36 (Z : State) (a1c : Addr) (ka1c : ClassId) (x1c : Int32) (x2c : Int32) (h0 : Heap) (n0 : Nat) (v : Option Value) (h : Heap) (L : List Loc) : Prop := v = some (.int 0) ∧ Fr n0 L ∧ (h = h0)
theorem rm12_36 (l : Launch) (Z : State) (a0 : Array Value) (hw : HW a0 Z) (a1c : Addr) (ka1c : ClassId) (x1c : Int32) (x2c : Int32) (h0 : Heap) (n0 : Nat) (P0 : Arv Z h0 a1c ka1c .byte (2 : Int32) [(.int x1c), (.int x2c)] (.int 0)) :
  MM l Z Y12 jdk_52_method_15_code 2 (some .byte) 0 0 0 0 #[(.ref a1c), (.int 2)] h0 (Q12_36 Z a1c ka1c x1c x2c h0 n0) := by
 refine own_start (fun m => (mkF m 0 #[.val (.ref a1c), .val (.int 2)] [])) (plainFor_of_name pn_java_lang_StringUTF16) (by simp [entryFrame, mkF, argsToLocals, Value.category]) n0 ?_
 intro p e s m below meth c s₁ Bd hx hby hml hZ hown hnm X0 e0 N0
 refine GoW.sg (mkF m 2 #[.val (.ref a1c), .val (.int 2)] [(.ref a1c), (.int 2)]) (fun t k => XS.iloadN X0.here hx rfl (hb hby d12_0) rfl (XS.aloadN X0.here hx rfl (hb hby d12_1) rfl rfl k)) ?_
 obtain ⟨cl376, Ar376, q376, Sz376, Nn376, Hh376, Gg376⟩ := id P0
 have st376 := X0.arraylength hx (hq_ e0 Ar376.1) (State.isArrayOf_alike hZ.alike Ar376.2.1) (g := (mkF m 2 #[.val (.ref a1c), .val (.int 2)] [(.ref a1c), (.int 2)])) rfl rfl (hb hby d12_2)
 rw [len_of Sz376 Nn376] at st376
 refine GoW.sg (mkF m 3 #[.val (.ref a1c), .val (.int 2)] [(.int 2), (.int 2)]) (fun t k => st376 t k) ?_
 refine GoW.st (fun t k => XS.isub X0.here hx rfl (hb hby d12_3) rfl k) ?_
 rw [show ((2 : Int32) - (2 : Int32)) = (0 : Int32) from by decide]
 show GoW p e below s (Q12_36 Z a1c ka1c x1c x2c h0 n0) 0 0 (s₁.setTop (mkF m 4 #[.val (.ref a1c), .val (.int 2)] [(.int 0)]))
 refine GoW.sg (mkF m 6 #[.val (.ref a1c), .val (.int 2)] [(.int 31), (.int 0)]) (fun t k => XS.bipush X0.here hx rfl (hb hby d12_4) k) ?_
 refine GoW.st (fun t k => XS.iushr X0.here hx rfl (hb hby d12_6) rfl k) ?_
 rw [show ((0 : Int32).toUInt32 >>> ((31 : Int32) &&& 31).toUInt32).toInt32 = (0 : Int32) from by decide]
 show GoW p e below s (Q12_36 Z a1c ka1c x1c x2c h0 n0) 0 0 (s₁.setTop (mkF m 7 #[.val (.ref a1c), .val (.int 2)] [(.int 0)]))
 refine GoW.st (fun t k => XS.i2b X0.here hx rfl (hb hby d12_7) rfl k) ?_
 rw [show (0 : Int32).toInt8.toInt32 = (0 : Int32) from by decide]
 show GoW p e below s (Q12_36 Z a1c ka1c x1c x2c h0 n0) 0 0 (s₁.setTop (mkF m 8 #[.val (.ref a1c), .val (.int 2)] [(.int 0)]))
 refine GoW.retN X0 hx (t := .byte) Bd.returns (by simp) (hb hby d12_8) Bd.notSynchronized ?_ (by decide) (by decide)
 rw [e0]
 exact ⟨rfl, N0, rfl⟩
def Q5_37 (Z : State) (a1c : Addr) (a2c : Addr) (ka2c : ClassId) (x1c : Int32) (x2c : Int32) (x3c : Int32) (h0 : Heap) (n0 : Nat) (v : Option Value) (h : Heap) (L : List Loc) : Prop := ∃ e0 : Addr, ∃ ke0 : ClassId, v = none ∧ Fr n0 L ∧ (Keep h0 h [a1c]) ∧ (Exa Z h a1c "java/lang/String") ∧ (Fld Z h a1c "java/lang/String" "coder" "B" (.int 0)) ∧ (Fld Z h a1c "java/lang/String" "value" "[B" (.ref e0)) ∧ (Arv Z h e0 ke0 .byte (2 : Int32) [(.int (lat8 x1c)), (.int (lat8 x2c))] (.int 0)) ∧ (h0.size ≤ e0)
theorem rm5_37 (l : Launch) (Z : State) (a0 : Array Value) (hw : HW a0 Z) (a1c : Addr) (a2c : Addr) (ka2c : ClassId) (x1c : Int32) (x2c : Int32) (x3c : Int32) (h0 : Heap) (n0 : Nat) (Z0 : n0 ≤ h0.size) (P0 : Exa Z h0 a1c "java/lang/String") (P1 : Fld Z h0 a1c "java/lang/String" "coder" "B" (.int 0)) (P2 : Fld Z h0 a1c "java/lang/String" "value" "[B" .null) (P3 : Arv Z h0 a2c ka2c .char (2 : Int32) [(.int x1c), (.int x2c)] (.int 0)) (P4 : Sta Z h0 "java/lang/String" "COMPACT_STRINGS" "Z" (.int x3c)) (g_a1c : n0 ≤ a1c) (u0 : ¬ (x3c = (0 : Int32))) (u1 : ¬ ((255 : Int32) < x1c)) (u2 : ¬ ((255 : Int32) < x2c)) :
  MM l Z Y5 jdk_42_method_149_code 6 none 2 1 2 35 #[(.ref a1c), (.ref a2c), (.int 0), (.int 2), .null] h0 (Q5_37 Z a1c a2c ka2c x1c x2c x3c h0 n0) := by
 refine own_start (fun m => (mkF m 0 (Sh0 a1c a2c 0 2) [])) (plainFor_of_name pn_java_lang_String) (by simp [entryFrame, mkF, argsToLocals, Value.category]) n0 ?_
 intro p e s m below meth c s₁ Bd hx hby hml hZ hown hnm X0 e0 N0
 refine GoW.sg (mkF m 1 (Sh0 a1c a2c 0 2) [(.ref a1c)]) (fun t k => XS.aloadN X0.here hx rfl (hb hby d5_0) rfl rfl k) ?_
 obtain ⟨T380, X380, e380, st380⟩ := initO X0 hx hZ hown (ww hw 22 rfl) (ww hw 23 rfl) (ww hw 24 rfl) e0 (g := (mkF m 1 (Sh0 a1c a2c 0 2) [(.ref a1c)])) rfl (by rw [hml]; rfl) rfl (hb hby d5_1) (by decide) (W := 0) (by show 2 * 0 + _ ≤ _; exact Nat.le_of_eq rfl) (by decide)
 refine GoW.sg (mkF m 4 (Sh0 a1c a2c 0 2) []) (fun t k => st380 t k) ?_
 refine GoW.sg (mkF m 27 (Sh0 a1c a2c 0 2) []) (fun t k => XS.iloadN X380.here hx rfl (hb hby d5_4) rfl (XS.ifYes X380.here hx rfl (pc0 := 5) (pc' := 27) rfl (hb hby d5_5) rfl (by decide) (by decide) (by decide) k)) ?_
 obtain ⟨T381, X381, e381, st381⟩ := getS (host := "") X380 hx hZ hown (ww hw 47 rfl) Via.refl e380 P4 (g := (mkF m 27 (Sh0 a1c a2c 0 2) [])) rfl (hb hby d5_27)
 refine GoW.sg (mkF m 30 (Sh0 a1c a2c 0 2) [(.int x3c)]) (fun t k => st381 t k) ?_
 refine GoW.sg (mkF m 36 (Sh0 a1c a2c 0 2) [(.int 2), (.int 0), (.ref a2c)]) (fun t k => XS.ifNo X381.here hx rfl (hb hby d5_30) rfl ((if0 _ _).trans (feq u0).1) (XS.aloadN X381.here hx rfl (hb hby d5_33) rfl rfl (XS.iloadN X381.here hx rfl (hb hby d5_34) rfl (XS.iloadN X381.here hx rfl (hb hby d5_35) rfl k)))) ?_
 obtain ⟨_, T388, L388, X388, hQ388, st388⟩ := own_callS X381 hx hZ hown (y := Y10) (ww hw 48 rfl) (ww hw 49 rfl) (ww hw 50 rfl) (ww hw 51 rfl) (by decide) 0 (rm10_35 l Z a0 hw a2c ka2c x1c x2c h0 n0 Z0 P3   u1 u2  ) (by decide) (by decide) e381 (by decide) (by decide) (g := (mkF m 36 (Sh0 a1c a2c 0 2) [(.int 2), (.int 0), (.ref a2c)])) rfl (by rw [hml]; rfl) (argsL := [(.ref a2c), (.int (0 : Int32)), (.int (2 : Int32))]) (rest := []) (lenOf pd_285bCII295bB rfl) rfl (by show 2 * 0 + _ ≤ _; exact Nat.le_of_eq rfl) (hb hby d5_36)
 obtain ⟨b388_e0, k388_ke0, rfl, N388q, K388, p388_0, hz_b388_e0⟩ := hQ388
 have sz_b388_e0 : h0.size ≤ b388_e0 := Nat.le_trans (Keep.refl h0 [a1c]).1 hz_b388_e0
 have ne_a1c_b388_e0 : a1c ≠ b388_e0 := Nat.ne_of_lt (Nat.lt_of_lt_of_le P0.lt hz_b388_e0)
 have N388 := Fr.app N0 N388q
 have f388_1 := P0.keep K388
 have f388_2 := P1.keep K388 nin0
 have f388_3 := P2.keep K388 nin0
 have f388_6 := (Keep.refl h0 [a1c]).trans K388 all0
 refine GoW.sg (mkF m 39 (Sh0 a1c a2c 0 2) [(.ref b388_e0)]) (fun t k => st388 t k) ?_
 refine GoW.sg (mkF m 45 (Sh12 a1c a2c 0 2 b388_e0) [(.int 2), (.ref b388_e0), (.ref a1c)]) (fun t k => XS.astore X388.here hx rfl (hb hby d5_39) rfl rfl (l' := (Sh12 a1c a2c 0 2 b388_e0)) rfl (XS.aloadN X388.here hx rfl (hb hby d5_41) rfl rfl (XS.aload X388.here hx rfl (hb hby d5_42) rfl rfl (XS.iloadN X388.here hx rfl (hb hby d5_44) rfl k)))) ?_
 obtain ⟨_, T390, L390, X390, hQ390, st390⟩ := own_callS X388 hx hZ hown (y := Y12) (ww hw 55 rfl) (ww hw 56 rfl) (ww hw 50 rfl) (ww hw 57 rfl) (by decide) 1 (rm12_36 l Z a0 hw b388_e0 k388_ke0 (lat8 x1c) (lat8 x2c) T388.heap n0  p388_0     ) (by decide) (by decide) rfl (by decide) (by decide) (g := (mkF m 45 (Sh12 a1c a2c 0 2 b388_e0) [(.int 2), (.ref b388_e0), (.ref a1c)])) rfl (by rw [hml]; rfl) (argsL := [(.ref b388_e0), (.int (2 : Int32))]) (rest := [(.ref a1c)]) (lenOf pd_285bBI29B rfl) rfl (by show 2 * 0 + _ ≤ _; exact Nat.le_of_eq rfl) (hb hby d5_45)
 obtain ⟨rfl, N390q, e390⟩ := hQ390
 have N390 := Fr.app N388 N390q
 refine GoW.sg (mkF m 48 (Sh12 a1c a2c 0 2 b388_e0) [(.int 0), (.ref a1c)]) (fun t k => st390 t k) ?_
 obtain ⟨T391, h391, X391, e391, W391, st391⟩ := putF X390 hx hZ hown (host := "") (Or.inl (ww hw 32 rfl)) Via.refl e390 f388_2 f388_1 (Or.inr ⟨(ww hw 28 rfl), rfl, hnm⟩) (ww hw 12 rfl) (ty := .byte) (by decide) rfl rfl (g := (mkF m 48 (Sh12 a1c a2c 0 2 b388_e0) [(.int 0), (.ref a1c)])) rfl rfl (hb hby d5_48)
 have N391 := Fr.snoc X391 N390 g_a1c
 have f391_8 := f388_1.wr W391
 have f391_9 := f388_3.other W391 (Or.inr (slot_ne (t := (.array .byte)) (t' := .byte) (Or.inr (ww hw 27 rfl)) (Or.inr (ww hw 28 rfl)) (by decide) (by decide) (by decide)))
 have f391_11 := f388_6.wr W391 (Or.inl (List.mem_of_getElem? (i := 0) rfl))
 have f391_13 := p388_0.other W391 (Ne.symm ne_a1c_b388_e0)
 have F391coder : Fld Z h391 a1c "java/lang/String" "coder" "B" (.int (0 : Int32)) := f388_2.same W391
 refine GoW.sg (mkF m 51 (Sh12 a1c a2c 0 2 b388_e0) []) (fun t k => st391 t k) ?_
 refine GoW.sg (mkF m 54 (Sh12 a1c a2c 0 2 b388_e0) [(.ref b388_e0), (.ref a1c)]) (fun t k => XS.aloadN X391.here hx rfl (hb hby d5_51) rfl rfl (XS.aload X391.here hx rfl (hb hby d5_52) rfl rfl k)) ?_
 obtain ⟨T392, h392, X392, e392, W392, st392⟩ := putF X391 hx hZ hown (host := "") (Or.inl (ww hw 31 rfl)) Via.refl e391 f391_9 f391_8 (Or.inr ⟨(ww hw 27 rfl), rfl, hnm⟩) (ww hw 12 rfl) (ty := (.array .byte)) (by decide) rfl rfl (g := (mkF m 54 (Sh12 a1c a2c 0 2 b388_e0) [(.ref b388_e0), (.ref a1c)])) rfl rfl (hb hby d5_54)
 have N392 := Fr.snoc X392 N391 g_a1c
 have f392_14 := f391_8.wr W392
 have f392_15 := F391coder.other W392 (Or.inr (slot_ne (t := .byte) (t' := (.array .byte)) (Or.inr (ww hw 28 rfl)) (Or.inr (ww hw 27 rfl)) (by decide) (by decide) (by decide)))
 have f392_17 := f391_11.wr W392 (Or.inl (List.mem_of_getElem? (i := 0) rfl))
 have f392_19 := f391_13.other W392 (Ne.symm ne_a1c_b388_e0)
 have F392value : Fld Z h392 a1c "java/lang/String" "value" "[B" (.ref b388_e0) := f391_9.same W392
 refine GoW.sg (mkF m 57 (Sh12 a1c a2c 0 2 b388_e0) []) (fun t k => st392 t k) ?_
 refine GoW.retV X392 hx Bd.returns (hb hby d5_57) Bd.notSynchronized ?_ (by decide) (by decide)
 rw [e392]
 exact ⟨b388_e0, k388_ke0, rfl, N392, f392_17, f392_14, f392_15, F392value, f392_19, sz_b388_e0⟩
def Q4_39 (Z : State) (a1c : Addr) (a2c : Addr) (ka2c : ClassId) (x1c : Int32) (x2c : Int32) (x3c : Int32) (h0 : Heap) (n0 : Nat) (v : Option Value) (h : Heap) (L : List Loc) : Prop := ∃ e0 : Addr, ∃ ke0 : ClassId, v = none ∧ Fr n0 L ∧ (Keep h0 h [a1c]) ∧ (Exa Z h a1c "java/lang/String") ∧ (Fld Z h a1c "java/lang/String" "coder" "B" (.int 1)) ∧ (Fld Z h a1c "java/lang/String" "value" "[B" (.ref e0)) ∧ (Arv Z h e0 ke0 .byte (4 : Int32) [(.int (lo8 x1c)), (.int (hi8 x1c)), (.int (lo8 x2c)), (.int (hi8 x2c))] (.int 0)) ∧ (h0.size ≤ e0)
theorem rm4_39 (l : Launch) (Z : State) (a0 : Array Value) (hw : HW a0 Z) (a1c : Addr) (a2c : Addr) (ka2c : ClassId) (x1c : Int32) (x2c : Int32) (x3c : Int32) (h0 : Heap) (n0 : Nat) (Z0 : n0 ≤ h0.size) (P0 : Exa Z h0 a1c "java/lang/String") (P1 : Fld Z h0 a1c "java/lang/String" "coder" "B" (.int 0)) (P2 : Fld Z h0 a1c "java/lang/String" "value" "[B" .null) (P3 : Arv Z h0 a2c ka2c .char (2 : Int32) [(.int x1c), (.int x2c)] (.int 0)) (P4 : Sta Z h0 "java/lang/String" "COMPACT_STRINGS" "Z" (.int x3c)) (P5 : Sta Z h0 "java/lang/StringUTF16" "$assertionsDisabled" "Z" (.int 1)) (P6 : Sta Z h0 "java/lang/StringUTF16" "HI_BYTE_SHIFT" "I" (.int 0)) (P7 : Sta Z h0 "java/lang/StringUTF16" "LO_BYTE_SHIFT" "I" (.int 8)) (g_a1c : n0 ≤ a1c) (u0 : ¬ (x1c < (0 : Int32))) (u1 : ¬ ((65535 : Int32) < x1c)) (u2 : ¬ (x3c = (0 : Int32))) (u3 : (255 : Int32) < x1c) :
  MM l Z Y4 jdk_42_method_3_code 2 none 5 2 6 74 #[(.ref a1c), (.ref a2c)] h0 (Q4_39 Z a1c a2c ka2c x1c x2c x3c h0 n0) := by
 refine own_start (fun m => (mkF m 0 #[.val (.ref a1c), .val (.ref a2c)] [])) (plainFor_of_name pn_java_lang_String) (by simp [entryFrame, mkF, argsToLocals, Value.category]) n0 ?_
 intro p e s m below meth c s₁ Bd hx hby hml hZ hown hnm X0 e0 N0
 refine GoW.sg (mkF m 4 #[.val (.ref a1c), .val (.ref a2c)] [(.ref a2c), (.int 0), (.ref a2c), (.ref a1c)]) (fun t k => XS.aloadN X0.here hx rfl (hb hby d4_0) rfl rfl (XS.aloadN X0.here hx rfl (hb hby d4_1) rfl rfl (XS.iconst X0.here hx rfl (hb hby d4_2) (XS.aloadN X0.here hx rfl (hb hby d4_3) rfl rfl k)))) ?_
 obtain ⟨cl404, Ar404, q404, Sz404, Nn404, Hh404, Gg404⟩ := id P3
 have st404 := X0.arraylength hx (hq_ e0 Ar404.1) (State.isArrayOf_alike hZ.alike Ar404.2.1) (g := (mkF m 4 #[.val (.ref a1c), .val (.ref a2c)] [(.ref a2c), (.int 0), (.ref a2c), (.ref a1c)])) rfl rfl (hb hby d4_4)
 rw [len_of Sz404 Nn404] at st404
 refine GoW.sg (mkF m 5 #[.val (.ref a1c), .val (.ref a2c)] [(.int 2), (.int 0), (.ref a2c), (.ref a1c)]) (fun t k => st404 t k) ?_
 refine GoW.sg (mkF m 6 #[.val (.ref a1c), .val (.ref a2c)] [.null, (.int 2), (.int 0), (.ref a2c), (.ref a1c)]) (fun t k => XS.aconstNull X0.here hx rfl (hb hby d4_5) k) ?_
 obtain ⟨_, T405, L405, X405, hQ405, st405⟩ := own_spec X0 hx hZ (y := Y5) rfl hown (ww hw 18 rfl) (ww hw 19 rfl) (ww hw 13 rfl) (ww hw 21 rfl) (by decide) 0 (a := a1c) (rm5_27 l Z a0 hw a1c a2c ka2c x1c x2c x3c h0 n0 Z0 P0 P1 P2 P3 P4 P5 P6 P7 g_a1c  u0 u1 u2 u3  ) (by decide) (by decide) e0 (by decide) (by decide) (g := (mkF m 6 #[.val (.ref a1c), .val (.ref a2c)] [.null, (.int 2), (.int 0), (.ref a2c), (.ref a1c)])) rfl (by rw [hml]; rfl) (argsL := [(.ref a2c), (.int (0 : Int32)), (.int (2 : Int32)), .null]) (rest := []) (lenOf pd_285bCIILjava2flang2fVoid3b29V rfl) rfl (by show 2 * 0 + _ ≤ _; exact Nat.le_of_eq rfl) (hb hby d4_6)
 obtain ⟨b405_e0, k405_ke0, rfl, N405q, K405, p405_0, p405_1, p405_2, p405_3, hz_b405_e0⟩ := hQ405
 have sz_b405_e0 : h0.size ≤ b405_e0 := Nat.le_trans (Keep.refl h0 [a1c]).1 hz_b405_e0
 have N405 := Fr.app N0 N405q
 have f405_5 := (Keep.refl h0 [a1c]).trans K405 (allS (Or.inl (List.mem_of_getElem? (i := 0) rfl)) all0)
 refine GoW.sg (mkF m 9 #[.val (.ref a1c), .val (.ref a2c)] []) (fun t k => st405 t k) ?_
 refine GoW.retV X405 hx Bd.returns (hb hby d4_9) Bd.notSynchronized ?_ (by decide) (by decide)
 exact ⟨b405_e0, k405_ke0, rfl, N405, f405_5, p405_0, p405_1, p405_2, p405_3, sz_b405_e0⟩
def Q4_40 (Z : State) (a1c : Addr) (a2c : Addr) (ka2c : ClassId) (x1c : Int32) (x2c : Int32) (x3c : Int32) (h0 : Heap) (n0 : Nat) (v : Option Value) (h : Heap) (L : List Loc) : Prop := ∃ e0 : Addr, ∃ ke0 : ClassId, v = none ∧ Fr n0 L ∧ (Keep h0 h [a1c]) ∧ (Exa Z h a1c "java/lang/String") ∧ (Fld Z h a1c "java/lang/String" "coder" "B" (.int 1)) ∧ (Fld Z h a1c "java/lang/String" "value" "[B" (.ref e0)) ∧ (Arv Z h e0 ke0 .byte (4 : Int32) [(.int (lo8 x1c)), (.int (hi8 x1c)), (.int (lo8 x2c)), (.int (hi8 x2c))] (.int 0)) ∧ (h0.size ≤ e0)
theorem rm4_40 (l : Launch) (Z : State) (a0 : Array Value) (hw : HW a0 Z) (a1c : Addr) (a2c : Addr) (ka2c : ClassId) (x1c : Int32) (x2c : Int32) (x3c : Int32) (h0 : Heap) (n0 : Nat) (Z0 : n0 ≤ h0.size) (P0 : Exa Z h0 a1c "java/lang/String") (P1 : Fld Z h0 a1c "java/lang/String" "coder" "B" (.int 0)) (P2 : Fld Z h0 a1c "java/lang/String" "value" "[B" .null) (P3 : Arv Z h0 a2c ka2c .char (2 : Int32) [(.int x1c), (.int x2c)] (.int 0)) (P4 : Sta Z h0 "java/lang/String" "COMPACT_STRINGS" "Z" (.int x3c)) (P5 : Sta Z h0 "java/lang/StringUTF16" "$assertionsDisabled" "Z" (.int 1)) (P6 : Sta Z h0 "java/lang/StringUTF16" "HI_BYTE_SHIFT" "I" (.int 0)) (P7 : Sta Z h0 "java/lang/StringUTF16" "LO_BYTE_SHIFT" "I" (.int 8)) (g_a1c : n0 ≤ a1c) (u0 : ¬ (x2c < (0 : Int32))) (u1 : ¬ ((65535 : Int32) < x2c)) (u2 : ¬ (x3c = (0 : Int32))) (u3 : ¬ ((255 : Int32) < x1c)) (u4 : (255 : Int32) < x2c) :
  MM l Z Y4 jdk_42_method_3_code 2 none 5 2 6 74 #[(.ref a1c), (.ref a2c)] h0 (Q4_40 Z a1c a2c ka2c x1c x2c x3c h0 n0) := by
 refine own_start (fun m => (mkF m 0 #[.val (.ref a1c), .val (.ref a2c)] [])) (plainFor_of_name pn_java_lang_String) (by simp [entryFrame, mkF, argsToLocals, Value.category]) n0 ?_
 intro p e s m below meth c s₁ Bd hx hby hml hZ hown hnm X0 e0 N0
 refine GoW.sg (mkF m 4 #[.val (.ref a1c), .val (.ref a2c)] [(.ref a2c), (.int 0), (.ref a2c), (.ref a1c)]) (fun t k => XS.aloadN X0.here hx rfl (hb hby d4_0) rfl rfl (XS.aloadN X0.here hx rfl (hb hby d4_1) rfl rfl (XS.iconst X0.here hx rfl (hb hby d4_2) (XS.aloadN X0.here hx rfl (hb hby d4_3) rfl rfl k)))) ?_
 obtain ⟨cl408, Ar408, q408, Sz408, Nn408, Hh408, Gg408⟩ := id P3
 have st408 := X0.arraylength hx (hq_ e0 Ar408.1) (State.isArrayOf_alike hZ.alike Ar408.2.1) (g := (mkF m 4 #[.val (.ref a1c), .val (.ref a2c)] [(.ref a2c), (.int 0), (.ref a2c), (.ref a1c)])) rfl rfl (hb hby d4_4)
 rw [len_of Sz408 Nn408] at st408
 refine GoW.sg (mkF m 5 #[.val (.ref a1c), .val (.ref a2c)] [(.int 2), (.int 0), (.ref a2c), (.ref a1c)]) (fun t k => st408 t k) ?_
 refine GoW.sg (mkF m 6 #[.val (.ref a1c), .val (.ref a2c)] [.null, (.int 2), (.int 0), (.ref a2c), (.ref a1c)]) (fun t k => XS.aconstNull X0.here hx rfl (hb hby d4_5) k) ?_
 obtain ⟨_, T409, L409, X409, hQ409, st409⟩ := own_spec X0 hx hZ (y := Y5) rfl hown (ww hw 18 rfl) (ww hw 19 rfl) (ww hw 13 rfl) (ww hw 21 rfl) (by decide) 0 (a := a1c) (rm5_32 l Z a0 hw a1c a2c ka2c x1c x2c x3c h0 n0 Z0 P0 P1 P2 P3 P4 P5 P6 P7 g_a1c  u0 u1 u2 u3 u4  ) (by decide) (by decide) e0 (by decide) (by decide) (g := (mkF m 6 #[.val (.ref a1c), .val (.ref a2c)] [.null, (.int 2), (.int 0), (.ref a2c), (.ref a1c)])) rfl (by rw [hml]; rfl) (argsL := [(.ref a2c), (.int (0 : Int32)), (.int (2 : Int32)), .null]) (rest := []) (lenOf pd_285bCIILjava2flang2fVoid3b29V rfl) rfl (by show 2 * 0 + _ ≤ _; exact Nat.le_of_eq rfl) (hb hby d4_6)
 obtain ⟨b409_e0, k409_ke0, rfl, N409q, K409, p409_0, p409_1, p409_2, p409_3, hz_b409_e0⟩ := hQ409
 have sz_b409_e0 : h0.size ≤ b409_e0 := Nat.le_trans (Keep.refl h0 [a1c]).1 hz_b409_e0
 have N409 := Fr.app N0 N409q
 have f409_5 := (Keep.refl h0 [a1c]).trans K409 (allS (Or.inl (List.mem_of_getElem? (i := 0) rfl)) all0)
 refine GoW.sg (mkF m 9 #[.val (.ref a1c), .val (.ref a2c)] []) (fun t k => st409 t k) ?_
 refine GoW.retV X409 hx Bd.returns (hb hby d4_9) Bd.notSynchronized ?_ (by decide) (by decide)
 exact ⟨b409_e0, k409_ke0, rfl, N409, f409_5, p409_0, p409_1, p409_2, p409_3, sz_b409_e0⟩
def Q4_41 (Z : State) (a1c : Addr) (a2c : Addr) (ka2c : ClassId) (x1c : Int32) (x2c : Int32) (x3c : Int32) (h0 : Heap) (n0 : Nat) (v : Option Value) (h : Heap) (L : List Loc) : Prop := ∃ e0 : Addr, ∃ ke0 : ClassId, v = none ∧ Fr n0 L ∧ (Keep h0 h [a1c]) ∧ (Exa Z h a1c "java/lang/String") ∧ (Fld Z h a1c "java/lang/String" "coder" "B" (.int 0)) ∧ (Fld Z h a1c "java/lang/String" "value" "[B" (.ref e0)) ∧ (Arv Z h e0 ke0 .byte (2 : Int32) [(.int (lat8 x1c)), (.int (lat8 x2c))] (.int 0)) ∧ (h0.size ≤ e0)
theorem rm4_41 (l : Launch) (Z : State) (a0 : Array Value) (hw : HW a0 Z) (a1c : Addr) (a2c : Addr) (ka2c : ClassId) (x1c : Int32) (x2c : Int32) (x3c : Int32) (h0 : Heap) (n0 : Nat) (Z0 : n0 ≤ h0.size) (P0 : Exa Z h0 a1c "java/lang/String") (P1 : Fld Z h0 a1c "java/lang/String" "coder" "B" (.int 0)) (P2 : Fld Z h0 a1c "java/lang/String" "value" "[B" .null) (P3 : Arv Z h0 a2c ka2c .char (2 : Int32) [(.int x1c), (.int x2c)] (.int 0)) (P4 : Sta Z h0 "java/lang/String" "COMPACT_STRINGS" "Z" (.int x3c)) (g_a1c : n0 ≤ a1c) (u0 : ¬ (x3c = (0 : Int32))) (u1 : ¬ ((255 : Int32) < x1c)) (u2 : ¬ ((255 : Int32) < x2c)) :
  MM l Z Y4 jdk_42_method_3_code 2 none 5 2 6 74 #[(.ref a1c), (.ref a2c)] h0 (Q4_41 Z a1c a2c ka2c x1c x2c x3c h0 n0) := by
 refine own_start (fun m => (mkF m 0 #[.val (.ref a1c), .val (.ref a2c)] [])) (plainFor_of_name pn_java_lang_String) (by simp [entryFrame, mkF, argsToLocals, Value.category]) n0 ?_
 intro p e s m below meth c s₁ Bd hx hby hml hZ hown hnm X0 e0 N0
 refine GoW.sg (mkF m 4 #[.val (.ref a1c), .val (.ref a2c)] [(.ref a2c), (.int 0), (.ref a2c), (.ref a1c)]) (fun t k => XS.aloadN X0.here hx rfl (hb hby d4_0) rfl rfl (XS.aloadN X0.here hx rfl (hb hby d4_1) rfl rfl (XS.iconst X0.here hx rfl (hb hby d4_2) (XS.aloadN X0.here hx rfl (hb hby d4_3) rfl rfl k)))) ?_
 obtain ⟨cl412, Ar412, q412, Sz412, Nn412, Hh412, Gg412⟩ := id P3
 have st412 := X0.arraylength hx (hq_ e0 Ar412.1) (State.isArrayOf_alike hZ.alike Ar412.2.1) (g := (mkF m 4 #[.val (.ref a1c), .val (.ref a2c)] [(.ref a2c), (.int 0), (.ref a2c), (.ref a1c)])) rfl rfl (hb hby d4_4)
 rw [len_of Sz412 Nn412] at st412
 refine GoW.sg (mkF m 5 #[.val (.ref a1c), .val (.ref a2c)] [(.int 2), (.int 0), (.ref a2c), (.ref a1c)]) (fun t k => st412 t k) ?_
 refine GoW.sg (mkF m 6 #[.val (.ref a1c), .val (.ref a2c)] [.null, (.int 2), (.int 0), (.ref a2c), (.ref a1c)]) (fun t k => XS.aconstNull X0.here hx rfl (hb hby d4_5) k) ?_
 obtain ⟨_, T413, L413, X413, hQ413, st413⟩ := own_spec X0 hx hZ (y := Y5) rfl hown (ww hw 18 rfl) (ww hw 19 rfl) (ww hw 13 rfl) (ww hw 21 rfl) (by decide) 0 (a := a1c) (rm5_37 l Z a0 hw a1c a2c ka2c x1c x2c x3c h0 n0 Z0 P0 P1 P2 P3 P4 g_a1c  u0 u1 u2  ) (by decide) (by decide) e0 (by decide) (by decide) (g := (mkF m 6 #[.val (.ref a1c), .val (.ref a2c)] [.null, (.int 2), (.int 0), (.ref a2c), (.ref a1c)])) rfl (by rw [hml]; rfl) (argsL := [(.ref a2c), (.int (0 : Int32)), (.int (2 : Int32)), .null]) (rest := []) (lenOf pd_285bCIILjava2flang2fVoid3b29V rfl) rfl (by show 2 * 0 + _ ≤ _; exact Nat.le_of_eq rfl) (hb hby d4_6)
 obtain ⟨b413_e0, k413_ke0, rfl, N413q, K413, p413_0, p413_1, p413_2, p413_3, hz_b413_e0⟩ := hQ413
 have sz_b413_e0 : h0.size ≤ b413_e0 := Nat.le_trans (Keep.refl h0 [a1c]).1 hz_b413_e0
 have N413 := Fr.app N0 N413q
 have f413_2 := (Keep.refl h0 [a1c]).trans K413 (allS (Or.inl (List.mem_of_getElem? (i := 0) rfl)) all0)
 refine GoW.sg (mkF m 9 #[.val (.ref a1c), .val (.ref a2c)] []) (fun t k => st413 t k) ?_
 refine GoW.retV X413 hx Bd.returns (hb hby d4_9) Bd.notSynchronized ?_ (by decide) (by decide)
 exact ⟨b413_e0, k413_ke0, rfl, N413, f413_2, p413_0, p413_1, p413_2, p413_3, sz_b413_e0⟩
def QS2 (Z : State) (a1 : Addr) (c0 : Int32) (c1 : Int32) (h0 : Heap) (n0 : Nat) (v : Option Value) (h : Heap) (L : List Loc) : Prop := v = none ∧ Fr n0 L ∧ Keep h0 h [a1] ∧ Exa Z h a1 "java/lang/String" ∧ Str2 Z h a1 c0 c1
theorem rmS2 (l : Launch) (Z : State) (a0 : Array Value) (hw : HW a0 Z) (a1 a2 : Addr) (k2 : ClassId) (c0 : Int32) (c1 : Int32) (cs : Int32) (h0 : Heap) (n0 : Nat) (Z0 : n0 ≤ h0.size) (PE : Exa Z h0 a1 "java/lang/String") (PV : Fld Z h0 a1 "java/lang/String" "value" "[B" .null) (PK : Fld Z h0 a1 "java/lang/String" "coder" "B" (.int (0 : Int32))) (PR : Arv Z h0 a2 k2 .char (2 : Int32) [(.int c0), (.int c1)] (.int (0 : Int32))) (PC : Sta Z h0 "java/lang/String" "COMPACT_STRINGS" "Z" (.int cs)) (PA : Sta Z h0 "java/lang/StringUTF16" "$assertionsDisabled" "Z" (.int (1 : Int32))) (PH : Sta Z h0 "java/lang/StringUTF16" "HI_BYTE_SHIFT" "I" (.int (0 : Int32))) (PL : Sta Z h0 "java/lang/StringUTF16" "LO_BYTE_SHIFT" "I" (.int (8 : Int32))) (g_a1 : n0 ≤ a1) (ne_a1_a2 : a1 ≠ a2) (lo_c0 : ¬ (c0 < (0 : Int32))) (hi_c0 : ¬ ((65535 : Int32) < c0)) (lo_c1 : ¬ (c1 < (0 : Int32))) (hi_c1 : ¬ ((65535 : Int32) < c1)) (ncs : ¬ (cs = (0 : Int32))) :
  MM l Z Y4 jdk_42_method_3_code 2 none 5 2 6 74 #[(.ref a1), (.ref a2)] h0 (QS2 Z a1 c0 c1 h0 n0) := by
  by_cases b0 : (255 : Int32) < c0
  · exact (rm4_39 l Z a0 hw a1 a2 k2 c0 c1 cs h0 n0 Z0 PE PK PV PR PC PA PH PL g_a1  lo_c0 hi_c0 ncs b0).mono (fun _ _ h => h) (fun _ _ _ _ _ h => h) (fun _ _ _ _ _ h => by obtain ⟨v, L, q1, ⟨e0, ke0, xr, xN, xK, xE, xC, xV, xA, _⟩, q3⟩ := h; exact ⟨v, L, q1, ⟨xr, xN, xK, xE, Or.inr ⟨e0, ke0, xV, xC, xA⟩⟩, q3⟩)
  · skip
    by_cases b1 : (255 : Int32) < c1
    · exact (rm4_40 l Z a0 hw a1 a2 k2 c0 c1 cs h0 n0 Z0 PE PK PV PR PC PA PH PL g_a1  lo_c1 hi_c1 ncs b0 b1).mono (fun _ _ h => h) (fun _ _ _ _ _ h => h) (fun _ _ _ _ _ h => by obtain ⟨v, L, q1, ⟨e0, ke0, xr, xN, xK, xE, xC, xV, xA, _⟩, q3⟩ := h; exact ⟨v, L, q1, ⟨xr, xN, xK, xE, Or.inr ⟨e0, ke0, xV, xC, xA⟩⟩, q3⟩)
    · skip
      exact (rm4_41 l Z a0 hw a1 a2 k2 c0 c1 cs h0 n0 Z0 PE PK PV PR PC g_a1  ncs b0 b1).mono (fun _ _ h => h) (fun _ _ _ _ _ h => h) (fun _ _ _ _ _ h => by obtain ⟨v, L, q1, ⟨e0, ke0, xr, xN, xK, xE, xC, xV, xA, _⟩, q3⟩ := h; exact ⟨v, L, q1, ⟨xr, xN, xK, xE, Or.inl ⟨e0, ke0, xV, xC, xA, b0, b1⟩⟩, q3⟩)
def Q11_42 (Z : State) (a1c : Addr) (a2c : Addr) (ka1c : ClassId) (x1c : Int32) (x2c : Int32) (x3c : Int32) (h0 : Heap) (n0 : Nat) (v : Option Value) (h : Heap) (L : List Loc) : Prop := v = some (.int 0) ∧ Fr n0 L ∧ (h = h0)
theorem rm11_42 (l : Launch) (Z : State) (a0 : Array Value) (hw : HW a0 Z) (a1c : Addr) (a2c : Addr) (ka1c : ClassId) (x1c : Int32) (x2c : Int32) (x3c : Int32) (h0 : Heap) (n0 : Nat) (P0 : Arv Z h0 a1c ka1c .char (3 : Int32) [(.int x1c), (.int x2c), (.int x3c)] (.int 0)) (u0 : (255 : Int32) < x1c) :
  MM l Z Y11 jdk_52_method_21_code 7 (some .int) 0 0 0 0 #[(.ref a1c), (.int 0), (.ref a2c), (.int 0), (.int 3)] h0 (Q11_42 Z a1c a2c ka1c x1c x2c x3c h0 n0) := by
 refine own_start (fun m => (mkF m 0 (Sh3 a1c 0 a2c 0 3) [])) (plainFor_of_name pn_java_lang_StringUTF16) (by simp [entryFrame, mkF, argsToLocals, Value.category]) n0 ?_
 intro p e s m below meth c s₁ Bd hx hby hml hZ hown hnm X0 e0 N0
 refine GoW.sg (mkF m 12 (Sh4 a1c 0 a2c 0 3 0) [(.int 0), (.ref a1c)]) (fun t k => XS.iconst X0.here hx rfl (hb hby d11_0) (XS.istore X0.here hx rfl (hb hby d11_1) rfl (l' := (Sh4 a1c 0 a2c 0 3 0)) rfl (XS.iload X0.here hx rfl (hb hby d11_3) rfl (XS.iload X0.here hx rfl (hb hby d11_5) rfl (XS.icmpNo X0.here hx rfl (hb hby d11_7) rfl (by decide) (XS.aloadN X0.here hx rfl (hb hby d11_10) rfl rfl (XS.iloadN X0.here hx rfl (hb hby d11_11) rfl k))))))) ?_
 obtain ⟨cl419, Ar419, q419, Sz419, Nn419, Hh419, Gg419⟩ := id P0
 have hin419 : ¬ ((0 : Int32) < 0 ∨ cl419.slots.size ≤ ((0 : Int32)).toNatClampNeg) := inb_of Sz419 ⟨by decide, by decide⟩
 refine GoW.sg (mkF m 13 (Sh4 a1c 0 a2c 0 3 0) [(.int x1c)]) (fun t k => X0.caload hx (j := (0 : Int32)) (v := (.int x1c)) (hq_ e0 Ar419.1) (State.isArrayOf_alike hZ.alike Ar419.2.1) Ar419.2.2 hin419 (Hh419.at hin419 rfl) (g := (mkF m 12 (Sh4 a1c 0 a2c 0 3 0) [(.int 0), (.ref a1c)])) rfl rfl (hb hby d11_12) t k) ?_
 refine GoW.sg (mkF m 25 (Sh5 a1c 0 a2c 0 3 0 x1c) [(.int 0)]) (fun t k => XS.istore X0.here hx rfl (hb hby d11_13) rfl (l' := (Sh5 a1c 0 a2c 0 3 0 x1c)) rfl (XS.iload X0.here hx rfl (hb hby d11_15) rfl (XS.sipush X0.here hx rfl (hb hby d11_17) (XS.icmpNo X0.here hx rfl (hb hby d11_20) rfl (tlt u0).2.2.2 (XS.iload X0.here hx rfl (hb hby d11_23) rfl k))))) ?_
 refine GoW.retI X0 hx Bd.returns (hb hby d11_25) Bd.notSynchronized ?_ (by decide) (by decide)
 rw [e0]
 exact ⟨rfl, N0, rfl⟩
def Q15_43 (Z : State)  (h0 : Heap) (n0 : Nat) (v : Option Value) (h : Heap) (L : List Loc) : Prop := v = some (.int 6) ∧ Fr n0 L ∧ (h = h0)
theorem rm15_43 (l : Launch) (Z : State) (a0 : Array Value) (hw : HW a0 Z) (h0 : Heap) (n0 : Nat) :
  MM l Z Y15 jdk_52_method_3_code 1 (some .int) 0 0 0 0 #[(.int 3)] h0 (Q15_43 Z  h0 n0) := by
 refine own_start (fun m => (mkF m 0 #[.val (.int 3)] [])) (plainFor_of_name pn_java_lang_StringUTF16) (by simp [entryFrame, mkF, argsToLocals, Value.category]) n0 ?_
 intro p e s m below meth c s₁ Bd hx hby hml hZ hown hnm X0 e0 N0
 refine GoW.sg (mkF m 13 #[.val (.int 3)] [(.int 3)]) (fun t k => XS.iloadN X0.here hx rfl (hb hby d15_0) rfl (XS.ifYes X0.here hx rfl (pc0 := 1) (pc' := 12) rfl (hb hby d15_1) rfl (by decide) (by decide) (by decide) (XS.iloadN X0.here hx rfl (hb hby d15_12) rfl k))) ?_
 refine GoW.sg (mkF m 15 #[.val (.int 3)] [(.int 1073741823), (.int 3)]) (fun t k => X0.ldcInt hx hown (mvT hZ (ww hw 67 rfl)) (g := (mkF m 13 #[.val (.int 3)] [(.int 3)])) rfl (hb hby d15_13) t k) ?_
 refine GoW.sg (mkF m 57 #[.val (.int 3)] [(.int 1), (.int 3)]) (fun t k => XS.icmpYes X0.here hx rfl (pc0 := 15) (pc' := 55) rfl (hb hby d15_15) rfl (by decide) (by decide) (by decide) (XS.iloadN X0.here hx rfl (hb hby d15_55) rfl (XS.iconst X0.here hx rfl (hb hby d15_56) k))) ?_
 refine GoW.st (fun t k => XS.ishl X0.here hx rfl (hb hby d15_57) rfl k) ?_
 rw [show ((3 : Int32) <<< ((1 : Int32) &&& 31)) = (6 : Int32) from by decide]
 show GoW p e below s (Q15_43 Z  h0 n0) 0 0 (s₁.setTop (mkF m 58 #[.val (.int 3)] [(.int 6)]))
 refine GoW.retI X0 hx Bd.returns (hb hby d15_58) Bd.notSynchronized ?_ (by decide) (by decide)
 rw [e0]
 exact ⟨rfl, N0, rfl⟩
def Q14_44 (Z : State)  (h0 : Heap) (n0 : Nat) (v : Option Value) (h : Heap) (L : List Loc) : Prop := ∃ e0 : Addr, ∃ ke0 : ClassId, v = some (.ref e0) ∧ Fr n0 L ∧ (Keep h0 h []) ∧ (Arv Z h e0 ke0 .byte (6 : Int32) [(.int 0), (.int 0), (.int 0), (.int 0), (.int 0), (.int 0)] (.int 0)) ∧ (h0.size ≤ e0)
theorem rm14_44 (l : Launch) (Z : State) (a0 : Array Value) (hw : HW a0 Z) (h0 : Heap) (n0 : Nat) (Z0 : n0 ≤ h0.size) :
  MM l Z Y14 jdk_52_method_2_code 1 (some (.array .byte)) 1 1 6 12 #[(.int 3)] h0 (Q14_44 Z  h0 n0) := by
 refine own_start (fun m => (mkF m 0 #[.val (.int 3)] [])) (plainFor_of_name pn_java_lang_StringUTF16) (by simp [entryFrame, mkF, argsToLocals, Value.category]) n0 ?_
 intro p e s m below meth c s₁ Bd hx hby hml hZ hown hnm X0 e0 N0
 refine GoW.sg (mkF m 1 #[.val (.int 3)] [(.int 3)]) (fun t k => XS.iloadN X0.here hx rfl (hb hby d14_0) rfl k) ?_
 obtain ⟨_, T423, L423, X423, hQ423, st423⟩ := own_callS X0 hx hZ hown (y := Y15) (ww hw 64 rfl) (ww hw 65 rfl) (ww hw 50 rfl) (ww hw 66 rfl) (by decide) 0 (rm15_43 l Z a0 hw   h0 n0       ) (by decide) (by decide) e0 (by decide) (by decide) (g := (mkF m 1 #[.val (.int 3)] [(.int 3)])) rfl (by rw [hml]; rfl) (argsL := [(.int (3 : Int32))]) (rest := []) (lenOf pd_28I29I rfl) rfl (by show 2 * 0 + _ ≤ _; exact Nat.le_of_eq rfl) (hb hby d14_1)
 obtain ⟨rfl, N423q, e423⟩ := hQ423
 have N423 := Fr.app N0 N423q
 refine GoW.sg (mkF m 4 #[.val (.int 3)] [(.int 6)]) (fun t k => st423 t k) ?_
 obtain ⟨T424, h424, k424, X424, e424, E424, A424, st424⟩ := newP X423 hx hZ (ww hw 26 rfl) e423 (g := (mkF m 4 #[.val (.int 3)] [(.int 6)])) rfl (hb hby d14_4) rfl (by decide) (cap := 6) (by decide) (by decide) (by decide) (by decide)
 obtain ⟨b424, g424⟩ : ∃ z, z = h0.size := ⟨_, rfl⟩
 rw [← g424] at A424 st424
 have sz_b424 : h0.size ≤ b424 := Nat.le_trans (Keep.refl h0 []).1 (Nat.le_of_eq g424.symm)
 have f424_1 := (Keep.refl h0 []).ext E424
 have V424 : Arv Z h424 b424 k424 .byte (6 : Int32) [(.int (0 : Int32)), (.int (0 : Int32)), (.int (0 : Int32)), (.int (0 : Int32)), (.int (0 : Int32)), (.int (0 : Int32))] (.int (0 : Int32)) := (Arv.new A424 (by decide)).pad (pad_rep [] (.int (0 : Int32)) 6)
 refine GoW.sg (mkF m 6 #[.val (.int 3)] [(.ref b424)]) (fun t k => st424 t k) ?_
 refine GoW.retA X424 hx Bd.returns rfl rfl rfl (hb hby d14_6) Bd.notSynchronized ?_ (by decide) (by decide)
 rw [e424]
 exact ⟨b424, k424, rfl, N423, f424_1, V424, sz_b424⟩
def Q16_45 (Z : State) (a1c : Addr) (x1c : Int32) (ka1c : ClassId) (h0 : Heap) (n0 : Nat) (v : Option Value) (h : Heap) (L : List Loc) : Prop := v = none ∧ Fr n0 L ∧ (Keep h0 h [a1c]) ∧ (Arv Z h a1c ka1c .byte (6 : Int32) [(.int (lo8 x1c)), (.int (hi8 x1c)), (.int 0), (.int 0), (.int 0), (.int 0)] (.int 0))
theorem rm16_45 (l : Launch) (Z : State) (a0 : Array Value) (hw : HW a0 Z) (a1c : Addr) (x1c : Int32) (ka1c : ClassId) (h0 : Heap) (n0 : Nat) (P0 : Arv Z h0 a1c ka1c .byte (6 : Int32) [(.int 0), (.int 0), (.int 0), (.int 0), (.int 0), (.int 0)] (.int 0)) (P1 : Sta Z h0 "java/lang/StringUTF16" "$assertionsDisabled" "Z" (.int 1)) (P2 : Sta Z h0 "java/lang/StringUTF16" "HI_BYTE_SHIFT" "I" (.int 0)) (P3 : Sta Z h0 "java/lang/StringUTF16" "LO_BYTE_SHIFT" "I" (.int 8)) (g_a1c : n0 ≤ a1c) :
  MM l Z Y16 jdk_52_method_4_code 3 none 0 0 0 0 #[(.ref a1c), (.int 0), (.int x1c)] h0 (Q16_45 Z a1c x1c ka1c h0 n0) := by
 refine own_start (fun m => (mkF m 0 (Sh10 a1c 0 x1c) [])) (plainFor_of_name pn_java_lang_StringUTF16) (by simp [entryFrame, mkF, argsToLocals, Value.category]) n0 ?_
 intro p e s m below meth c s₁ Bd hx hby hml hZ hown hnm X0 e0 N0
 obtain ⟨T432, X432, e432, st432⟩ := getS (host := "") X0 hx hZ hown (ww hw 71 rfl) Via.refl e0 P1 (g := (mkF m 0 (Sh10 a1c 0 x1c) [])) rfl (hb hby d16_0)
 refine GoW.sg (mkF m 3 (Sh10 a1c 0 x1c) [(.int 1)]) (fun t k => st432 t k) ?_
 refine GoW.sg (mkF m 30 (Sh10 a1c 0 x1c) [(.int 1), (.int 0)]) (fun t k => XS.ifYes X432.here hx rfl (pc0 := 3) (pc' := 28) rfl (hb hby d16_3) rfl (by decide) (by decide) (by decide) (XS.iloadN X432.here hx rfl (hb hby d16_28) rfl (XS.iconst X432.here hx rfl (hb hby d16_29) k))) ?_
 refine GoW.st (fun t k => XS.ishl X432.here hx rfl (hb hby d16_30) rfl k) ?_
 rw [show ((0 : Int32) <<< ((1 : Int32) &&& 31)) = (0 : Int32) from by decide]
 show GoW p e below s (Q16_45 Z a1c x1c ka1c h0 n0) 0 0 (T432.setTop (mkF m 31 (Sh10 a1c 0 x1c) [(.int 0)]))
 refine GoW.sg (mkF m 38 (Sh10 a1c 1 x1c) [(.int x1c), (.int 0), (.ref a1c)]) (fun t k => XS.istoreN X432.here hx rfl (hb hby d16_31) rfl (l' := (Sh10 a1c 0 x1c)) rfl (XS.aloadN X432.here hx rfl (hb hby d16_32) rfl rfl (XS.iloadN X432.here hx rfl (hb hby d16_33) rfl (XS.iinc X432.here hx rfl (hb hby d16_34) rfl (l' := (Sh10 a1c 1 x1c)) rfl (XS.iloadN X432.here hx rfl (hb hby d16_37) rfl k))))) ?_
 obtain ⟨T433, X433, e433, st433⟩ := getS (host := "") X432 hx hZ hown (ww hw 72 rfl) Via.refl e432 P2 (g := (mkF m 38 (Sh10 a1c 1 x1c) [(.int x1c), (.int 0), (.ref a1c)])) rfl (hb hby d16_38)
 refine GoW.sg (mkF m 41 (Sh10 a1c 1 x1c) [(.int 0), (.int x1c), (.int 0), (.ref a1c)]) (fun t k => st433 t k) ?_
 refine GoW.sg (mkF m 43 (Sh10 a1c 1 x1c) [(.int (x1c >>> ((0 : Int32) &&& 31)).toInt8.toInt32), (.int 0), (.ref a1c)]) (fun t k => XS.ishr X433.here hx rfl (hb hby d16_41) rfl (XS.i2b X433.here hx rfl (hb hby d16_42) rfl k)) ?_
 obtain ⟨cl434, Ar434, q434, Sz434, Nn434, Hh434, Gg434⟩ := P0
 have hin434 : ¬ ((0 : Int32) < 0 ∨ cl434.slots.size ≤ ((0 : Int32)).toNatClampNeg) := inb_of Sz434 ⟨by decide, by decide⟩
 obtain ⟨T434, h434, X434, e434, W434, st434⟩ := stB X433 hx hZ e433 Ar434 (j := (0 : Int32)) hin434 (g := (mkF m 43 (Sh10 a1c 1 x1c) [(.int (x1c >>> ((0 : Int32) &&& 31)).toInt8.toInt32), (.int 0), (.ref a1c)])) rfl rfl (hb hby d16_43)
 have f434_3 := P3.wr W434
 have f434_4 := (Keep.refl h0 [a1c]).wr W434 (Or.inl (List.mem_of_getElem? (i := 0) rfl))
 have V434 : Arv Z h434 a1c ka1c .byte (6 : Int32) [(.int (lo8 x1c)), (.int (0 : Int32)), (.int (0 : Int32)), (.int (0 : Int32)), (.int (0 : Int32)), (.int (0 : Int32))] (.int (0 : Int32)) := Arv.set Ar434 q434 Sz434 Nn434 Hh434 Gg434 (fits_nar_byte _) W434 0 rfl (Nat.le_of_ble_eq_true rfl)
 have N434 := Fr.snoc X434 N0 g_a1c
 refine GoW.sg (mkF m 44 (Sh10 a1c 1 x1c) []) (fun t k => st434 t k) ?_
 refine GoW.sg (mkF m 47 (Sh10 a1c 1 x1c) [(.int x1c), (.int 1), (.ref a1c)]) (fun t k => XS.aloadN X434.here hx rfl (hb hby d16_44) rfl rfl (XS.iloadN X434.here hx rfl (hb hby d16_45) rfl (XS.iloadN X434.here hx rfl (hb hby d16_46) rfl k))) ?_
 obtain ⟨T435, X435, e435, st435⟩ := getS (host := "") X434 hx hZ hown (ww hw 73 rfl) Via.refl e434 f434_3 (g := (mkF m 47 (Sh10 a1c 1 x1c) [(.int x1c), (.int 1), (.ref a1c)])) rfl (hb hby d16_47)
 refine GoW.sg (mkF m 50 (Sh10 a1c 1 x1c) [(.int 8), (.int x1c), (.int 1), (.ref a1c)]) (fun t k => st435 t k) ?_
 refine GoW.sg (mkF m 52 (Sh10 a1c 1 x1c) [(.int (x1c >>> ((8 : Int32) &&& 31)).toInt8.toInt32), (.int 1), (.ref a1c)]) (fun t k => XS.ishr X435.here hx rfl (hb hby d16_50) rfl (XS.i2b X435.here hx rfl (hb hby d16_51) rfl k)) ?_
 obtain ⟨cl436, Ar436, q436, Sz436, Nn436, Hh436, Gg436⟩ := V434
 have hin436 : ¬ ((1 : Int32) < 0 ∨ cl436.slots.size ≤ ((1 : Int32)).toNatClampNeg) := inb_of Sz436 ⟨by decide, by decide⟩
 obtain ⟨T436, h436, X436, e436, W436, st436⟩ := stB X435 hx hZ e435 Ar436 (j := (1 : Int32)) hin436 (g := (mkF m 52 (Sh10 a1c 1 x1c) [(.int (x1c >>> ((8 : Int32) &&& 31)).toInt8.toInt32), (.int 1), (.ref a1c)])) rfl rfl (hb hby d16_52)
 have f436_8 := f434_4.wr W436 (Or.inl (List.mem_of_getElem? (i := 0) rfl))
 have V436 : Arv Z h436 a1c ka1c .byte (6 : Int32) [(.int (lo8 x1c)), (.int (hi8 x1c)), (.int (0 : Int32)), (.int (0 : Int32)), (.int (0 : Int32)), (.int (0 : Int32))] (.int (0 : Int32)) := Arv.set Ar436 q436 Sz436 Nn436 Hh436 Gg436 (fits_nar_byte _) W436 1 rfl (Nat.le_of_ble_eq_true rfl)
 have N436 := Fr.snoc X436 N434 g_a1c
 refine GoW.sg (mkF m 53 (Sh10 a1c 1 x1c) []) (fun t k => st436 t k) ?_
 refine GoW.retV X436 hx Bd.returns (hb hby d16_53) Bd.notSynchronized ?_ (by decide) (by decide)
 rw [e436]
 exact ⟨rfl, N436, f436_8, V436⟩
def Q16_46 (Z : State) (a1c : Addr) (x1c : Int32) (ka1c : ClassId) (x2c : Int32) (x3c : Int32) (h0 : Heap) (n0 : Nat) (v : Option Value) (h : Heap) (L : List Loc) : Prop := v = none ∧ Fr n0 L ∧ (Keep h0 h [a1c]) ∧ (Arv Z h a1c ka1c .byte (6 : Int32) [(.int x2c), (.int x3c), (.int (lo8 x1c)), (.int (hi8 x1c)), (.int 0), (.int 0)] (.int 0))
theorem rm16_46 (l : Launch) (Z : State) (a0 : Array Value) (hw : HW a0 Z) (a1c : Addr) (x1c : Int32) (ka1c : ClassId) (x2c : Int32) (x3c : Int32) (h0 : Heap) (n0 : Nat) (P0 : Arv Z h0 a1c ka1c .byte (6 : Int32) [(.int x2c), (.int x3c), (.int 0), (.int 0), (.int 0), (.int 0)] (.int 0)) (P1 : Sta Z h0 "java/lang/StringUTF16" "$assertionsDisabled" "Z" (.int 1)) (P2 : Sta Z h0 "java/lang/StringUTF16" "HI_BYTE_SHIFT" "I" (.int 0)) (P3 : Sta Z h0 "java/lang/StringUTF16" "LO_BYTE_SHIFT" "I" (.int 8)) (g_a1c : n0 ≤ a1c) :
  MM l Z Y16 jdk_52_method_4_code 3 none 0 0 0 0 #[(.ref a1c), (.int 1), (.int x1c)] h0 (Q16_46 Z a1c x1c ka1c x2c x3c h0 n0) := by
 refine own_start (fun m => (mkF m 0 (Sh10 a1c 1 x1c) [])) (plainFor_of_name pn_java_lang_StringUTF16) (by simp [entryFrame, mkF, argsToLocals, Value.category]) n0 ?_
 intro p e s m below meth c s₁ Bd hx hby hml hZ hown hnm X0 e0 N0
 obtain ⟨T444, X444, e444, st444⟩ := getS (host := "") X0 hx hZ hown (ww hw 71 rfl) Via.refl e0 P1 (g := (mkF m 0 (Sh10 a1c 1 x1c) [])) rfl (hb hby d16_0)
 refine GoW.sg (mkF m 3 (Sh10 a1c 1 x1c) [(.int 1)]) (fun t k => st444 t k) ?_
 refine GoW.sg (mkF m 30 (Sh10 a1c 1 x1c) [(.int 1), (.int 1)]) (fun t k => XS.ifYes X444.here hx rfl (pc0 := 3) (pc' := 28) rfl (hb hby d16_3) rfl (by decide) (by decide) (by decide) (XS.iloadN X444.here hx rfl (hb hby d16_28) rfl (XS.iconst X444.here hx rfl (hb hby d16_29) k))) ?_
 refine GoW.st (fun t k => XS.ishl X444.here hx rfl (hb hby d16_30) rfl k) ?_
 rw [show ((1 : Int32) <<< ((1 : Int32) &&& 31)) = (2 : Int32) from by decide]
 show GoW p e below s (Q16_46 Z a1c x1c ka1c x2c x3c h0 n0) 0 0 (T444.setTop (mkF m 31 (Sh10 a1c 1 x1c) [(.int 2)]))
 refine GoW.sg (mkF m 38 (Sh10 a1c 3 x1c) [(.int x1c), (.int 2), (.ref a1c)]) (fun t k => XS.istoreN X444.here hx rfl (hb hby d16_31) rfl (l' := (Sh10 a1c 2 x1c)) rfl (XS.aloadN X444.here hx rfl (hb hby d16_32) rfl rfl (XS.iloadN X444.here hx rfl (hb hby d16_33) rfl (XS.iinc X444.here hx rfl (hb hby d16_34) rfl (l' := (Sh10 a1c 3 x1c)) rfl (XS.iloadN X444.here hx rfl (hb hby d16_37) rfl k))))) ?_
 obtain ⟨T445, X445, e445, st445⟩ := getS (host := "") X444 hx hZ hown (ww hw 72 rfl) Via.refl e444 P2 (g := (mkF m 38 (Sh10 a1c 3 x1c) [(.int x1c), (.int 2), (.ref a1c)])) rfl (hb hby d16_38)
 refine GoW.sg (mkF m 41 (Sh10 a1c 3 x1c) [(.int 0), (.int x1c), (.int 2), (.ref a1c)]) (fun t k => st445 t k) ?_
 refine GoW.sg (mkF m 43 (Sh10 a1c 3 x1c) [(.int (x1c >>> ((0 : Int32) &&& 31)).toInt8.toInt32), (.int 2), (.ref a1c)]) (fun t k => XS.ishr X445.here hx rfl (hb hby d16_41) rfl (XS.i2b X445.here hx rfl (hb hby d16_42) rfl k)) ?_
 obtain ⟨cl446, Ar446, q446, Sz446, Nn446, Hh446, Gg446⟩ := P0
 have hin446 : ¬ ((2 : Int32) < 0 ∨ cl446.slots.size ≤ ((2 : Int32)).toNatClampNeg) := inb_of Sz446 ⟨by decide, by decide⟩
 obtain ⟨T446, h446, X446, e446, W446, st446⟩ := stB X445 hx hZ e445 Ar446 (j := (2 : Int32)) hin446 (g := (mkF m 43 (Sh10 a1c 3 x1c) [(.int (x1c >>> ((0 : Int32) &&& 31)).toInt8.toInt32), (.int 2), (.ref a1c)])) rfl rfl (hb hby d16_43)
 have f446_3 := P3.wr W446
 have f446_4 := (Keep.refl h0 [a1c]).wr W446 (Or.inl (List.mem_of_getElem? (i := 0) rfl))
 have V446 : Arv Z h446 a1c ka1c .byte (6 : Int32) [(.int x2c), (.int x3c), (.int (lo8 x1c)), (.int (0 : Int32)), (.int (0 : Int32)), (.int (0 : Int32))] (.int (0 : Int32)) := Arv.set Ar446 q446 Sz446 Nn446 Hh446 Gg446 (fits_nar_byte _) W446 2 rfl (Nat.le_of_ble_eq_true rfl)
 have N446 := Fr.snoc X446 N0 g_a1c
 refine GoW.sg (mkF m 44 (Sh10 a1c 3 x1c) []) (fun t k => st446 t k) ?_
 refine GoW.sg (mkF m 47 (Sh10 a1c 3 x1c) [(.int x1c), (.int 3), (.ref a1c)]) (fun t k => XS.aloadN X446.here hx rfl (hb hby d16_44) rfl rfl (XS.iloadN X446.here hx rfl (hb hby d16_45) rfl (XS.iloadN X446.here hx rfl (hb hby d16_46) rfl k))) ?_
 obtain ⟨T447, X447, e447, st447⟩ := getS (host := "") X446 hx hZ hown (ww hw 73 rfl) Via.refl e446 f446_3 (g := (mkF m 47 (Sh10 a1c 3 x1c) [(.int x1c), (.int 3), (.ref a1c)])) rfl (hb hby d16_47)
 refine GoW.sg (mkF m 50 (Sh10 a1c 3 x1c) [(.int 8), (.int x1c), (.int 3), (.ref a1c)]) (fun t k => st447 t k) ?_
 refine GoW.sg (mkF m 52 (Sh10 a1c 3 x1c) [(.int (x1c >>> ((8 : Int32) &&& 31)).toInt8.toInt32), (.int 3), (.ref a1c)]) (fun t k => XS.ishr X447.here hx rfl (hb hby d16_50) rfl (XS.i2b X447.here hx rfl (hb hby d16_51) rfl k)) ?_
 obtain ⟨cl448, Ar448, q448, Sz448, Nn448, Hh448, Gg448⟩ := V446
 have hin448 : ¬ ((3 : Int32) < 0 ∨ cl448.slots.size ≤ ((3 : Int32)).toNatClampNeg) := inb_of Sz448 ⟨by decide, by decide⟩
 obtain ⟨T448, h448, X448, e448, W448, st448⟩ := stB X447 hx hZ e447 Ar448 (j := (3 : Int32)) hin448 (g := (mkF m 52 (Sh10 a1c 3 x1c) [(.int (x1c >>> ((8 : Int32) &&& 31)).toInt8.toInt32), (.int 3), (.ref a1c)])) rfl rfl (hb hby d16_52)
 have f448_8 := f446_4.wr W448 (Or.inl (List.mem_of_getElem? (i := 0) rfl))
 have V448 : Arv Z h448 a1c ka1c .byte (6 : Int32) [(.int x2c), (.int x3c), (.int (lo8 x1c)), (.int (hi8 x1c)), (.int (0 : Int32)), (.int (0 : Int32))] (.int (0 : Int32)) := Arv.set Ar448 q448 Sz448 Nn448 Hh448 Gg448 (fits_nar_byte _) W448 3 rfl (Nat.le_of_ble_eq_true rfl)
 have N448 := Fr.snoc X448 N446 g_a1c
 refine GoW.sg (mkF m 53 (Sh10 a1c 3 x1c) []) (fun t k => st448 t k) ?_
 refine GoW.retV X448 hx Bd.returns (hb hby d16_53) Bd.notSynchronized ?_ (by decide) (by decide)
 rw [e448]
 exact ⟨rfl, N448, f448_8, V448⟩
def Q16_47 (Z : State) (a1c : Addr) (x1c : Int32) (ka1c : ClassId) (x2c : Int32) (x3c : Int32) (x4c : Int32) (x5c : Int32) (h0 : Heap) (n0 : Nat) (v : Option Value) (h : Heap) (L : List Loc) : Prop := v = none ∧ Fr n0 L ∧ (Keep h0 h [a1c]) ∧ (Arv Z h a1c ka1c .byte (6 : Int32) [(.int x2c), (.int x3c), (.int x4c), (.int x5c), (.int (lo8 x1c)), (.int (hi8 x1c))] (.int 0))
theorem rm16_47 (l : Launch) (Z : State) (a0 : Array Value) (hw : HW a0 Z) (a1c : Addr) (x1c : Int32) (ka1c : ClassId) (x2c : Int32) (x3c : Int32) (x4c : Int32) (x5c : Int32) (h0 : Heap) (n0 : Nat) (P0 : Arv Z h0 a1c ka1c .byte (6 : Int32) [(.int x2c), (.int x3c), (.int x4c), (.int x5c), (.int 0), (.int 0)] (.int 0)) (P1 : Sta Z h0 "java/lang/StringUTF16" "$assertionsDisabled" "Z" (.int 1)) (P2 : Sta Z h0 "java/lang/StringUTF16" "HI_BYTE_SHIFT" "I" (.int 0)) (P3 : Sta Z h0 "java/lang/StringUTF16" "LO_BYTE_SHIFT" "I" (.int 8)) (g_a1c : n0 ≤ a1c) :
  MM l Z Y16 jdk_52_method_4_code 3 none 0 0 0 0 #[(.ref a1c), (.int 2), (.int x1c)] h0 (Q16_47 Z a1c x1c ka1c x2c x3c x4c x5c h0 n0) := by
 refine own_start (fun m => (mkF m 0 (Sh10 a1c 2 x1c) [])) (plainFor_of_name pn_java_lang_StringUTF16) (by simp [entryFrame, mkF, argsToLocals, Value.category]) n0 ?_
 intro p e s m below meth c s₁ Bd hx hby hml hZ hown hnm X0 e0 N0
 obtain ⟨T456, X456, e456, st456⟩ := getS (host := "") X0 hx hZ hown (ww hw 71 rfl) Via.refl e0 P1 (g := (mkF m 0 (Sh10 a1c 2 x1c) [])) rfl (hb hby d16_0)
 refine GoW.sg (mkF m 3 (Sh10 a1c 2 x1c) [(.int 1)]) (fun t k => st456 t k) ?_
 refine GoW.sg (mkF m 30 (Sh10 a1c 2 x1c) [(.int 1), (.int 2)]) (fun t k => XS.ifYes X456.here hx rfl (pc0 := 3) (pc' := 28) rfl (hb hby d16_3) rfl (by decide) (by decide) (by decide) (XS.iloadN X456.here hx rfl (hb hby d16_28) rfl (XS.iconst X456.here hx rfl (hb hby d16_29) k))) ?_
 refine GoW.st (fun t k => XS.ishl X456.here hx rfl (hb hby d16_30) rfl k) ?_
 rw [show ((2 : Int32) <<< ((1 : Int32) &&& 31)) = (4 : Int32) from by decide]
 show GoW p e below s (Q16_47 Z a1c x1c ka1c x2c x3c x4c x5c h0 n0) 0 0 (T456.setTop (mkF m 31 (Sh10 a1c 2 x1c) [(.int 4)]))
 refine GoW.sg (mkF m 38 (Sh10 a1c 5 x1c) [(.int x1c), (.int 4), (.ref a1c)]) (fun t k => XS.istoreN X456.here hx rfl (hb hby d16_31) rfl (l' := (Sh10 a1c 4 x1c)) rfl (XS.aloadN X456.here hx rfl (hb hby d16_32) rfl rfl (XS.iloadN X456.here hx rfl (hb hby d16_33) rfl (XS.iinc X456.here hx rfl (hb hby d16_34) rfl (l' := (Sh10 a1c 5 x1c)) rfl (XS.iloadN X456.here hx rfl (hb hby d16_37) rfl k))))) ?_
 obtain ⟨T457, X457, e457, st457⟩ := getS (host := "") X456 hx hZ hown (ww hw 72 rfl) Via.refl e456 P2 (g := (mkF m 38 (Sh10 a1c 5 x1c) [(.int x1c), (.int 4), (.ref a1c)])) rfl (hb hby d16_38)
 refine GoW.sg (mkF m 41 (Sh10 a1c 5 x1c) [(.int 0), (.int x1c), (.int 4), (.ref a1c)]) (fun t k => st457 t k) ?_
 refine GoW.sg (mkF m 43 (Sh10 a1c 5 x1c) [(.int (x1c >>> ((0 : Int32) &&& 31)).toInt8.toInt32), (.int 4), (.ref a1c)]) (fun t k => XS.ishr X457.here hx rfl (hb hby d16_41) rfl (XS.i2b X457.here hx rfl (hb hby d16_42) rfl k)) ?_
 obtain ⟨cl458, Ar458, q458, Sz458, Nn458, Hh458, Gg458⟩ := P0
 have hin458 : ¬ ((4 : Int32) < 0 ∨ cl458.slots.size ≤ ((4 : Int32)).toNatClampNeg) := inb_of Sz458 ⟨by decide, by decide⟩
 obtain ⟨T458, h458, X458, e458, W458, st458⟩ := stB X457 hx hZ e457 Ar458 (j := (4 : Int32)) hin458 (g := (mkF m 43 (Sh10 a1c 5 x1c) [(.int (x1c >>> ((0 : Int32) &&& 31)).toInt8.toInt32), (.int 4), (.ref a1c)])) rfl rfl (hb hby d16_43)
 have f458_3 := P3.wr W458
 have f458_4 := (Keep.refl h0 [a1c]).wr W458 (Or.inl (List.mem_of_getElem? (i := 0) rfl))
 have V458 : Arv Z h458 a1c ka1c .byte (6 : Int32) [(.int x2c), (.int x3c), (.int x4c), (.int x5c), (.int (lo8 x1c)), (.int (0 : Int32))] (.int (0 : Int32)) := Arv.set Ar458 q458 Sz458 Nn458 Hh458 Gg458 (fits_nar_byte _) W458 4 rfl (Nat.le_of_ble_eq_true rfl)
 have N458 := Fr.snoc X458 N0 g_a1c
 refine GoW.sg (mkF m 44 (Sh10 a1c 5 x1c) []) (fun t k => st458 t k) ?_
 refine GoW.sg (mkF m 47 (Sh10 a1c 5 x1c) [(.int x1c), (.int 5), (.ref a1c)]) (fun t k => XS.aloadN X458.here hx rfl (hb hby d16_44) rfl rfl (XS.iloadN X458.here hx rfl (hb hby d16_45) rfl (XS.iloadN X458.here hx rfl (hb hby d16_46) rfl k))) ?_
 obtain ⟨T459, X459, e459, st459⟩ := getS (host := "") X458 hx hZ hown (ww hw 73 rfl) Via.refl e458 f458_3 (g := (mkF m 47 (Sh10 a1c 5 x1c) [(.int x1c), (.int 5), (.ref a1c)])) rfl (hb hby d16_47)
 refine GoW.sg (mkF m 50 (Sh10 a1c 5 x1c) [(.int 8), (.int x1c), (.int 5), (.ref a1c)]) (fun t k => st459 t k) ?_
 refine GoW.sg (mkF m 52 (Sh10 a1c 5 x1c) [(.int (x1c >>> ((8 : Int32) &&& 31)).toInt8.toInt32), (.int 5), (.ref a1c)]) (fun t k => XS.ishr X459.here hx rfl (hb hby d16_50) rfl (XS.i2b X459.here hx rfl (hb hby d16_51) rfl k)) ?_
 obtain ⟨cl460, Ar460, q460, Sz460, Nn460, Hh460, Gg460⟩ := V458
 have hin460 : ¬ ((5 : Int32) < 0 ∨ cl460.slots.size ≤ ((5 : Int32)).toNatClampNeg) := inb_of Sz460 ⟨by decide, by decide⟩
 obtain ⟨T460, h460, X460, e460, W460, st460⟩ := stB X459 hx hZ e459 Ar460 (j := (5 : Int32)) hin460 (g := (mkF m 52 (Sh10 a1c 5 x1c) [(.int (x1c >>> ((8 : Int32) &&& 31)).toInt8.toInt32), (.int 5), (.ref a1c)])) rfl rfl (hb hby d16_52)
 have f460_8 := f458_4.wr W460 (Or.inl (List.mem_of_getElem? (i := 0) rfl))
 have V460 : Arv Z h460 a1c ka1c .byte (6 : Int32) [(.int x2c), (.int x3c), (.int x4c), (.int x5c), (.int (lo8 x1c)), (.int (hi8 x1c))] (.int (0 : Int32)) := Arv.set Ar460 q460 Sz460 Nn460 Hh460 Gg460 (fits_nar_byte _) W460 5 rfl (Nat.le_of_ble_eq_true rfl)
 have N460 := Fr.snoc X460 N458 g_a1c
 refine GoW.sg (mkF m 53 (Sh10 a1c 5 x1c) []) (fun t k => st460 t k) ?_
 refine GoW.retV X460 hx Bd.returns (hb hby d16_53) Bd.notSynchronized ?_ (by decide) (by decide)
 rw [e460]
 exact ⟨rfl, N460, f460_8, V460⟩
def Q13_48 (Z : State) (a1c : Addr) (ka1c : ClassId) (x1c : Int32) (x2c : Int32) (x3c : Int32) (h0 : Heap) (n0 : Nat) (v : Option Value) (h : Heap) (L : List Loc) : Prop := ∃ e0 : Addr, ∃ ke0 : ClassId, v = some (.ref e0) ∧ Fr n0 L ∧ (Keep h0 h []) ∧ (Arv Z h e0 ke0 .byte (6 : Int32) [(.int (lo8 x1c)), (.int (hi8 x1c)), (.int (lo8 x2c)), (.int (hi8 x2c)), (.int (lo8 x3c)), (.int (hi8 x3c))] (.int 0)) ∧ (h0.size ≤ e0)
theorem rm13_48 (l : Launch) (Z : State) (a0 : Array Value) (hw : HW a0 Z) (a1c : Addr) (ka1c : ClassId) (x1c : Int32) (x2c : Int32) (x3c : Int32) (h0 : Heap) (n0 : Nat) (Z0 : n0 ≤ h0.size) (P0 : Arv Z h0 a1c ka1c .char (3 : Int32) [(.int x1c), (.int x2c), (.int x3c)] (.int 0)) (P1 : Sta Z h0 "java/lang/StringUTF16" "$assertionsDisabled" "Z" (.int 1)) (P2 : Sta Z h0 "java/lang/StringUTF16" "HI_BYTE_SHIFT" "I" (.int 0)) (P3 : Sta Z h0 "java/lang/StringUTF16" "LO_BYTE_SHIFT" "I" (.int 8)) :
  MM l Z Y13 jdk_52_method_14_code 5 (some (.array .byte)) 2 1 6 24 #[(.ref a1c), (.int 0), (.int 3)] h0 (Q13_48 Z a1c ka1c x1c x2c x3c h0 n0) := by
 refine own_start (fun m => (mkF m 0 (Sh7 a1c 0 3) [])) (plainFor_of_name pn_java_lang_StringUTF16) (by simp [entryFrame, mkF, argsToLocals, Value.category]) n0 ?_
 intro p e s m below meth c s₁ Bd hx hby hml hZ hown hnm X0 e0 N0
 refine GoW.sg (mkF m 1 (Sh7 a1c 0 3) [(.int 3)]) (fun t k => XS.iloadN X0.here hx rfl (hb hby d13_0) rfl k) ?_
 obtain ⟨_, T464, L464, X464, hQ464, st464⟩ := own_callS X0 hx hZ hown (y := Y14) (ww hw 61 rfl) (ww hw 62 rfl) (ww hw 50 rfl) (ww hw 63 rfl) (by decide) 0 (rm14_44 l Z a0 hw   h0 n0 Z0      ) (by decide) (by decide) e0 (by decide) (by decide) (g := (mkF m 1 (Sh7 a1c 0 3) [(.int 3)])) rfl (by rw [hml]; rfl) (argsL := [(.int (3 : Int32))]) (rest := []) (lenOf pd_28I295bB rfl) rfl (by show 2 * 0 + _ ≤ _; exact Nat.le_of_eq rfl) (hb hby d13_1)
 obtain ⟨b464_e0, k464_ke0, rfl, N464q, K464, p464_0, hz_b464_e0⟩ := hQ464
 have g_b464_e0 : n0 ≤ b464_e0 := Nat.le_trans Z0 hz_b464_e0
 have sz_b464_e0 : h0.size ≤ b464_e0 := Nat.le_trans (Keep.refl h0 []).1 hz_b464_e0
 have ne_a1c_b464_e0 : a1c ≠ b464_e0 := Nat.ne_of_lt (Nat.lt_of_lt_of_le P0.lt hz_b464_e0)
 have N464 := Fr.app N0 N464q
 have f464_1 := P0.keep K464 nin0
 have f464_2 := own_staK0 P1 K464
 have f464_3 := own_staK0 P2 K464
 have f464_4 := own_staK0 P3 K464
 have f464_5 := (Keep.refl h0 []).trans K464 all0
 refine GoW.sg (mkF m 4 (Sh7 a1c 0 3) [(.ref b464_e0)]) (fun t k => st464 t k) ?_
 refine GoW.sg (mkF m 17 (Sh9 a1c 0 3 b464_e0 0) [(.int 0), (.ref b464_e0)]) (fun t k => XS.astoreN X464.here hx rfl (hb hby d13_4) rfl rfl (l' := (Sh8 a1c 0 3 b464_e0)) rfl (XS.iconst X464.here hx rfl (hb hby d13_5) (XS.istore X464.here hx rfl (hb hby d13_6) rfl (l' := (Sh9 a1c 0 3 b464_e0 0)) rfl (XS.iload X464.here hx rfl (hb hby d13_8) rfl (XS.iloadN X464.here hx rfl (hb hby d13_10) rfl (XS.icmpNo X464.here hx rfl (hb hby d13_11) rfl (by decide) (XS.aloadN X464.here hx rfl (hb hby d13_14) rfl rfl (XS.iload X464.here hx rfl (hb hby d13_15) rfl k)))))))) ?_
 refine GoW.sg (mkF m 19 (Sh9 a1c 0 3 b464_e0 0) [(.int 0), (.ref a1c), (.int 0), (.ref b464_e0)]) (fun t k => XS.aloadN X464.here hx rfl (hb hby d13_17) rfl rfl (XS.iloadN X464.here hx rfl (hb hby d13_18) rfl k)) ?_
 obtain ⟨cl465, Ar465, q465, Sz465, Nn465, Hh465, Gg465⟩ := id f464_1
 have hin465 : ¬ ((0 : Int32) < 0 ∨ cl465.slots.size ≤ ((0 : Int32)).toNatClampNeg) := inb_of Sz465 ⟨by decide, by decide⟩
 refine GoW.sg (mkF m 20 (Sh9 a1c 0 3 b464_e0 0) [(.int x1c), (.int 0), (.ref b464_e0)]) (fun t k => X464.caload hx (j := (0 : Int32)) (v := (.int x1c)) (hq_ rfl Ar465.1) (State.isArrayOf_alike hZ.alike Ar465.2.1) Ar465.2.2 hin465 (Hh465.at hin465 rfl) (g := (mkF m 19 (Sh9 a1c 0 3 b464_e0 0) [(.int 0), (.ref a1c), (.int 0), (.ref b464_e0)])) rfl rfl (hb hby d13_19) t k) ?_
 obtain ⟨_, T471, L471, X471, hQ471, st471⟩ := own_callS X464 hx hZ hown (y := Y16) (ww hw 68 rfl) (ww hw 69 rfl) (ww hw 50 rfl) (ww hw 70 rfl) (by decide) 0 (rm16_45 l Z a0 hw b464_e0 x1c k464_ke0 T464.heap n0  p464_0 f464_2 f464_3 f464_4 g_b464_e0    ) (by decide) (by decide) rfl (by decide) (by decide) (g := (mkF m 20 (Sh9 a1c 0 3 b464_e0 0) [(.int x1c), (.int 0), (.ref b464_e0)])) rfl (by rw [hml]; rfl) (argsL := [(.ref b464_e0), (.int (0 : Int32)), (.int x1c)]) (rest := []) (lenOf pd_285bBII29V rfl) rfl (by show 2 * 0 + _ ≤ _; exact Nat.le_of_eq rfl) (hb hby d13_20)
 obtain ⟨rfl, N471q, K471, p471_0⟩ := hQ471
 have N471 := Fr.app N464 N471q
 have f471_7 := f464_1.keep K471 (ninS ne_a1c_b464_e0 nin0)
 have f471_8 := own_staK f464_2 K471 (allS (own_nsA p464_0) all0)
 have f471_9 := own_staK f464_3 K471 (allS (own_nsA p464_0) all0)
 have f471_10 := own_staK f464_4 K471 (allS (own_nsA p464_0) all0)
 have f471_11 := f464_5.trans K471 (allS (Or.inr sz_b464_e0) all0)
 refine GoW.sg (mkF m 23 (Sh9 a1c 0 3 b464_e0 0) []) (fun t k => st471 t k) ?_
 refine GoW.sg (mkF m 17 (Sh9 a1c 1 3 b464_e0 1) [(.int 1), (.ref b464_e0)]) (fun t k => XS.iinc X471.here hx rfl (hb hby d13_23) rfl (l' := (Sh9 a1c 1 3 b464_e0 0)) rfl (XS.iinc X471.here hx rfl (hb hby d13_26) rfl (l' := (Sh9 a1c 1 3 b464_e0 1)) rfl (XS.goto X471.here hx rfl (pc0 := 29) (pc' := 8) rfl (hb hby d13_29) (by decide) (by decide) (XS.iload X471.here hx rfl (hb hby d13_8) rfl (XS.iloadN X471.here hx rfl (hb hby d13_10) rfl (XS.icmpNo X471.here hx rfl (hb hby d13_11) rfl (by decide) (XS.aloadN X471.here hx rfl (hb hby d13_14) rfl rfl (XS.iload X471.here hx rfl (hb hby d13_15) rfl k)))))))) ?_
 refine GoW.sg (mkF m 19 (Sh9 a1c 1 3 b464_e0 1) [(.int 1), (.ref a1c), (.int 1), (.ref b464_e0)]) (fun t k => XS.aloadN X471.here hx rfl (hb hby d13_17) rfl rfl (XS.iloadN X471.here hx rfl (hb hby d13_18) rfl k)) ?_
 obtain ⟨cl472, Ar472, q472, Sz472, Nn472, Hh472, Gg472⟩ := id f471_7
 have hin472 : ¬ ((1 : Int32) < 0 ∨ cl472.slots.size ≤ ((1 : Int32)).toNatClampNeg) := inb_of Sz472 ⟨by decide, by decide⟩
 refine GoW.sg (mkF m 20 (Sh9 a1c 1 3 b464_e0 1) [(.int x2c), (.int 1), (.ref b464_e0)]) (fun t k => X471.caload hx (j := (1 : Int32)) (v := (.int x2c)) (hq_ rfl Ar472.1) (State.isArrayOf_alike hZ.alike Ar472.2.1) Ar472.2.2 hin472 (Hh472.at hin472 rfl) (g := (mkF m 19 (Sh9 a1c 1 3 b464_e0 1) [(.int 1), (.ref a1c), (.int 1), (.ref b464_e0)])) rfl rfl (hb hby d13_19) t k) ?_
 obtain ⟨_, T478, L478, X478, hQ478, st478⟩ := own_callS X471 hx hZ hown (y := Y16) (ww hw 68 rfl) (ww hw 69 rfl) (ww hw 50 rfl) (ww hw 70 rfl) (by decide) 0 (rm16_46 l Z a0 hw b464_e0 x2c k464_ke0 (lo8 x1c) (hi8 x1c) T471.heap n0  p471_0 f471_8 f471_9 f471_10 g_b464_e0    ) (by decide) (by decide) rfl (by decide) (by decide) (g := (mkF m 20 (Sh9 a1c 1 3 b464_e0 1) [(.int x2c), (.int 1), (.ref b464_e0)])) rfl (by rw [hml]; rfl) (argsL := [(.ref b464_e0), (.int (1 : Int32)), (.int x2c)]) (rest := []) (lenOf pd_285bBII29V rfl) rfl (by show 2 * 0 + _ ≤ _; exact Nat.le_of_eq rfl) (hb hby d13_20)
 obtain ⟨rfl, N478q, K478, p478_0⟩ := hQ478
 have N478 := Fr.app N471 N478q
 have f478_13 := f471_7.keep K478 (ninS ne_a1c_b464_e0 nin0)
 have f478_14 := own_staK f471_8 K478 (allS (own_nsA p471_0) all0)
 have f478_15 := own_staK f471_9 K478 (allS (own_nsA p471_0) all0)
 have f478_16 := own_staK f471_10 K478 (allS (own_nsA p471_0) all0)
 have f478_17 := f471_11.trans K478 (allS (Or.inr sz_b464_e0) all0)
 refine GoW.sg (mkF m 23 (Sh9 a1c 1 3 b464_e0 1) []) (fun t k => st478 t k) ?_
 refine GoW.sg (mkF m 17 (Sh9 a1c 2 3 b464_e0 2) [(.int 2), (.ref b464_e0)]) (fun t k => XS.iinc X478.here hx rfl (hb hby d13_23) rfl (l' := (Sh9 a1c 2 3 b464_e0 1)) rfl (XS.iinc X478.here hx rfl (hb hby d13_26) rfl (l' := (Sh9 a1c 2 3 b464_e0 2)) rfl (XS.goto X478.here hx rfl (pc0 := 29) (pc' := 8) rfl (hb hby d13_29) (by decide) (by decide) (XS.iload X478.here hx rfl (hb hby d13_8) rfl (XS.iloadN X478.here hx rfl (hb hby d13_10) rfl (XS.icmpNo X478.here hx rfl (hb hby d13_11) rfl (by decide) (XS.aloadN X478.here hx rfl (hb hby d13_14) rfl rfl (XS.iload X478.here hx rfl (hb hby d13_15) rfl k)))))))) ?_
 refine GoW.sg (mkF m 19 (Sh9 a1c 2 3 b464_e0 2) [(.int 2), (.ref a1c), (.int 2), (.ref b464_e0)]) (fun t k => XS.aloadN X478.here hx rfl (hb hby d13_17) rfl rfl (XS.iloadN X478.here hx rfl (hb hby d13_18) rfl k)) ?_
 obtain ⟨cl479, Ar479, q479, Sz479, Nn479, Hh479, Gg479⟩ := id f478_13
 have hin479 : ¬ ((2 : Int32) < 0 ∨ cl479.slots.size ≤ ((2 : Int32)).toNatClampNeg) := inb_of Sz479 ⟨by decide, by decide⟩
 refine GoW.sg (mkF m 20 (Sh9 a1c 2 3 b464_e0 2) [(.int x3c), (.int 2), (.ref b464_e0)]) (fun t k => X478.caload hx (j := (2 : Int32)) (v := (.int x3c)) (hq_ rfl Ar479.1) (State.isArrayOf_alike hZ.alike Ar479.2.1) Ar479.2.2 hin479 (Hh479.at hin479 rfl) (g := (mkF m 19 (Sh9 a1c 2 3 b464_e0 2) [(.int 2), (.ref a1c), (.int 2), (.ref b464_e0)])) rfl rfl (hb hby d13_19) t k) ?_
 obtain ⟨_, T485, L485, X485, hQ485, st485⟩ := own_callS X478 hx hZ hown (y := Y16) (ww hw 68 rfl) (ww hw 69 rfl) (ww hw 50 rfl) (ww hw 70 rfl) (by decide) 0 (rm16_47 l Z a0 hw b464_e0 x3c k464_ke0 (lo8 x1c) (hi8 x1c) (lo8 x2c) (hi8 x2c) T478.heap n0  p478_0 f478_14 f478_15 f478_16 g_b464_e0    ) (by decide) (by decide) rfl (by decide) (by decide) (g := (mkF m 20 (Sh9 a1c 2 3 b464_e0 2) [(.int x3c), (.int 2), (.ref b464_e0)])) rfl (by rw [hml]; rfl) (argsL := [(.ref b464_e0), (.int (2 : Int32)), (.int x3c)]) (rest := []) (lenOf pd_285bBII29V rfl) rfl (by show 2 * 0 + _ ≤ _; exact Nat.le_of_eq rfl) (hb hby d13_20)
 obtain ⟨rfl, N485q, K485, p485_0⟩ := hQ485
 have N485 := Fr.app N478 N485q
 have f485_23 := f478_17.trans K485 (allS (Or.inr sz_b464_e0) all0)
 refine GoW.sg (mkF m 23 (Sh9 a1c 2 3 b464_e0 2) []) (fun t k => st485 t k) ?_
 refine GoW.sg (mkF m 33 (Sh9 a1c 3 3 b464_e0 3) [(.ref b464_e0)]) (fun t k => XS.iinc X485.here hx rfl (hb hby d13_23) rfl (l' := (Sh9 a1c 3 3 b464_e0 2)) rfl (XS.iinc X485.here hx rfl (hb hby d13_26) rfl (l' := (Sh9 a1c 3 3 b464_e0 3)) rfl (XS.goto X485.here hx rfl (pc0 := 29) (pc' := 8) rfl (hb hby d13_29) (by decide) (by decide) (XS.iload X485.here hx rfl (hb hby d13_8) rfl (XS.iloadN X485.here hx rfl (hb hby d13_10) rfl (XS.icmpYes X485.here hx rfl (pc0 := 11) (pc' := 32) rfl (hb hby d13_11) rfl (by decide) (by decide) (by decide) (XS.aloadN X485.here hx rfl (hb hby d13_32) rfl rfl k))))))) ?_
 refine GoW.retA X485 hx Bd.returns rfl rfl rfl (hb hby d13_33) Bd.notSynchronized ?_ (by decide) (by decide)
 exact ⟨b464_e0, k464_ke0, rfl, N485, f485_23, p485_0, sz_b464_e0⟩
def Q17_49 (Z : State) (a1c : Addr) (ka1c : ClassId) (x1c : Int32) (x2c : Int32) (x3c : Int32) (x4c : Int32) (x5c : Int32) (x6c : Int32) (h0 : Heap) (n0 : Nat) (v : Option Value) (h : Heap) (L : List Loc) : Prop := v = some (.int (nar .char (((x1c &&& (255 : Int32)) <<< ((0 : Int32) &&& 31)) ||| ((x2c &&& (255 : Int32)) <<< ((8 : Int32) &&& 31))).toUInt32.toUInt16.toUInt32.toInt32)) ∧ Fr n0 L ∧ (h = h0)
theorem rm17_49 (l : Launch) (Z : State) (a0 : Array Value) (hw : HW a0 Z) (a1c : Addr) (ka1c : ClassId) (x1c : Int32) (x2c : Int32) (x3c : Int32) (x4c : Int32) (x5c : Int32) (x6c : Int32) (h0 : Heap) (n0 : Nat) (P0 : Arv Z h0 a1c ka1c .byte (6 : Int32) [(.int x1c), (.int x2c), (.int x3c), (.int x4c), (.int x5c), (.int x6c)] (.int 0)) (P1 : Sta Z h0 "java/lang/StringUTF16" "$assertionsDisabled" "Z" (.int 1)) (P2 : Sta Z h0 "java/lang/StringUTF16" "HI_BYTE_SHIFT" "I" (.int 0)) (P3 : Sta Z h0 "java/lang/StringUTF16" "LO_BYTE_SHIFT" "I" (.int 8)) :
  MM l Z Y17 jdk_52_method_5_code 2 (some .char) 0 0 0 0 #[(.ref a1c), (.int 0)] h0 (Q17_49 Z a1c ka1c x1c x2c x3c x4c x5c x6c h0 n0) := by
 refine own_start (fun m => (mkF m 0 #[.val (.ref a1c), .val (.int 0)] [])) (plainFor_of_name pn_java_lang_StringUTF16) (by simp [entryFrame, mkF, argsToLocals, Value.category]) n0 ?_
 intro p e s m below meth c s₁ Bd hx hby hml hZ hown hnm X0 e0 N0
 obtain ⟨T492, X492, e492, st492⟩ := getS (host := "") X0 hx hZ hown (ww hw 71 rfl) Via.refl e0 P1 (g := (mkF m 0 #[.val (.ref a1c), .val (.int 0)] [])) rfl (hb hby d17_0)
 refine GoW.sg (mkF m 3 #[.val (.ref a1c), .val (.int 0)] [(.int 1)]) (fun t k => st492 t k) ?_
 refine GoW.sg (mkF m 30 #[.val (.ref a1c), .val (.int 0)] [(.int 1), (.int 0)]) (fun t k => XS.ifYes X492.here hx rfl (pc0 := 3) (pc' := 28) rfl (hb hby d17_3) rfl (by decide) (by decide) (by decide) (XS.iloadN X492.here hx rfl (hb hby d17_28) rfl (XS.iconst X492.here hx rfl (hb hby d17_29) k))) ?_
 refine GoW.st (fun t k => XS.ishl X492.here hx rfl (hb hby d17_30) rfl k) ?_
 rw [show ((0 : Int32) <<< ((1 : Int32) &&& 31)) = (0 : Int32) from by decide]
 show GoW p e below s (Q17_49 Z a1c ka1c x1c x2c x3c x4c x5c x6c h0 n0) 0 0 (T492.setTop (mkF m 31 #[.val (.ref a1c), .val (.int 0)] [(.int 0)]))
 refine GoW.sg (mkF m 37 #[.val (.ref a1c), .val (.int 1)] [(.int 0), (.ref a1c)]) (fun t k => XS.istoreN X492.here hx rfl (hb hby d17_31) rfl (l' := #[.val (.ref a1c), .val (.int 0)]) rfl (XS.aloadN X492.here hx rfl (hb hby d17_32) rfl rfl (XS.iloadN X492.here hx rfl (hb hby d17_33) rfl (XS.iinc X492.here hx rfl (hb hby d17_34) rfl (l' := #[.val (.ref a1c), .val (.int 1)]) rfl k)))) ?_
 obtain ⟨cl493, Ar493, q493, Sz493, Nn493, Hh493, Gg493⟩ := id P0
 have hin493 : ¬ ((0 : Int32) < 0 ∨ cl493.slots.size ≤ ((0 : Int32)).toNatClampNeg) := inb_of Sz493 ⟨by decide, by decide⟩
 refine GoW.sg (mkF m 38 #[.val (.ref a1c), .val (.int 1)] [(.int x1c)]) (fun t k => X492.baloadBytes hx (j := (0 : Int32)) (v := (.int x1c)) (hq_ e492 Ar493.1) (State.isArrayOf_alike hZ.alike Ar493.2.1) Ar493.2.2 hin493 (Hh493.at hin493 rfl) (g := (mkF m 37 #[.val (.ref a1c), .val (.int 1)] [(.int 0), (.ref a1c)])) rfl rfl (hb hby d17_37) t k) ?_
 refine GoW.sg (mkF m 42 #[.val (.ref a1c), .val (.int 1)] [(.int (x1c &&& (255 : Int32)))]) (fun t k => XS.sipush X492.here hx rfl (hb hby d17_38) (XS.iand X492.here hx rfl (hb hby d17_41) rfl k)) ?_
 obtain ⟨T494, X494, e494, st494⟩ := getS (host := "") X492 hx hZ hown (ww hw 72 rfl) Via.refl e492 P2 (g := (mkF m 42 #[.val (.ref a1c), .val (.int 1)] [(.int (x1c &&& (255 : Int32)))])) rfl (hb hby d17_42)
 refine GoW.sg (mkF m 45 #[.val (.ref a1c), .val (.int 1)] [(.int 0), (.int (x1c &&& (255 : Int32)))]) (fun t k => st494 t k) ?_
 refine GoW.sg (mkF m 48 #[.val (.ref a1c), .val (.int 1)] [(.int 1), (.ref a1c), (.int ((x1c &&& (255 : Int32)) <<< ((0 : Int32) &&& 31)))]) (fun t k => XS.ishl X494.here hx rfl (hb hby d17_45) rfl (XS.aloadN X494.here hx rfl (hb hby d17_46) rfl rfl (XS.iloadN X494.here hx rfl (hb hby d17_47) rfl k))) ?_
 obtain ⟨cl495, Ar495, q495, Sz495, Nn495, Hh495, Gg495⟩ := id P0
 have hin495 : ¬ ((1 : Int32) < 0 ∨ cl495.slots.size ≤ ((1 : Int32)).toNatClampNeg) := inb_of Sz495 ⟨by decide, by decide⟩
 refine GoW.sg (mkF m 49 #[.val (.ref a1c), .val (.int 1)] [(.int x2c), (.int ((x1c &&& (255 : Int32)) <<< ((0 : Int32) &&& 31)))]) (fun t k => X494.baloadBytes hx (j := (1 : Int32)) (v := (.int x2c)) (hq_ e494 Ar495.1) (State.isArrayOf_alike hZ.alike Ar495.2.1) Ar495.2.2 hin495 (Hh495.at hin495 rfl) (g := (mkF m 48 #[.val (.ref a1c), .val (.int 1)] [(.int 1), (.ref a1c), (.int ((x1c &&& (255 : Int32)) <<< ((0 : Int32) &&& 31)))])) rfl rfl (hb hby d17_48) t k) ?_
 refine GoW.sg (mkF m 53 #[.val (.ref a1c), .val (.int 1)] [(.int (x2c &&& (255 : Int32))), (.int ((x1c &&& (255 : Int32)) <<< ((0 : Int32) &&& 31)))]) (fun t k => XS.sipush X494.here hx rfl (hb hby d17_49) (XS.iand X494.here hx rfl (hb hby d17_52) rfl k)) ?_
 obtain ⟨T496, X496, e496, st496⟩ := getS (host := "") X494 hx hZ hown (ww hw 73 rfl) Via.refl e494 P3 (g := (mkF m 53 #[.val (.ref a1c), .val (.int 1)] [(.int (x2c &&& (255 : Int32))), (.int ((x1c &&& (255 : Int32)) <<< ((0 : Int32) &&& 31)))])) rfl (hb hby d17_53)
 refine GoW.sg (mkF m 56 #[.val (.ref a1c), .val (.int 1)] [(.int 8), (.int (x2c &&& (255 : Int32))), (.int ((x1c &&& (255 : Int32)) <<< ((0 : Int32) &&& 31)))]) (fun t k => st496 t k) ?_
 refine GoW.sg (mkF m 59 #[.val (.ref a1c), .val (.int 1)] [(.int (((x1c &&& (255 : Int32)) <<< ((0 : Int32) &&& 31)) ||| ((x2c &&& (255 : Int32)) <<< ((8 : Int32) &&& 31))).toUInt32.toUInt16.toUInt32.toInt32)]) (fun t k => XS.ishl X496.here hx rfl (hb hby d17_56) rfl (XS.ior X496.here hx rfl (hb hby d17_57) rfl (XS.i2c X496.here hx rfl (hb hby d17_58) rfl k))) ?_
 refine GoW.retN X496 hx (t := .char) Bd.returns (by simp) (hb hby d17_59) Bd.notSynchronized ?_ (by decide) (by decide)
 rw [e496]
 exact ⟨rfl, N0, rfl⟩
def Q10_50 (Z : State) (a1c : Addr) (ka1c : ClassId) (x1c : Int32) (x2c : Int32) (x3c : Int32) (h0 : Heap) (n0 : Nat) (v : Option Value) (h : Heap) (L : List Loc) : Prop := ∃ e0 : Addr, ∃ ke0 : ClassId, v = some (.ref e0) ∧ Fr n0 L ∧ (Keep h0 h []) ∧ (Arv Z h e0 ke0 .byte (6 : Int32) [(.int (lo8 x1c)), (.int (hi8 x1c)), (.int (lo8 x2c)), (.int (hi8 x2c)), (.int (lo8 x3c)), (.int (hi8 x3c))] (.int 0)) ∧ (h0.size ≤ e0)
theorem rm10_50 (l : Launch) (Z : State) (a0 : Array Value) (hw : HW a0 Z) (a1c : Addr) (ka1c : ClassId) (x1c : Int32) (x2c : Int32) (x3c : Int32) (h0 : Heap) (n0 : Nat) (Z0 : n0 ≤ h0.size) (P0 : Arv Z h0 a1c ka1c .char (3 : Int32) [(.int x1c), (.int x2c), (.int x3c)] (.int 0)) (P1 : Sta Z h0 "java/lang/StringUTF16" "$assertionsDisabled" "Z" (.int 1)) (P2 : Sta Z h0 "java/lang/StringUTF16" "HI_BYTE_SHIFT" "I" (.int 0)) (P3 : Sta Z h0 "java/lang/StringUTF16" "LO_BYTE_SHIFT" "I" (.int 8)) (u0 : ¬ (x1c < (0 : Int32))) (u1 : ¬ ((65535 : Int32) < x1c)) (u2 : (255 : Int32) < x1c) :
  MM l Z Y10 jdk_52_method_16_code 6 (some (.array .byte)) 3 2 9 40 #[(.ref a1c), (.int 0), (.int 3)] h0 (Q10_50 Z a1c ka1c x1c x2c x3c h0 n0) := by
 refine own_start (fun m => (mkF m 0 (Sh1 a1c 0 3) [])) (plainFor_of_name pn_java_lang_StringUTF16) (by simp [entryFrame, mkF, argsToLocals, Value.category]) n0 ?_
 intro p e s m below meth c s₁ Bd hx hby hml hZ hown hnm X0 e0 N0
 refine GoW.sg (mkF m 1 (Sh1 a1c 0 3) [(.int 3)]) (fun t k => XS.iloadN X0.here hx rfl (hb hby d10_0) rfl k) ?_
 obtain ⟨T498, h498, k498, X498, e498, E498, A498, st498⟩ := newP X0 hx hZ (ww hw 26 rfl) e0 (g := (mkF m 1 (Sh1 a1c 0 3) [(.int 3)])) rfl (hb hby d10_1) rfl (by decide) (cap := 3) (by decide) (by decide) (by decide) (by decide)
 obtain ⟨b498, g498⟩ : ∃ z, z = h0.size := ⟨_, rfl⟩
 rw [← g498] at A498 st498
 have f498_1 := P0.ext E498
 have f498_2 := P1.ext E498
 have f498_3 := P2.ext E498
 have f498_4 := P3.ext E498
 have f498_5 := (Keep.refl h0 []).ext E498
 have f498_6 := Nat.le_trans Z0 E498.1
 have V498 : Arv Z h498 b498 k498 .byte (3 : Int32) [(.int (0 : Int32)), (.int (0 : Int32)), (.int (0 : Int32))] (.int (0 : Int32)) := (Arv.new A498 (by decide)).pad (pad_rep [] (.int (0 : Int32)) 3)
 refine GoW.sg (mkF m 3 (Sh1 a1c 0 3) [(.ref b498)]) (fun t k => st498 t k) ?_
 refine GoW.sg (mkF m 9 (Sh2 a1c 0 3 b498) [(.int 3), (.int 0), (.ref b498), (.int 0), (.ref a1c)]) (fun t k => XS.astoreN X498.here hx rfl (hb hby d10_3) rfl rfl (l' := (Sh2 a1c 0 3 b498)) rfl (XS.aloadN X498.here hx rfl (hb hby d10_4) rfl rfl (XS.iloadN X498.here hx rfl (hb hby d10_5) rfl (XS.aloadN X498.here hx rfl (hb hby d10_6) rfl rfl (XS.iconst X498.here hx rfl (hb hby d10_7) (XS.iloadN X498.here hx rfl (hb hby d10_8) rfl k)))))) ?_
 obtain ⟨_, T500, L500, X500, hQ500, st500⟩ := own_callS X498 hx hZ hown (y := Y11) (ww hw 52 rfl) (ww hw 53 rfl) (ww hw 50 rfl) (ww hw 54 rfl) (by decide) 0 (rm11_42 l Z a0 hw a1c b498 ka1c x1c x2c x3c h498 n0  f498_1   u2  ) (by decide) (by decide) e498 (by decide) (by decide) (g := (mkF m 9 (Sh2 a1c 0 3 b498) [(.int 3), (.int 0), (.ref b498), (.int 0), (.ref a1c)])) rfl (by rw [hml]; rfl) (argsL := [(.ref a1c), (.int (0 : Int32)), (.ref b498), (.int (0 : Int32)), (.int (3 : Int32))]) (rest := []) (lenOf pd_285bCI5bBII29I rfl) rfl (by show 2 * 0 + _ ≤ _; exact Nat.le_of_eq rfl) (hb hby d10_9)
 obtain ⟨rfl, N500q, e500⟩ := hQ500
 have N500 := Fr.app N0 N500q
 refine GoW.sg (mkF m 12 (Sh2 a1c 0 3 b498) [(.int 0)]) (fun t k => st500 t k) ?_
 refine GoW.sg (mkF m 23 (Sh6 a1c 0 3 b498 0) [(.int 3), (.int 0), (.ref a1c)]) (fun t k => XS.istore X500.here hx rfl (hb hby d10_12) rfl (l' := (Sh6 a1c 0 3 b498 0)) rfl (XS.iload X500.here hx rfl (hb hby d10_14) rfl (XS.iloadN X500.here hx rfl (hb hby d10_16) rfl (XS.icmpNo X500.here hx rfl (hb hby d10_17) rfl (by decide) (XS.aloadN X500.here hx rfl (hb hby d10_20) rfl rfl (XS.iloadN X500.here hx rfl (hb hby d10_21) rfl (XS.iloadN X500.here hx rfl (hb hby d10_22) rfl k))))))) ?_
 obtain ⟨_, T513, L513, X513, hQ513, st513⟩ := own_callS X500 hx hZ hown (y := Y13) (ww hw 58 rfl) (ww hw 59 rfl) (ww hw 50 rfl) (ww hw 60 rfl) (by decide) 0 (rm13_48 l Z a0 hw a1c ka1c x1c x2c x3c h498 n0 f498_6 f498_1 f498_2 f498_3 f498_4     ) (by decide) (by decide) e500 (by decide) (by decide) (g := (mkF m 23 (Sh6 a1c 0 3 b498 0) [(.int 3), (.int 0), (.ref a1c)])) rfl (by rw [hml]; rfl) (argsL := [(.ref a1c), (.int (0 : Int32)), (.int (3 : Int32))]) (rest := []) (lenOf pd_285bCII295bB rfl) rfl (by show 2 * 0 + _ ≤ _; exact Nat.le_of_eq rfl) (hb hby d10_23)
 obtain ⟨b513_e0, k513_ke0, rfl, N513q, K513, p513_0, hz_b513_e0⟩ := hQ513
 have sz_b513_e0 : h0.size ≤ b513_e0 := Nat.le_trans f498_5.1 hz_b513_e0
 have N513 := Fr.app N500 N513q
 have f513_8 := own_staK0 f498_2 K513
 have f513_9 := own_staK0 f498_3 K513
 have f513_10 := own_staK0 f498_4 K513
 have f513_11 := f498_5.trans K513 all0
 refine GoW.sg (mkF m 26 (Sh6 a1c 0 3 b498 0) [(.ref b513_e0)]) (fun t k => st513 t k) ?_
 refine GoW.sg (mkF m 32 (Sh11 a1c 0 3 b498 0 b513_e0) [(.int 0), (.ref b513_e0)]) (fun t k => XS.astore X513.here hx rfl (hb hby d10_26) rfl rfl (l' := (Sh11 a1c 0 3 b498 0 b513_e0)) rfl (XS.aload X513.here hx rfl (hb hby d10_28) rfl rfl (XS.iload X513.here hx rfl (hb hby d10_30) rfl k))) ?_
 obtain ⟨_, T519, L519, X519, hQ519, st519⟩ := own_callS X513 hx hZ hown (y := Y17) (ww hw 74 rfl) (ww hw 75 rfl) (ww hw 50 rfl) (ww hw 76 rfl) (by decide) 0 (rm17_49 l Z a0 hw b513_e0 k513_ke0 (lo8 x1c) (hi8 x1c) (lo8 x2c) (hi8 x2c) (lo8 x3c) (hi8 x3c) T513.heap n0  p513_0 f513_8 f513_9 f513_10     ) (by decide) (by decide) rfl (by decide) (by decide) (g := (mkF m 32 (Sh11 a1c 0 3 b498 0 b513_e0) [(.int 0), (.ref b513_e0)])) rfl (by rw [hml]; rfl) (argsL := [(.ref b513_e0), (.int (0 : Int32))]) (rest := []) (lenOf pd_285bBI29C rfl) rfl (by show 2 * 0 + _ ≤ _; exact Nat.le_of_eq rfl) (hb hby d10_32)
 obtain ⟨rfl, N519q, e519⟩ := hQ519
 have N519 := Fr.app N513 N519q
 refine GoW.sg (mkF m 35 (Sh11 a1c 0 3 b498 0 b513_e0) [(.int (nar .char ((((lo8 x1c) &&& (255 : Int32)) <<< ((0 : Int32) &&& 31)) ||| (((hi8 x1c) &&& (255 : Int32)) <<< ((8 : Int32) &&& 31))).toUInt32.toUInt16.toUInt32.toInt32))]) (fun t k => st519 t k) ?_
 rw [show (nar .char ((((lo8 x1c) &&& (255 : Int32)) <<< ((0 : Int32) &&& 31)) ||| (((hi8 x1c) &&& (255 : Int32)) <<< ((8 : Int32) &&& 31))).toUInt32.toUInt16.toUInt32.toInt32) = x1c from (own_join _ u0 u1)]
 refine GoW.sg (mkF m 56 (Sh11 a1c 0 3 b498 0 b513_e0) [(.ref b513_e0)]) (fun t k => XS.sipush X519.here hx rfl (hb hby d10_35) (XS.icmpYes X519.here hx rfl (pc0 := 38) (pc' := 54) rfl (hb hby d10_38) rfl (tlt u2).2.2.1 (by decide) (by decide) (XS.aload X519.here hx rfl (hb hby d10_54) rfl rfl k))) ?_
 refine GoW.retA X519 hx Bd.returns rfl rfl rfl (hb hby d10_56) Bd.notSynchronized ?_ (by decide) (by decide)
 rw [e519]
 exact ⟨b513_e0, k513_ke0, rfl, N519, f513_11, p513_0, sz_b513_e0⟩
def Q12_51 (Z : State) (a1c : Addr) (ka1c : ClassId) (x1c : Int32) (x2c : Int32) (x3c : Int32) (x4c : Int32) (x5c : Int32) (x6c : Int32) (h0 : Heap) (n0 : Nat) (v : Option Value) (h : Heap) (L : List Loc) : Prop := v = some (.int 1) ∧ Fr n0 L ∧ (h = h0)
theorem rm12_51 (l : Launch) (Z : State) (a0 : Array Value) (hw : HW a0 Z) (a1c : Addr) (ka1c : ClassId) (x1c : Int32) (x2c : Int32) (x3c : Int32) (x4c : Int32) (x5c : Int32) (x6c : Int32) (h0 : Heap) (n0 : Nat) (P0 : Arv Z h0 a1c ka1c .byte (6 : Int32) [(.int x1c), (.int x2c), (.int x3c), (.int x4c), (.int x5c), (.int x6c)] (.int 0)) :
  MM l Z Y12 jdk_52_method_15_code 2 (some .byte) 0 0 0 0 #[(.ref a1c), (.int 3)] h0 (Q12_51 Z a1c ka1c x1c x2c x3c x4c x5c x6c h0 n0) := by
 refine own_start (fun m => (mkF m 0 #[.val (.ref a1c), .val (.int 3)] [])) (plainFor_of_name pn_java_lang_StringUTF16) (by simp [entryFrame, mkF, argsToLocals, Value.category]) n0 ?_
 intro p e s m below meth c s₁ Bd hx hby hml hZ hown hnm X0 e0 N0
 refine GoW.sg (mkF m 2 #[.val (.ref a1c), .val (.int 3)] [(.ref a1c), (.int 3)]) (fun t k => XS.iloadN X0.here hx rfl (hb hby d12_0) rfl (XS.aloadN X0.here hx rfl (hb hby d12_1) rfl rfl k)) ?_
 obtain ⟨cl522, Ar522, q522, Sz522, Nn522, Hh522, Gg522⟩ := id P0
 have st522 := X0.arraylength hx (hq_ e0 Ar522.1) (State.isArrayOf_alike hZ.alike Ar522.2.1) (g := (mkF m 2 #[.val (.ref a1c), .val (.int 3)] [(.ref a1c), (.int 3)])) rfl rfl (hb hby d12_2)
 rw [len_of Sz522 Nn522] at st522
 refine GoW.sg (mkF m 3 #[.val (.ref a1c), .val (.int 3)] [(.int 6), (.int 3)]) (fun t k => st522 t k) ?_
 refine GoW.st (fun t k => XS.isub X0.here hx rfl (hb hby d12_3) rfl k) ?_
 rw [show ((3 : Int32) - (6 : Int32)) = (-3 : Int32) from by decide]
 show GoW p e below s (Q12_51 Z a1c ka1c x1c x2c x3c x4c x5c x6c h0 n0) 0 0 (s₁.setTop (mkF m 4 #[.val (.ref a1c), .val (.int 3)] [(.int (-3))]))
 refine GoW.sg (mkF m 6 #[.val (.ref a1c), .val (.int 3)] [(.int 31), (.int (-3))]) (fun t k => XS.bipush X0.here hx rfl (hb hby d12_4) k) ?_
 refine GoW.st (fun t k => XS.iushr X0.here hx rfl (hb hby d12_6) rfl k) ?_
 rw [show ((-3 : Int32).toUInt32 >>> ((31 : Int32) &&& 31).toUInt32).toInt32 = (1 : Int32) from by decide]
 show GoW p e below s (Q12_51 Z a1c ka1c x1c x2c x3c x4c x5c x6c h0 n0) 0 0 (s₁.setTop (mkF m 7 #[.val (.ref a1c), .val (.int 3)] [(.int 1)]))
 refine GoW.st (fun t k => XS.i2b X0.here hx rfl (hb hby d12_7) rfl k) ?_
 rw [show (1 : Int32).toInt8.toInt32 = (1 : Int32) from by decide]
 show GoW p e below s (Q12_51 Z a1c ka1c x1c x2c x3c x4c x5c x6c h0 n0) 0 0 (s₁.setTop (mkF m 8 #[.val (.ref a1c), .val (.int 3)] [(.int 1)]))
 refine GoW.retN X0 hx (t := .byte) Bd.returns (by simp) (hb hby d12_8) Bd.notSynchronized ?_ (by decide) (by decide)
 rw [e0]
 exact ⟨rfl, N0, rfl⟩
def Q5_52 (Z : State) (a1c : Addr) (a2c : Addr) (ka2c : ClassId) (x1c : Int32) (x2c : Int32) (x3c : Int32) (x4c : Int32) (h0 : Heap) (n0 : Nat) (v : Option Value) (h : Heap) (L : List Loc) : Prop := ∃ e0 : Addr, ∃ ke0 : ClassId, v = none ∧ Fr n0 L ∧ (Keep h0 h [a1c]) ∧ (Exa Z h a1c "java/lang/String") ∧ (Fld Z h a1c "java/lang/String" "coder" "B" (.int 1)) ∧ (Fld Z h a1c "java/lang/String" "value" "[B" (.ref e0)) ∧ (Arv Z h e0 ke0 .byte (6 : Int32) [(.int (lo8 x1c)), (.int (hi8 x1c)), (.int (lo8 x2c)), (.int (hi8 x2c)), (.int (lo8 x3c)), (.int (hi8 x3c))] (.int 0)) ∧ (h0.size ≤ e0)
theorem rm5_52 (l : Launch) (Z : State) (a0 : Array Value) (hw : HW a0 Z) (a1c : Addr) (a2c : Addr) (ka2c : ClassId) (x1c : Int32) (x2c : Int32) (x3c : Int32) (x4c : Int32) (h0 : Heap) (n0 : Nat) (Z0 : n0 ≤ h0.size) (P0 : Exa Z h0 a1c "java/lang/String") (P1 : Fld Z h0 a1c "java/lang/String" "coder" "B" (.int 0)) (P2 : Fld Z h0 a1c "java/lang/String" "value" "[B" .null) (P3 : Arv Z h0 a2c ka2c .char (3 : Int32) [(.int x1c), (.int x2c), (.int x3c)] (.int 0)) (P4 : Sta Z h0 "java/lang/String" "COMPACT_STRINGS" "Z" (.int x4c)) (P5 : Sta Z h0 "java/lang/StringUTF16" "$assertionsDisabled" "Z" (.int 1)) (P6 : Sta Z h0 "java/lang/StringUTF16" "HI_BYTE_SHIFT" "I" (.int 0)) (P7 : Sta Z h0 "java/lang/StringUTF16" "LO_BYTE_SHIFT" "I" (.int 8)) (g_a1c : n0 ≤ a1c) (u0 : ¬ (x1c < (0 : Int32))) (u1 : ¬ ((65535 : Int32) < x1c)) (u2 : ¬ (x4c = (0 : Int32))) (u3 : (255 : Int32) < x1c) :
  MM l Z Y5 jdk_42_method_149_code 6 none 4 2 9 57 #[(.ref a1c), (.ref a2c), (.int 0), (.int 3), .null] h0 (Q5_52 Z a1c a2c ka2c x1c x2c x3c x4c h0 n0) := by
 refine own_start (fun m => (mkF m 0 (Sh0 a1c a2c 0 3) [])) (plainFor_of_name pn_java_lang_String) (by simp [entryFrame, mkF, argsToLocals, Value.category]) n0 ?_
 intro p e s m below meth c s₁ Bd hx hby hml hZ hown hnm X0 e0 N0
 refine GoW.sg (mkF m 1 (Sh0 a1c a2c 0 3) [(.ref a1c)]) (fun t k => XS.aloadN X0.here hx rfl (hb hby d5_0) rfl rfl k) ?_
 obtain ⟨T526, X526, e526, st526⟩ := initO X0 hx hZ hown (ww hw 22 rfl) (ww hw 23 rfl) (ww hw 24 rfl) e0 (g := (mkF m 1 (Sh0 a1c a2c 0 3) [(.ref a1c)])) rfl (by rw [hml]; rfl) rfl (hb hby d5_1) (by decide) (W := 0) (by show 2 * 0 + _ ≤ _; exact Nat.le_of_eq rfl) (by decide)
 refine GoW.sg (mkF m 4 (Sh0 a1c a2c 0 3) []) (fun t k => st526 t k) ?_
 refine GoW.sg (mkF m 27 (Sh0 a1c a2c 0 3) []) (fun t k => XS.iloadN X526.here hx rfl (hb hby d5_4) rfl (XS.ifYes X526.here hx rfl (pc0 := 5) (pc' := 27) rfl (hb hby d5_5) rfl (by decide) (by decide) (by decide) k)) ?_
 obtain ⟨T527, X527, e527, st527⟩ := getS (host := "") X526 hx hZ hown (ww hw 47 rfl) Via.refl e526 P4 (g := (mkF m 27 (Sh0 a1c a2c 0 3) [])) rfl (hb hby d5_27)
 refine GoW.sg (mkF m 30 (Sh0 a1c a2c 0 3) [(.int x4c)]) (fun t k => st527 t k) ?_
 refine GoW.sg (mkF m 36 (Sh0 a1c a2c 0 3) [(.int 3), (.int 0), (.ref a2c)]) (fun t k => XS.ifNo X527.here hx rfl (hb hby d5_30) rfl ((if0 _ _).trans (feq u2).1) (XS.aloadN X527.here hx rfl (hb hby d5_33) rfl rfl (XS.iloadN X527.here hx rfl (hb hby d5_34) rfl (XS.iloadN X527.here hx rfl (hb hby d5_35) rfl k)))) ?_
 obtain ⟨_, T550, L550, X550, hQ550, st550⟩ := own_callS X527 hx hZ hown (y := Y10) (ww hw 48 rfl) (ww hw 49 rfl) (ww hw 50 rfl) (ww hw 51 rfl) (by decide) 0 (rm10_50 l Z a0 hw a2c ka2c x1c x2c x3c h0 n0 Z0 P3 P5 P6 P7   u0 u1 u3  ) (by decide) (by decide) e527 (by decide) (by decide) (g := (mkF m 36 (Sh0 a1c a2c 0 3) [(.int 3), (.int 0), (.ref a2c)])) rfl (by rw [hml]; rfl) (argsL := [(.ref a2c), (.int (0 : Int32)), (.int (3 : Int32))]) (rest := []) (lenOf pd_285bCII295bB rfl) rfl (by show 2 * 0 + _ ≤ _; exact Nat.le_of_eq rfl) (hb hby d5_36)
 obtain ⟨b550_e0, k550_ke0, rfl, N550q, K550, p550_0, hz_b550_e0⟩ := hQ550
 have sz_b550_e0 : h0.size ≤ b550_e0 := Nat.le_trans (Keep.refl h0 [a1c]).1 hz_b550_e0
 have ne_a1c_b550_e0 : a1c ≠ b550_e0 := Nat.ne_of_lt (Nat.lt_of_lt_of_le P0.lt hz_b550_e0)
 have N550 := Fr.app N0 N550q
 have f550_1 := P0.keep K550
 have f550_2 := P1.keep K550 nin0
 have f550_3 := P2.keep K550 nin0
 have f550_9 := (Keep.refl h0 [a1c]).trans K550 all0
 refine GoW.sg (mkF m 39 (Sh0 a1c a2c 0 3) [(.ref b550_e0)]) (fun t k => st550 t k) ?_
 refine GoW.sg (mkF m 45 (Sh12 a1c a2c 0 3 b550_e0) [(.int 3), (.ref b550_e0), (.ref a1c)]) (fun t k => XS.astore X550.here hx rfl (hb hby d5_39) rfl rfl (l' := (Sh12 a1c a2c 0 3 b550_e0)) rfl (XS.aloadN X550.here hx rfl (hb hby d5_41) rfl rfl (XS.aload X550.here hx rfl (hb hby d5_42) rfl rfl (XS.iloadN X550.here hx rfl (hb hby d5_44) rfl k)))) ?_
 obtain ⟨_, T551, L551, X551, hQ551, st551⟩ := own_callS X550 hx hZ hown (y := Y12) (ww hw 55 rfl) (ww hw 56 rfl) (ww hw 50 rfl) (ww hw 57 rfl) (by decide) 1 (rm12_51 l Z a0 hw b550_e0 k550_ke0 (lo8 x1c) (hi8 x1c) (lo8 x2c) (hi8 x2c) (lo8 x3c) (hi8 x3c) T550.heap n0  p550_0     ) (by decide) (by decide) rfl (by decide) (by decide) (g := (mkF m 45 (Sh12 a1c a2c 0 3 b550_e0) [(.int 3), (.ref b550_e0), (.ref a1c)])) rfl (by rw [hml]; rfl) (argsL := [(.ref b550_e0), (.int (3 : Int32))]) (rest := [(.ref a1c)]) (lenOf pd_285bBI29B rfl) rfl (by show 2 * 0 + _ ≤ _; exact Nat.le_of_eq rfl) (hb hby d5_45)
 obtain ⟨rfl, N551q, e551⟩ := hQ551
 have N551 := Fr.app N550 N551q
 refine GoW.sg (mkF m 48 (Sh12 a1c a2c 0 3 b550_e0) [(.int 1), (.ref a1c)]) (fun t k => st551 t k) ?_
 obtain ⟨T552, h552, X552, e552, W552, st552⟩ := putF X551 hx hZ hown (host := "") (Or.inl (ww hw 32 rfl)) Via.refl e551 f550_2 f550_1 (Or.inr ⟨(ww hw 28 rfl), rfl, hnm⟩) (ww hw 12 rfl) (ty := .byte) (by decide) rfl rfl (g := (mkF m 48 (Sh12 a1c a2c 0 3 b550_e0) [(.int 1), (.ref a1c)])) rfl rfl (hb hby d5_48)
 have N552 := Fr.snoc X552 N551 g_a1c
 have f552_11 := f550_1.wr W552
 have f552_12 := f550_3.other W552 (Or.inr (slot_ne (t := (.array .byte)) (t' := .byte) (Or.inr (ww hw 27 rfl)) (Or.inr (ww hw 28 rfl)) (by decide) (by decide) (by decide)))
 have f552_17 := f550_9.wr W552 (Or.inl (List.mem_of_getElem? (i := 0) rfl))
 have f552_19 := p550_0.other W552 (Ne.symm ne_a1c_b550_e0)
 have F552coder : Fld Z h552 a1c "java/lang/String" "coder" "B" (.int (1 : Int32)) := f550_2.same W552
 refine GoW.sg (mkF m 51 (Sh12 a1c a2c 0 3 b550_e0) []) (fun t k => st552 t k) ?_
 refine GoW.sg (mkF m 54 (Sh12 a1c a2c 0 3 b550_e0) [(.ref b550_e0), (.ref a1c)]) (fun t k => XS.aloadN X552.here hx rfl (hb hby d5_51) rfl rfl (XS.aload X552.here hx rfl (hb hby d5_52) rfl rfl k)) ?_
 obtain ⟨T553, h553, X553, e553, W553, st553⟩ := putF X552 hx hZ hown (host := "") (Or.inl (ww hw 31 rfl)) Via.refl e552 f552_12 f552_11 (Or.inr ⟨(ww hw 27 rfl), rfl, hnm⟩) (ww hw 12 rfl) (ty := (.array .byte)) (by decide) rfl rfl (g := (mkF m 54 (Sh12 a1c a2c 0 3 b550_e0) [(.ref b550_e0), (.ref a1c)])) rfl rfl (hb hby d5_54)
 have N553 := Fr.snoc X553 N552 g_a1c
 have f553_20 := f552_11.wr W553
 have f553_21 := F552coder.other W553 (Or.inr (slot_ne (t := .byte) (t' := (.array .byte)) (Or.inr (ww hw 28 rfl)) (Or.inr (ww hw 27 rfl)) (by decide) (by decide) (by decide)))
 have f553_26 := f552_17.wr W553 (Or.inl (List.mem_of_getElem? (i := 0) rfl))
 have f553_28 := f552_19.other W553 (Ne.symm ne_a1c_b550_e0)
 have F553value : Fld Z h553 a1c "java/lang/String" "value" "[B" (.ref b550_e0) := f552_12.same W553
 refine GoW.sg (mkF m 57 (Sh12 a1c a2c 0 3 b550_e0) []) (fun t k => st553 t k) ?_
 refine GoW.retV X553 hx Bd.returns (hb hby d5_57) Bd.notSynchronized ?_ (by decide) (by decide)
 rw [e553]
 exact ⟨b550_e0, k550_ke0, rfl, N553, f553_26, f553_20, f553_21, F553value, f553_28, sz_b550_e0⟩
def Q11_54 (Z : State) (a1c : Addr) (a2c : Addr) (ka2c : ClassId) (ka1c : ClassId) (x1c : Int32) (x2c : Int32) (x3c : Int32) (h0 : Heap) (n0 : Nat) (v : Option Value) (h : Heap) (L : List Loc) : Prop := v = some (.int 1) ∧ Fr n0 L ∧ (Keep h0 h [a2c]) ∧ (Arv Z h a2c ka2c .byte (3 : Int32) [(.int (lat8 x1c)), (.int 0), (.int 0)] (.int 0))
theorem rm11_54 (l : Launch) (Z : State) (a0 : Array Value) (hw : HW a0 Z) (a1c : Addr) (a2c : Addr) (ka2c : ClassId) (ka1c : ClassId) (x1c : Int32) (x2c : Int32) (x3c : Int32) (h0 : Heap) (n0 : Nat) (P0 : Arv Z h0 a2c ka2c .byte (3 : Int32) [(.int 0), (.int 0), (.int 0)] (.int 0)) (P1 : Arv Z h0 a1c ka1c .char (3 : Int32) [(.int x1c), (.int x2c), (.int x3c)] (.int 0)) (g_a2c : n0 ≤ a2c) (ne_a1c_a2c : a1c ≠ a2c) (u0 : ¬ ((255 : Int32) < x1c)) (u1 : (255 : Int32) < x2c) :
  MM l Z Y11 jdk_52_method_21_code 7 (some .int) 0 0 0 0 #[(.ref a1c), (.int 0), (.ref a2c), (.int 0), (.int 3)] h0 (Q11_54 Z a1c a2c ka2c ka1c x1c x2c x3c h0 n0) := by
 refine own_start (fun m => (mkF m 0 (Sh3 a1c 0 a2c 0 3) [])) (plainFor_of_name pn_java_lang_StringUTF16) (by simp [entryFrame, mkF, argsToLocals, Value.category]) n0 ?_
 intro p e s m below meth c s₁ Bd hx hby hml hZ hown hnm X0 e0 N0
 refine GoW.sg (mkF m 12 (Sh4 a1c 0 a2c 0 3 0) [(.int 0), (.ref a1c)]) (fun t k => XS.iconst X0.here hx rfl (hb hby d11_0) (XS.istore X0.here hx rfl (hb hby d11_1) rfl (l' := (Sh4 a1c 0 a2c 0 3 0)) rfl (XS.iload X0.here hx rfl (hb hby d11_3) rfl (XS.iload X0.here hx rfl (hb hby d11_5) rfl (XS.icmpNo X0.here hx rfl (hb hby d11_7) rfl (by decide) (XS.aloadN X0.here hx rfl (hb hby d11_10) rfl rfl (XS.iloadN X0.here hx rfl (hb hby d11_11) rfl k))))))) ?_
 obtain ⟨cl570, Ar570, q570, Sz570, Nn570, Hh570, Gg570⟩ := id P1
 have hin570 : ¬ ((0 : Int32) < 0 ∨ cl570.slots.size ≤ ((0 : Int32)).toNatClampNeg) := inb_of Sz570 ⟨by decide, by decide⟩
 refine GoW.sg (mkF m 13 (Sh4 a1c 0 a2c 0 3 0) [(.int x1c)]) (fun t k => X0.caload hx (j := (0 : Int32)) (v := (.int x1c)) (hq_ e0 Ar570.1) (State.isArrayOf_alike hZ.alike Ar570.2.1) Ar570.2.2 hin570 (Hh570.at hin570 rfl) (g := (mkF m 12 (Sh4 a1c 0 a2c 0 3 0) [(.int 0), (.ref a1c)])) rfl rfl (hb hby d11_12) t k) ?_
 refine GoW.sg (mkF m 31 (Sh5 a1c 0 a2c 0 3 0 x1c) [(.int x1c.toInt8.toInt32), (.int 0), (.ref a2c)]) (fun t k => XS.istore X0.here hx rfl (hb hby d11_13) rfl (l' := (Sh5 a1c 0 a2c 0 3 0 x1c)) rfl (XS.iload X0.here hx rfl (hb hby d11_15) rfl (XS.sipush X0.here hx rfl (hb hby d11_17) (XS.icmpYes X0.here hx rfl (pc0 := 20) (pc' := 26) rfl (hb hby d11_20) rfl (flt u0).2.2.2 (by decide) (by decide) (XS.aloadN X0.here hx rfl (hb hby d11_26) rfl rfl (XS.iloadN X0.here hx rfl (hb hby d11_27) rfl (XS.iload X0.here hx rfl (hb hby d11_28) rfl (XS.i2b X0.here hx rfl (hb hby d11_30) rfl k)))))))) ?_
 obtain ⟨cl571, Ar571, q571, Sz571, Nn571, Hh571, Gg571⟩ := P0
 have hin571 : ¬ ((0 : Int32) < 0 ∨ cl571.slots.size ≤ ((0 : Int32)).toNatClampNeg) := inb_of Sz571 ⟨by decide, by decide⟩
 obtain ⟨T571, h571, X571, e571, W571, st571⟩ := stB X0 hx hZ e0 Ar571 (j := (0 : Int32)) hin571 (g := (mkF m 31 (Sh5 a1c 0 a2c 0 3 0 x1c) [(.int x1c.toInt8.toInt32), (.int 0), (.ref a2c)])) rfl rfl (hb hby d11_31)
 have f571_1 := P1.other W571 ne_a1c_a2c
 have f571_2 := (Keep.refl h0 [a2c]).wr W571 (Or.inl (List.mem_of_getElem? (i := 0) rfl))
 have V571 : Arv Z h571 a2c ka2c .byte (3 : Int32) [(.int (lat8 x1c)), (.int (0 : Int32)), (.int (0 : Int32))] (.int (0 : Int32)) := Arv.set Ar571 q571 Sz571 Nn571 Hh571 Gg571 (fits_nar_byte _) W571 0 rfl (Nat.le_of_ble_eq_true rfl)
 have N571 := Fr.snoc X571 N0 g_a2c
 refine GoW.sg (mkF m 32 (Sh5 a1c 0 a2c 0 3 0 x1c) []) (fun t k => st571 t k) ?_
 refine GoW.sg (mkF m 11 (Sh5 a1c 1 a2c 1 3 1 x1c) [(.ref a1c)]) (fun t k => XS.iinc X571.here hx rfl (hb hby d11_32) rfl (l' := (Sh5 a1c 1 a2c 0 3 0 x1c)) rfl (XS.iinc X571.here hx rfl (hb hby d11_35) rfl (l' := (Sh5 a1c 1 a2c 1 3 0 x1c)) rfl (XS.iinc X571.here hx rfl (hb hby d11_38) rfl (l' := (Sh5 a1c 1 a2c 1 3 1 x1c)) rfl (XS.goto X571.here hx rfl (pc0 := 41) (pc' := 3) rfl (hb hby d11_41) (by decide) (by decide) (XS.iload X571.here hx rfl (hb hby d11_3) rfl (XS.iload X571.here hx rfl (hb hby d11_5) rfl (XS.icmpNo X571.here hx rfl (hb hby d11_7) rfl (by decide) (XS.aloadN X571.here hx rfl (hb hby d11_10) rfl rfl k)))))))) ?_
 refine GoW.sg (mkF m 12 (Sh5 a1c 1 a2c 1 3 1 x1c) [(.int 1), (.ref a1c)]) (fun t k => XS.iloadN X571.here hx rfl (hb hby d11_11) rfl k) ?_
 obtain ⟨cl572, Ar572, q572, Sz572, Nn572, Hh572, Gg572⟩ := id f571_1
 have hin572 : ¬ ((1 : Int32) < 0 ∨ cl572.slots.size ≤ ((1 : Int32)).toNatClampNeg) := inb_of Sz572 ⟨by decide, by decide⟩
 refine GoW.sg (mkF m 13 (Sh5 a1c 1 a2c 1 3 1 x1c) [(.int x2c)]) (fun t k => X571.caload hx (j := (1 : Int32)) (v := (.int x2c)) (hq_ e571 Ar572.1) (State.isArrayOf_alike hZ.alike Ar572.2.1) Ar572.2.2 hin572 (Hh572.at hin572 rfl) (g := (mkF m 12 (Sh5 a1c 1 a2c 1 3 1 x1c) [(.int 1), (.ref a1c)])) rfl rfl (hb hby d11_12) t k) ?_
 refine GoW.sg (mkF m 25 (Sh5 a1c 1 a2c 1 3 1 x2c) [(.int 1)]) (fun t k => XS.istore X571.here hx rfl (hb hby d11_13) rfl (l' := (Sh5 a1c 1 a2c 1 3 1 x2c)) rfl (XS.iload X571.here hx rfl (hb hby d11_15) rfl (XS.sipush X571.here hx rfl (hb hby d11_17) (XS.icmpNo X571.here hx rfl (hb hby d11_20) rfl (tlt u1).2.2.2 (XS.iload X571.here hx rfl (hb hby d11_23) rfl k))))) ?_
 refine GoW.retI X571 hx Bd.returns (hb hby d11_25) Bd.notSynchronized ?_ (by decide) (by decide)
 rw [e571]
 exact ⟨rfl, N571, f571_2, V571⟩
def Q17_55 (Z : State) (a1c : Addr) (ka1c : ClassId) (x1c : Int32) (x2c : Int32) (x3c : Int32) (x4c : Int32) (x5c : Int32) (x6c : Int32) (h0 : Heap) (n0 : Nat) (v : Option Value) (h : Heap) (L : List Loc) : Prop := v = some (.int (nar .char (((x3c &&& (255 : Int32)) <<< ((0 : Int32) &&& 31)) ||| ((x4c &&& (255 : Int32)) <<< ((8 : Int32) &&& 31))).toUInt32.toUInt16.toUInt32.toInt32)) ∧ Fr n0 L ∧ (h = h0)
theorem rm17_55 (l : Launch) (Z : State) (a0 : Array Value) (hw : HW a0 Z) (a1c : Addr) (ka1c : ClassId) (x1c : Int32) (x2c : Int32) (x3c : Int32) (x4c : Int32) (x5c : Int32) (x6c : Int32) (h0 : Heap) (n0 : Nat) (P0 : Arv Z h0 a1c ka1c .byte (6 : Int32) [(.int x1c), (.int x2c), (.int x3c), (.int x4c), (.int x5c), (.int x6c)] (.int 0)) (P1 : Sta Z h0 "java/lang/StringUTF16" "$assertionsDisabled" "Z" (.int 1)) (P2 : Sta Z h0 "java/lang/StringUTF16" "HI_BYTE_SHIFT" "I" (.int 0)) (P3 : Sta Z h0 "java/lang/StringUTF16" "LO_BYTE_SHIFT" "I" (.int 8)) :
  MM l Z Y17 jdk_52_method_5_code 2 (some .char) 0 0 0 0 #[(.ref a1c), (.int 1)] h0 (Q17_55 Z a1c ka1c x1c x2c x3c x4c x5c x6c h0 n0) := by
 refine own_start (fun m => (mkF m 0 #[.val (.ref a1c), .val (.int 1)] [])) (plainFor_of_name pn_java_lang_StringUTF16) (by simp [entryFrame, mkF, argsToLocals, Value.category]) n0 ?_
 intro p e s m below meth c s₁ Bd hx hby hml hZ hown hnm X0 e0 N0
 obtain ⟨T597, X597, e597, st597⟩ := getS (host := "") X0 hx hZ hown (ww hw 71 rfl) Via.refl e0 P1 (g := (mkF m 0 #[.val (.ref a1c), .val (.int 1)] [])) rfl (hb hby d17_0)
 refine GoW.sg (mkF m 3 #[.val (.ref a1c), .val (.int 1)] [(.int 1)]) (fun t k => st597 t k) ?_
 refine GoW.sg (mkF m 30 #[.val (.ref a1c), .val (.int 1)] [(.int 1), (.int 1)]) (fun t k => XS.ifYes X597.here hx rfl (pc0 := 3) (pc' := 28) rfl (hb hby d17_3) rfl (by decide) (by decide) (by decide) (XS.iloadN X597.here hx rfl (hb hby d17_28) rfl (XS.iconst X597.here hx rfl (hb hby d17_29) k))) ?_
 refine GoW.st (fun t k => XS.ishl X597.here hx rfl (hb hby d17_30) rfl k) ?_
 rw [show ((1 : Int32) <<< ((1 : Int32) &&& 31)) = (2 : Int32) from by decide]
 show GoW p e below s (Q17_55 Z a1c ka1c x1c x2c x3c x4c x5c x6c h0 n0) 0 0 (T597.setTop (mkF m 31 #[.val (.ref a1c), .val (.int 1)] [(.int 2)]))
 refine GoW.sg (mkF m 37 #[.val (.ref a1c), .val (.int 3)] [(.int 2), (.ref a1c)]) (fun t k => XS.istoreN X597.here hx rfl (hb hby d17_31) rfl (l' := #[.val (.ref a1c), .val (.int 2)]) rfl (XS.aloadN X597.here hx rfl (hb hby d17_32) rfl rfl (XS.iloadN X597.here hx rfl (hb hby d17_33) rfl (XS.iinc X597.here hx rfl (hb hby d17_34) rfl (l' := #[.val (.ref a1c), .val (.int 3)]) rfl k)))) ?_
 obtain ⟨cl598, Ar598, q598, Sz598, Nn598, Hh598, Gg598⟩ := id P0
 have hin598 : ¬ ((2 : Int32) < 0 ∨ cl598.slots.size ≤ ((2 : Int32)).toNatClampNeg) := inb_of Sz598 ⟨by decide, by decide⟩
 refine GoW.sg (mkF m 38 #[.val (.ref a1c), .val (.int 3)] [(.int x3c)]) (fun t k => X597.baloadBytes hx (j := (2 : Int32)) (v := (.int x3c)) (hq_ e597 Ar598.1) (State.isArrayOf_alike hZ.alike Ar598.2.1) Ar598.2.2 hin598 (Hh598.at hin598 rfl) (g := (mkF m 37 #[.val (.ref a1c), .val (.int 3)] [(.int 2), (.ref a1c)])) rfl rfl (hb hby d17_37) t k) ?_
 refine GoW.sg (mkF m 42 #[.val (.ref a1c), .val (.int 3)] [(.int (x3c &&& (255 : Int32)))]) (fun t k => XS.sipush X597.here hx rfl (hb hby d17_38) (XS.iand X597.here hx rfl (hb hby d17_41) rfl k)) ?_
 obtain ⟨T599, X599, e599, st599⟩ := getS (host := "") X597 hx hZ hown (ww hw 72 rfl) Via.refl e597 P2 (g := (mkF m 42 #[.val (.ref a1c), .val (.int 3)] [(.int (x3c &&& (255 : Int32)))])) rfl (hb hby d17_42)
 refine GoW.sg (mkF m 45 #[.val (.ref a1c), .val (.int 3)] [(.int 0), (.int (x3c &&& (255 : Int32)))]) (fun t k => st599 t k) ?_
 refine GoW.sg (mkF m 48 #[.val (.ref a1c), .val (.int 3)] [(.int 3), (.ref a1c), (.int ((x3c &&& (255 : Int32)) <<< ((0 : Int32) &&& 31)))]) (fun t k => XS.ishl X599.here hx rfl (hb hby d17_45) rfl (XS.aloadN X599.here hx rfl (hb hby d17_46) rfl rfl (XS.iloadN X599.here hx rfl (hb hby d17_47) rfl k))) ?_
 obtain ⟨cl600, Ar600, q600, Sz600, Nn600, Hh600, Gg600⟩ := id P0
 have hin600 : ¬ ((3 : Int32) < 0 ∨ cl600.slots.size ≤ ((3 : Int32)).toNatClampNeg) := inb_of Sz600 ⟨by decide, by decide⟩
 refine GoW.sg (mkF m 49 #[.val (.ref a1c), .val (.int 3)] [(.int x4c), (.int ((x3c &&& (255 : Int32)) <<< ((0 : Int32) &&& 31)))]) (fun t k => X599.baloadBytes hx (j := (3 : Int32)) (v := (.int x4c)) (hq_ e599 Ar600.1) (State.isArrayOf_alike hZ.alike Ar600.2.1) Ar600.2.2 hin600 (Hh600.at hin600 rfl) (g := (mkF m 48 #[.val (.ref a1c), .val (.int 3)] [(.int 3), (.ref a1c), (.int ((x3c &&& (255 : Int32)) <<< ((0 : Int32) &&& 31)))])) rfl rfl (hb hby d17_48) t k) ?_
 refine GoW.sg (mkF m 53 #[.val (.ref a1c), .val (.int 3)] [(.int (x4c &&& (255 : Int32))), (.int ((x3c &&& (255 : Int32)) <<< ((0 : Int32) &&& 31)))]) (fun t k => XS.sipush X599.here hx rfl (hb hby d17_49) (XS.iand X599.here hx rfl (hb hby d17_52) rfl k)) ?_
 obtain ⟨T601, X601, e601, st601⟩ := getS (host := "") X599 hx hZ hown (ww hw 73 rfl) Via.refl e599 P3 (g := (mkF m 53 #[.val (.ref a1c), .val (.int 3)] [(.int (x4c &&& (255 : Int32))), (.int ((x3c &&& (255 : Int32)) <<< ((0 : Int32) &&& 31)))])) rfl (hb hby d17_53)
 refine GoW.sg (mkF m 56 #[.val (.ref a1c), .val (.int 3)] [(.int 8), (.int (x4c &&& (255 : Int32))), (.int ((x3c &&& (255 : Int32)) <<< ((0 : Int32) &&& 31)))]) (fun t k => st601 t k) ?_
 refine GoW.sg (mkF m 59 #[.val (.ref a1c), .val (.int 3)] [(.int (((x3c &&& (255 : Int32)) <<< ((0 : Int32) &&& 31)) ||| ((x4c &&& (255 : Int32)) <<< ((8 : Int32) &&& 31))).toUInt32.toUInt16.toUInt32.toInt32)]) (fun t k => XS.ishl X601.here hx rfl (hb hby d17_56) rfl (XS.ior X601.here hx rfl (hb hby d17_57) rfl (XS.i2c X601.here hx rfl (hb hby d17_58) rfl k))) ?_
 refine GoW.retN X601 hx (t := .char) Bd.returns (by simp) (hb hby d17_59) Bd.notSynchronized ?_ (by decide) (by decide)
 rw [e601]
 exact ⟨rfl, N0, rfl⟩
def Q10_56 (Z : State) (a1c : Addr) (ka1c : ClassId) (x1c : Int32) (x2c : Int32) (x3c : Int32) (h0 : Heap) (n0 : Nat) (v : Option Value) (h : Heap) (L : List Loc) : Prop := ∃ e0 : Addr, ∃ ke0 : ClassId, v = some (.ref e0) ∧ Fr n0 L ∧ (Keep h0 h []) ∧ (Arv Z h e0 ke0 .byte (6 : Int32) [(.int (lo8 x1c)), (.int (hi8 x1c)), (.int (lo8 x2c)), (.int (hi8 x2c)), (.int (lo8 x3c)), (.int (hi8 x3c))] (.int 0)) ∧ (h0.size ≤ e0)
theorem rm10_56 (l : Launch) (Z : State) (a0 : Array Value) (hw : HW a0 Z) (a1c : Addr) (ka1c : ClassId) (x1c : Int32) (x2c : Int32) (x3c : Int32) (h0 : Heap) (n0 : Nat) (Z0 : n0 ≤ h0.size) (P0 : Arv Z h0 a1c ka1c .char (3 : Int32) [(.int x1c), (.int x2c), (.int x3c)] (.int 0)) (P1 : Sta Z h0 "java/lang/StringUTF16" "$assertionsDisabled" "Z" (.int 1)) (P2 : Sta Z h0 "java/lang/StringUTF16" "HI_BYTE_SHIFT" "I" (.int 0)) (P3 : Sta Z h0 "java/lang/StringUTF16" "LO_BYTE_SHIFT" "I" (.int 8)) (u0 : ¬ (x2c < (0 : Int32))) (u1 : ¬ ((65535 : Int32) < x2c)) (u2 : ¬ ((255 : Int32) < x1c)) (u3 : (255 : Int32) < x2c) :
  MM l Z Y10 jdk_52_method_16_code 6 (some (.array .byte)) 3 2 9 40 #[(.ref a1c), (.int 0), (.int 3)] h0 (Q10_56 Z a1c ka1c x1c x2c x3c h0 n0) := by
 refine own_start (fun m => (mkF m 0 (Sh1 a1c 0 3) [])) (plainFor_of_name pn_java_lang_StringUTF16) (by simp [entryFrame, mkF, argsToLocals, Value.category]) n0 ?_
 intro p e s m below meth c s₁ Bd hx hby hml hZ hown hnm X0 e0 N0
 refine GoW.sg (mkF m 1 (Sh1 a1c 0 3) [(.int 3)]) (fun t k => XS.iloadN X0.here hx rfl (hb hby d10_0) rfl k) ?_
 obtain ⟨T603, h603, k603, X603, e603, E603, A603, st603⟩ := newP X0 hx hZ (ww hw 26 rfl) e0 (g := (mkF m 1 (Sh1 a1c 0 3) [(.int 3)])) rfl (hb hby d10_1) rfl (by decide) (cap := 3) (by decide) (by decide) (by decide) (by decide)
 obtain ⟨b603, g603⟩ : ∃ z, z = h0.size := ⟨_, rfl⟩
 rw [← g603] at A603 st603
 have g_b603 : n0 ≤ b603 := Nat.le_trans Z0 (Nat.le_of_eq g603.symm)
 have sz_b603 : h0.size ≤ b603 := Nat.le_trans (Keep.refl h0 []).1 (Nat.le_of_eq g603.symm)
 have ne_a1c_b603 : a1c ≠ b603 := Nat.ne_of_lt (Nat.lt_of_lt_of_eq P0.lt g603.symm)
 have f603_1 := P0.ext E603
 have f603_2 := P1.ext E603
 have f603_3 := P2.ext E603
 have f603_4 := P3.ext E603
 have f603_5 := (Keep.refl h0 []).ext E603
 have f603_6 := Nat.le_trans Z0 E603.1
 have V603 : Arv Z h603 b603 k603 .byte (3 : Int32) [(.int (0 : Int32)), (.int (0 : Int32)), (.int (0 : Int32))] (.int (0 : Int32)) := (Arv.new A603 (by decide)).pad (pad_rep [] (.int (0 : Int32)) 3)
 refine GoW.sg (mkF m 3 (Sh1 a1c 0 3) [(.ref b603)]) (fun t k => st603 t k) ?_
 refine GoW.sg (mkF m 9 (Sh2 a1c 0 3 b603) [(.int 3), (.int 0), (.ref b603), (.int 0), (.ref a1c)]) (fun t k => XS.astoreN X603.here hx rfl (hb hby d10_3) rfl rfl (l' := (Sh2 a1c 0 3 b603)) rfl (XS.aloadN X603.here hx rfl (hb hby d10_4) rfl rfl (XS.iloadN X603.here hx rfl (hb hby d10_5) rfl (XS.aloadN X603.here hx rfl (hb hby d10_6) rfl rfl (XS.iconst X603.here hx rfl (hb hby d10_7) (XS.iloadN X603.here hx rfl (hb hby d10_8) rfl k)))))) ?_
 obtain ⟨_, T607, L607, X607, hQ607, st607⟩ := own_callS X603 hx hZ hown (y := Y11) (ww hw 52 rfl) (ww hw 53 rfl) (ww hw 50 rfl) (ww hw 54 rfl) (by decide) 0 (rm11_54 l Z a0 hw a1c b603 k603 ka1c x1c x2c x3c h603 n0  V603 f603_1 g_b603 ne_a1c_b603 u2 u3  ) (by decide) (by decide) e603 (by decide) (by decide) (g := (mkF m 9 (Sh2 a1c 0 3 b603) [(.int 3), (.int 0), (.ref b603), (.int 0), (.ref a1c)])) rfl (by rw [hml]; rfl) (argsL := [(.ref a1c), (.int (0 : Int32)), (.ref b603), (.int (0 : Int32)), (.int (3 : Int32))]) (rest := []) (lenOf pd_285bCI5bBII29I rfl) rfl (by show 2 * 0 + _ ≤ _; exact Nat.le_of_eq rfl) (hb hby d10_9)
 obtain ⟨rfl, N607q, K607, p607_0⟩ := hQ607
 have N607 := Fr.app N0 N607q
 have f607_7 := f603_1.keep K607 (ninS ne_a1c_b603 nin0)
 have f607_8 := own_staK f603_2 K607 (allS (own_nsA V603) all0)
 have f607_9 := own_staK f603_3 K607 (allS (own_nsA V603) all0)
 have f607_10 := own_staK f603_4 K607 (allS (own_nsA V603) all0)
 have f607_11 := f603_5.trans K607 (allS (Or.inr sz_b603) all0)
 have f607_12 := Nat.le_trans f603_6 K607.1
 refine GoW.sg (mkF m 12 (Sh2 a1c 0 3 b603) [(.int 1)]) (fun t k => st607 t k) ?_
 refine GoW.sg (mkF m 23 (Sh6 a1c 0 3 b603 1) [(.int 3), (.int 0), (.ref a1c)]) (fun t k => XS.istore X607.here hx rfl (hb hby d10_12) rfl (l' := (Sh6 a1c 0 3 b603 1)) rfl (XS.iload X607.here hx rfl (hb hby d10_14) rfl (XS.iloadN X607.here hx rfl (hb hby d10_16) rfl (XS.icmpNo X607.here hx rfl (hb hby d10_17) rfl (by decide) (XS.aloadN X607.here hx rfl (hb hby d10_20) rfl rfl (XS.iloadN X607.here hx rfl (hb hby d10_21) rfl (XS.iloadN X607.here hx rfl (hb hby d10_22) rfl k))))))) ?_
 obtain ⟨_, T625, L625, X625, hQ625, st625⟩ := own_callS X607 hx hZ hown (y := Y13) (ww hw 58 rfl) (ww hw 59 rfl) (ww hw 50 rfl) (ww hw 60 rfl) (by decide) 0 (rm13_48 l Z a0 hw a1c ka1c x1c x2c x3c T607.heap n0 f607_12 f607_7 f607_8 f607_9 f607_10     ) (by decide) (by decide) rfl (by decide) (by decide) (g := (mkF m 23 (Sh6 a1c 0 3 b603 1) [(.int 3), (.int 0), (.ref a1c)])) rfl (by rw [hml]; rfl) (argsL := [(.ref a1c), (.int (0 : Int32)), (.int (3 : Int32))]) (rest := []) (lenOf pd_285bCII295bB rfl) rfl (by show 2 * 0 + _ ≤ _; exact Nat.le_of_eq rfl) (hb hby d10_23)
 obtain ⟨b625_e0, k625_ke0, rfl, N625q, K625, p625_0, hz_b625_e0⟩ := hQ625
 have sz_b625_e0 : h0.size ≤ b625_e0 := Nat.le_trans f607_11.1 hz_b625_e0
 have N625 := Fr.app N607 N625q
 have f625_14 := own_staK0 f607_8 K625
 have f625_15 := own_staK0 f607_9 K625
 have f625_16 := own_staK0 f607_10 K625
 have f625_17 := f607_11.trans K625 all0
 refine GoW.sg (mkF m 26 (Sh6 a1c 0 3 b603 1) [(.ref b625_e0)]) (fun t k => st625 t k) ?_
 refine GoW.sg (mkF m 32 (Sh11 a1c 0 3 b603 1 b625_e0) [(.int 1), (.ref b625_e0)]) (fun t k => XS.astore X625.here hx rfl (hb hby d10_26) rfl rfl (l' := (Sh11 a1c 0 3 b603 1 b625_e0)) rfl (XS.aload X625.here hx rfl (hb hby d10_28) rfl rfl (XS.iload X625.here hx rfl (hb hby d10_30) rfl k))) ?_
 obtain ⟨_, T631, L631, X631, hQ631, st631⟩ := own_callS X625 hx hZ hown (y := Y17) (ww hw 74 rfl) (ww hw 75 rfl) (ww hw 50 rfl) (ww hw 76 rfl) (by decide) 0 (rm17_55 l Z a0 hw b625_e0 k625_ke0 (lo8 x1c) (hi8 x1c) (lo8 x2c) (hi8 x2c) (lo8 x3c) (hi8 x3c) T625.heap n0  p625_0 f625_14 f625_15 f625_16     ) (by decide) (by decide) rfl (by decide) (by decide) (g := (mkF m 32 (Sh11 a1c 0 3 b603 1 b625_e0) [(.int 1), (.ref b625_e0)])) rfl (by rw [hml]; rfl) (argsL := [(.ref b625_e0), (.int (1 : Int32))]) (rest := []) (lenOf pd_285bBI29C rfl) rfl (by show 2 * 0 + _ ≤ _; exact Nat.le_of_eq rfl) (hb hby d10_32)
 obtain ⟨rfl, N631q, e631⟩ := hQ631
 have N631 := Fr.app N625 N631q
 refine GoW.sg (mkF m 35 (Sh11 a1c 0 3 b603 1 b625_e0) [(.int (nar .char ((((lo8 x2c) &&& (255 : Int32)) <<< ((0 : Int32) &&& 31)) ||| (((hi8 x2c) &&& (255 : Int32)) <<< ((8 : Int32) &&& 31))).toUInt32.toUInt16.toUInt32.toInt32))]) (fun t k => st631 t k) ?_
 rw [show (nar .char ((((lo8 x2c) &&& (255 : Int32)) <<< ((0 : Int32) &&& 31)) ||| (((hi8 x2c) &&& (255 : Int32)) <<< ((8 : Int32) &&& 31))).toUInt32.toUInt16.toUInt32.toInt32) = x2c from (own_join _ u0 u1)]
 refine GoW.sg (mkF m 56 (Sh11 a1c 0 3 b603 1 b625_e0) [(.ref b625_e0)]) (fun t k => XS.sipush X631.here hx rfl (hb hby d10_35) (XS.icmpYes X631.here hx rfl (pc0 := 38) (pc' := 54) rfl (hb hby d10_38) rfl (tlt u3).2.2.1 (by decide) (by decide) (XS.aload X631.here hx rfl (hb hby d10_54) rfl rfl k))) ?_
 refine GoW.retA X631 hx Bd.returns rfl rfl rfl (hb hby d10_56) Bd.notSynchronized ?_ (by decide) (by decide)
 rw [e631]
 exact ⟨b625_e0, k625_ke0, rfl, N631, f625_17, p625_0, sz_b625_e0⟩
def Q5_57 (Z : State) (a1c : Addr) (a2c : Addr) (ka2c : ClassId) (x1c : Int32) (x2c : Int32) (x3c : Int32) (x4c : Int32) (h0 : Heap) (n0 : Nat) (v : Option Value) (h : Heap) (L : List Loc) : Prop := ∃ e0 : Addr, ∃ ke0 : ClassId, v = none ∧ Fr n0 L ∧ (Keep h0 h [a1c]) ∧ (Exa Z h a1c "java/lang/String") ∧ (Fld Z h a1c "java/lang/String" "coder" "B" (.int 1)) ∧ (Fld Z h a1c "java/lang/String" "value" "[B" (.ref e0)) ∧ (Arv Z h e0 ke0 .byte (6 : Int32) [(.int (lo8 x1c)), (.int (hi8 x1c)), (.int (lo8 x2c)), (.int (hi8 x2c)), (.int (lo8 x3c)), (.int (hi8 x3c))] (.int 0)) ∧ (h0.size ≤ e0)
theorem rm5_57 (l : Launch) (Z : State) (a0 : Array Value) (hw : HW a0 Z) (a1c : Addr) (a2c : Addr) (ka2c : ClassId) (x1c : Int32) (x2c : Int32) (x3c : Int32) (x4c : Int32) (h0 : Heap) (n0 : Nat) (Z0 : n0 ≤ h0.size) (P0 : Exa Z h0 a1c "java/lang/String") (P1 : Fld Z h0 a1c "java/lang/String" "coder" "B" (.int 0)) (P2 : Fld Z h0 a1c "java/lang/String" "value" "[B" .null) (P3 : Arv Z h0 a2c ka2c .char (3 : Int32) [(.int x1c), (.int x2c), (.int x3c)] (.int 0)) (P4 : Sta Z h0 "java/lang/String" "COMPACT_STRINGS" "Z" (.int x4c)) (P5 : Sta Z h0 "java/lang/StringUTF16" "$assertionsDisabled" "Z" (.int 1)) (P6 : Sta Z h0 "java/lang/StringUTF16" "HI_BYTE_SHIFT" "I" (.int 0)) (P7 : Sta Z h0 "java/lang/StringUTF16" "LO_BYTE_SHIFT" "I" (.int 8)) (g_a1c : n0 ≤ a1c) (u0 : ¬ (x2c < (0 : Int32))) (u1 : ¬ ((65535 : Int32) < x2c)) (u2 : ¬ (x4c = (0 : Int32))) (u3 : ¬ ((255 : Int32) < x1c)) (u4 : (255 : Int32) < x2c) :
  MM l Z Y5 jdk_42_method_149_code 6 none 4 2 9 57 #[(.ref a1c), (.ref a2c), (.int 0), (.int 3), .null] h0 (Q5_57 Z a1c a2c ka2c x1c x2c x3c x4c h0 n0) := by
 refine own_start (fun m => (mkF m 0 (Sh0 a1c a2c 0 3) [])) (plainFor_of_name pn_java_lang_String) (by simp [entryFrame, mkF, argsToLocals, Value.category]) n0 ?_
 intro p e s m below meth c s₁ Bd hx hby hml hZ hown hnm X0 e0 N0
 refine GoW.sg (mkF m 1 (Sh0 a1c a2c 0 3) [(.ref a1c)]) (fun t k => XS.aloadN X0.here hx rfl (hb hby d5_0) rfl rfl k) ?_
 obtain ⟨T636, X636, e636, st636⟩ := initO X0 hx hZ hown (ww hw 22 rfl) (ww hw 23 rfl) (ww hw 24 rfl) e0 (g := (mkF m 1 (Sh0 a1c a2c 0 3) [(.ref a1c)])) rfl (by rw [hml]; rfl) rfl (hb hby d5_1) (by decide) (W := 0) (by show 2 * 0 + _ ≤ _; exact Nat.le_of_eq rfl) (by decide)
 refine GoW.sg (mkF m 4 (Sh0 a1c a2c 0 3) []) (fun t k => st636 t k) ?_
 refine GoW.sg (mkF m 27 (Sh0 a1c a2c 0 3) []) (fun t k => XS.iloadN X636.here hx rfl (hb hby d5_4) rfl (XS.ifYes X636.here hx rfl (pc0 := 5) (pc' := 27) rfl (hb hby d5_5) rfl (by decide) (by decide) (by decide) k)) ?_
 obtain ⟨T637, X637, e637, st637⟩ := getS (host := "") X636 hx hZ hown (ww hw 47 rfl) Via.refl e636 P4 (g := (mkF m 27 (Sh0 a1c a2c 0 3) [])) rfl (hb hby d5_27)
 refine GoW.sg (mkF m 30 (Sh0 a1c a2c 0 3) [(.int x4c)]) (fun t k => st637 t k) ?_
 refine GoW.sg (mkF m 36 (Sh0 a1c a2c 0 3) [(.int 3), (.int 0), (.ref a2c)]) (fun t k => XS.ifNo X637.here hx rfl (hb hby d5_30) rfl ((if0 _ _).trans (feq u2).1) (XS.aloadN X637.here hx rfl (hb hby d5_33) rfl rfl (XS.iloadN X637.here hx rfl (hb hby d5_34) rfl (XS.iloadN X637.here hx rfl (hb hby d5_35) rfl k)))) ?_
 obtain ⟨_, T657, L657, X657, hQ657, st657⟩ := own_callS X637 hx hZ hown (y := Y10) (ww hw 48 rfl) (ww hw 49 rfl) (ww hw 50 rfl) (ww hw 51 rfl) (by decide) 0 (rm10_56 l Z a0 hw a2c ka2c x1c x2c x3c h0 n0 Z0 P3 P5 P6 P7   u0 u1 u3 u4  ) (by decide) (by decide) e637 (by decide) (by decide) (g := (mkF m 36 (Sh0 a1c a2c 0 3) [(.int 3), (.int 0), (.ref a2c)])) rfl (by rw [hml]; rfl) (argsL := [(.ref a2c), (.int (0 : Int32)), (.int (3 : Int32))]) (rest := []) (lenOf pd_285bCII295bB rfl) rfl (by show 2 * 0 + _ ≤ _; exact Nat.le_of_eq rfl) (hb hby d5_36)
 obtain ⟨b657_e0, k657_ke0, rfl, N657q, K657, p657_0, hz_b657_e0⟩ := hQ657
 have sz_b657_e0 : h0.size ≤ b657_e0 := Nat.le_trans (Keep.refl h0 [a1c]).1 hz_b657_e0
 have ne_a1c_b657_e0 : a1c ≠ b657_e0 := Nat.ne_of_lt (Nat.lt_of_lt_of_le P0.lt hz_b657_e0)
 have N657 := Fr.app N0 N657q
 have f657_1 := P0.keep K657
 have f657_2 := P1.keep K657 nin0
 have f657_3 := P2.keep K657 nin0
 have f657_9 := (Keep.refl h0 [a1c]).trans K657 all0
 refine GoW.sg (mkF m 39 (Sh0 a1c a2c 0 3) [(.ref b657_e0)]) (fun t k => st657 t k) ?_
 refine GoW.sg (mkF m 45 (Sh12 a1c a2c 0 3 b657_e0) [(.int 3), (.ref b657_e0), (.ref a1c)]) (fun t k => XS.astore X657.here hx rfl (hb hby d5_39) rfl rfl (l' := (Sh12 a1c a2c 0 3 b657_e0)) rfl (XS.aloadN X657.here hx rfl (hb hby d5_41) rfl rfl (XS.aload X657.here hx rfl (hb hby d5_42) rfl rfl (XS.iloadN X657.here hx rfl (hb hby d5_44) rfl k)))) ?_
 obtain ⟨_, T658, L658, X658, hQ658, st658⟩ := own_callS X657 hx hZ hown (y := Y12) (ww hw 55 rfl) (ww hw 56 rfl) (ww hw 50 rfl) (ww hw 57 rfl) (by decide) 1 (rm12_51 l Z a0 hw b657_e0 k657_ke0 (lo8 x1c) (hi8 x1c) (lo8 x2c) (hi8 x2c) (lo8 x3c) (hi8 x3c) T657.heap n0  p657_0     ) (by decide) (by decide) rfl (by decide) (by decide) (g := (mkF m 45 (Sh12 a1c a2c 0 3 b657_e0) [(.int 3), (.ref b657_e0), (.ref a1c)])) rfl (by rw [hml]; rfl) (argsL := [(.ref b657_e0), (.int (3 : Int32))]) (rest := [(.ref a1c)]) (lenOf pd_285bBI29B rfl) rfl (by show 2 * 0 + _ ≤ _; exact Nat.le_of_eq rfl) (hb hby d5_45)
 obtain ⟨rfl, N658q, e658⟩ := hQ658
 have N658 := Fr.app N657 N658q
 refine GoW.sg (mkF m 48 (Sh12 a1c a2c 0 3 b657_e0) [(.int 1), (.ref a1c)]) (fun t k => st658 t k) ?_
 obtain ⟨T659, h659, X659, e659, W659, st659⟩ := putF X658 hx hZ hown (host := "") (Or.inl (ww hw 32 rfl)) Via.refl e658 f657_2 f657_1 (Or.inr ⟨(ww hw 28 rfl), rfl, hnm⟩) (ww hw 12 rfl) (ty := .byte) (by decide) rfl rfl (g := (mkF m 48 (Sh12 a1c a2c 0 3 b657_e0) [(.int 1), (.ref a1c)])) rfl rfl (hb hby d5_48)
 have N659 := Fr.snoc X659 N658 g_a1c
 have f659_11 := f657_1.wr W659
 have f659_12 := f657_3.other W659 (Or.inr (slot_ne (t := (.array .byte)) (t' := .byte) (Or.inr (ww hw 27 rfl)) (Or.inr (ww hw 28 rfl)) (by decide) (by decide) (by decide)))
 have f659_17 := f657_9.wr W659 (Or.inl (List.mem_of_getElem? (i := 0) rfl))
 have f659_19 := p657_0.other W659 (Ne.symm ne_a1c_b657_e0)
 have F659coder : Fld Z h659 a1c "java/lang/String" "coder" "B" (.int (1 : Int32)) := f657_2.same W659
 refine GoW.sg (mkF m 51 (Sh12 a1c a2c 0 3 b657_e0) []) (fun t k => st659 t k) ?_
 refine GoW.sg (mkF m 54 (Sh12 a1c a2c 0 3 b657_e0) [(.ref b657_e0), (.ref a1c)]) (fun t k => XS.aloadN X659.here hx rfl (hb hby d5_51) rfl rfl (XS.aload X659.here hx rfl (hb hby d5_52) rfl rfl k)) ?_
 obtain ⟨T660, h660, X660, e660, W660, st660⟩ := putF X659 hx hZ hown (host := "") (Or.inl (ww hw 31 rfl)) Via.refl e659 f659_12 f659_11 (Or.inr ⟨(ww hw 27 rfl), rfl, hnm⟩) (ww hw 12 rfl) (ty := (.array .byte)) (by decide) rfl rfl (g := (mkF m 54 (Sh12 a1c a2c 0 3 b657_e0) [(.ref b657_e0), (.ref a1c)])) rfl rfl (hb hby d5_54)
 have N660 := Fr.snoc X660 N659 g_a1c
 have f660_20 := f659_11.wr W660
 have f660_21 := F659coder.other W660 (Or.inr (slot_ne (t := .byte) (t' := (.array .byte)) (Or.inr (ww hw 28 rfl)) (Or.inr (ww hw 27 rfl)) (by decide) (by decide) (by decide)))
 have f660_26 := f659_17.wr W660 (Or.inl (List.mem_of_getElem? (i := 0) rfl))
 have f660_28 := f659_19.other W660 (Ne.symm ne_a1c_b657_e0)
 have F660value : Fld Z h660 a1c "java/lang/String" "value" "[B" (.ref b657_e0) := f659_12.same W660
 refine GoW.sg (mkF m 57 (Sh12 a1c a2c 0 3 b657_e0) []) (fun t k => st660 t k) ?_
 refine GoW.retV X660 hx Bd.returns (hb hby d5_57) Bd.notSynchronized ?_ (by decide) (by decide)
 rw [e660]
 exact ⟨b657_e0, k657_ke0, rfl, N660, f660_26, f660_20, f660_21, F660value, f660_28, sz_b657_e0⟩
def Q11_59 (Z : State) (a1c : Addr) (a2c : Addr) (ka2c : ClassId) (ka1c : ClassId) (x1c : Int32) (x2c : Int32) (x3c : Int32) (h0 : Heap) (n0 : Nat) (v : Option Value) (h : Heap) (L : List Loc) : Prop := v = some (.int 2) ∧ Fr n0 L ∧ (Keep h0 h [a2c]) ∧ (Arv Z h a2c ka2c .byte (3 : Int32) [(.int (lat8 x1c)), (.int (lat8 x2c)), (.int 0)] (.int 0))
theorem rm11_59 (l : Launch) (Z : State) (a0 : Array Value) (hw : HW a0 Z) (a1c : Addr) (a2c : Addr) (ka2c : ClassId) (ka1c : ClassId) (x1c : Int32) (x2c : Int32) (x3c : Int32) (h0 : Heap) (n0 : Nat) (P0 : Arv Z h0 a2c ka2c .byte (3 : Int32) [(.int 0), (.int 0), (.int 0)] (.int 0)) (P1 : Arv Z h0 a1c ka1c .char (3 : Int32) [(.int x1c), (.int x2c), (.int x3c)] (.int 0)) (g_a2c : n0 ≤ a2c) (ne_a1c_a2c : a1c ≠ a2c) (u0 : ¬ ((255 : Int32) < x1c)) (u1 : ¬ ((255 : Int32) < x2c)) (u2 : (255 : Int32) < x3c) :
  MM l Z Y11 jdk_52_method_21_code 7 (some .int) 0 0 0 0 #[(.ref a1c), (.int 0), (.ref a2c), (.int 0), (.int 3)] h0 (Q11_59 Z a1c a2c ka2c ka1c x1c x2c x3c h0 n0) := by
 refine own_start (fun m => (mkF m 0 (Sh3 a1c 0 a2c 0 3) [])) (plainFor_of_name pn_java_lang_StringUTF16) (by simp [entryFrame, mkF, argsToLocals, Value.category]) n0 ?_
 intro p e s m below meth c s₁ Bd hx hby hml hZ hown hnm X0 e0 N0
 refine GoW.sg (mkF m 12 (Sh4 a1c 0 a2c 0 3 0) [(.int 0), (.ref a1c)]) (fun t k => XS.iconst X0.here hx rfl (hb hby d11_0) (XS.istore X0.here hx rfl (hb hby d11_1) rfl (l' := (Sh4 a1c 0 a2c 0 3 0)) rfl (XS.iload X0.here hx rfl (hb hby d11_3) rfl (XS.iload X0.here hx rfl (hb hby d11_5) rfl (XS.icmpNo X0.here hx rfl (hb hby d11_7) rfl (by decide) (XS.aloadN X0.here hx rfl (hb hby d11_10) rfl rfl (XS.iloadN X0.here hx rfl (hb hby d11_11) rfl k))))))) ?_
 obtain ⟨cl679, Ar679, q679, Sz679, Nn679, Hh679, Gg679⟩ := id P1
 have hin679 : ¬ ((0 : Int32) < 0 ∨ cl679.slots.size ≤ ((0 : Int32)).toNatClampNeg) := inb_of Sz679 ⟨by decide, by decide⟩
 refine GoW.sg (mkF m 13 (Sh4 a1c 0 a2c 0 3 0) [(.int x1c)]) (fun t k => X0.caload hx (j := (0 : Int32)) (v := (.int x1c)) (hq_ e0 Ar679.1) (State.isArrayOf_alike hZ.alike Ar679.2.1) Ar679.2.2 hin679 (Hh679.at hin679 rfl) (g := (mkF m 12 (Sh4 a1c 0 a2c 0 3 0) [(.int 0), (.ref a1c)])) rfl rfl (hb hby d11_12) t k) ?_
 refine GoW.sg (mkF m 31 (Sh5 a1c 0 a2c 0 3 0 x1c) [(.int x1c.toInt8.toInt32), (.int 0), (.ref a2c)]) (fun t k => XS.istore X0.here hx rfl (hb hby d11_13) rfl (l' := (Sh5 a1c 0 a2c 0 3 0 x1c)) rfl (XS.iload X0.here hx rfl (hb hby d11_15) rfl (XS.sipush X0.here hx rfl (hb hby d11_17) (XS.icmpYes X0.here hx rfl (pc0 := 20) (pc' := 26) rfl (hb hby d11_20) rfl (flt u0).2.2.2 (by decide) (by decide) (XS.aloadN X0.here hx rfl (hb hby d11_26) rfl rfl (XS.iloadN X0.here hx rfl (hb hby d11_27) rfl (XS.iload X0.here hx rfl (hb hby d11_28) rfl (XS.i2b X0.here hx rfl (hb hby d11_30) rfl k)))))))) ?_
 obtain ⟨cl680, Ar680, q680, Sz680, Nn680, Hh680, Gg680⟩ := P0
 have hin680 : ¬ ((0 : Int32) < 0 ∨ cl680.slots.size ≤ ((0 : Int32)).toNatClampNeg) := inb_of Sz680 ⟨by decide, by decide⟩
 obtain ⟨T680, h680, X680, e680, W680, st680⟩ := stB X0 hx hZ e0 Ar680 (j := (0 : Int32)) hin680 (g := (mkF m 31 (Sh5 a1c 0 a2c 0 3 0 x1c) [(.int x1c.toInt8.toInt32), (.int 0), (.ref a2c)])) rfl rfl (hb hby d11_31)
 have f680_1 := P1.other W680 ne_a1c_a2c
 have f680_2 := (Keep.refl h0 [a2c]).wr W680 (Or.inl (List.mem_of_getElem? (i := 0) rfl))
 have V680 : Arv Z h680 a2c ka2c .byte (3 : Int32) [(.int (lat8 x1c)), (.int (0 : Int32)), (.int (0 : Int32))] (.int (0 : Int32)) := Arv.set Ar680 q680 Sz680 Nn680 Hh680 Gg680 (fits_nar_byte _) W680 0 rfl (Nat.le_of_ble_eq_true rfl)
 have N680 := Fr.snoc X680 N0 g_a2c
 refine GoW.sg (mkF m 32 (Sh5 a1c 0 a2c 0 3 0 x1c) []) (fun t k => st680 t k) ?_
 refine GoW.sg (mkF m 11 (Sh5 a1c 1 a2c 1 3 1 x1c) [(.ref a1c)]) (fun t k => XS.iinc X680.here hx rfl (hb hby d11_32) rfl (l' := (Sh5 a1c 1 a2c 0 3 0 x1c)) rfl (XS.iinc X680.here hx rfl (hb hby d11_35) rfl (l' := (Sh5 a1c 1 a2c 1 3 0 x1c)) rfl (XS.iinc X680.here hx rfl (hb hby d11_38) rfl (l' := (Sh5 a1c 1 a2c 1 3 1 x1c)) rfl (XS.goto X680.here hx rfl (pc0 := 41) (pc' := 3) rfl (hb hby d11_41) (by decide) (by decide) (XS.iload X680.here hx rfl (hb hby d11_3) rfl (XS.iload X680.here hx rfl (hb hby d11_5) rfl (XS.icmpNo X680.here hx rfl (hb hby d11_7) rfl (by decide) (XS.aloadN X680.here hx rfl (hb hby d11_10) rfl rfl k)))))))) ?_
 refine GoW.sg (mkF m 12 (Sh5 a1c 1 a2c 1 3 1 x1c) [(.int 1), (.ref a1c)]) (fun t k => XS.iloadN X680.here hx rfl (hb hby d11_11) rfl k) ?_
 obtain ⟨cl681, Ar681, q681, Sz681, Nn681, Hh681, Gg681⟩ := id f680_1
 have hin681 : ¬ ((1 : Int32) < 0 ∨ cl681.slots.size ≤ ((1 : Int32)).toNatClampNeg) := inb_of Sz681 ⟨by decide, by decide⟩
 refine GoW.sg (mkF m 13 (Sh5 a1c 1 a2c 1 3 1 x1c) [(.int x2c)]) (fun t k => X680.caload hx (j := (1 : Int32)) (v := (.int x2c)) (hq_ e680 Ar681.1) (State.isArrayOf_alike hZ.alike Ar681.2.1) Ar681.2.2 hin681 (Hh681.at hin681 rfl) (g := (mkF m 12 (Sh5 a1c 1 a2c 1 3 1 x1c) [(.int 1), (.ref a1c)])) rfl rfl (hb hby d11_12) t k) ?_
 refine GoW.sg (mkF m 31 (Sh5 a1c 1 a2c 1 3 1 x2c) [(.int x2c.toInt8.toInt32), (.int 1), (.ref a2c)]) (fun t k => XS.istore X680.here hx rfl (hb hby d11_13) rfl (l' := (Sh5 a1c 1 a2c 1 3 1 x2c)) rfl (XS.iload X680.here hx rfl (hb hby d11_15) rfl (XS.sipush X680.here hx rfl (hb hby d11_17) (XS.icmpYes X680.here hx rfl (pc0 := 20) (pc' := 26) rfl (hb hby d11_20) rfl (flt u1).2.2.2 (by decide) (by decide) (XS.aloadN X680.here hx rfl (hb hby d11_26) rfl rfl (XS.iloadN X680.here hx rfl (hb hby d11_27) rfl (XS.iload X680.here hx rfl (hb hby d11_28) rfl (XS.i2b X680.here hx rfl (hb hby d11_30) rfl k)))))))) ?_
 obtain ⟨cl682, Ar682, q682, Sz682, Nn682, Hh682, Gg682⟩ := V680
 have hin682 : ¬ ((1 : Int32) < 0 ∨ cl682.slots.size ≤ ((1 : Int32)).toNatClampNeg) := inb_of Sz682 ⟨by decide, by decide⟩
 obtain ⟨T682, h682, X682, e682, W682, st682⟩ := stB X680 hx hZ e680 Ar682 (j := (1 : Int32)) hin682 (g := (mkF m 31 (Sh5 a1c 1 a2c 1 3 1 x2c) [(.int x2c.toInt8.toInt32), (.int 1), (.ref a2c)])) rfl rfl (hb hby d11_31)
 have f682_3 := f680_1.other W682 ne_a1c_a2c
 have f682_4 := f680_2.wr W682 (Or.inl (List.mem_of_getElem? (i := 0) rfl))
 have V682 : Arv Z h682 a2c ka2c .byte (3 : Int32) [(.int (lat8 x1c)), (.int (lat8 x2c)), (.int (0 : Int32))] (.int (0 : Int32)) := Arv.set Ar682 q682 Sz682 Nn682 Hh682 Gg682 (fits_nar_byte _) W682 1 rfl (Nat.le_of_ble_eq_true rfl)
 have N682 := Fr.snoc X682 N680 g_a2c
 refine GoW.sg (mkF m 32 (Sh5 a1c 1 a2c 1 3 1 x2c) []) (fun t k => st682 t k) ?_
 refine GoW.sg (mkF m 11 (Sh5 a1c 2 a2c 2 3 2 x2c) [(.ref a1c)]) (fun t k => XS.iinc X682.here hx rfl (hb hby d11_32) rfl (l' := (Sh5 a1c 2 a2c 1 3 1 x2c)) rfl (XS.iinc X682.here hx rfl (hb hby d11_35) rfl (l' := (Sh5 a1c 2 a2c 2 3 1 x2c)) rfl (XS.iinc X682.here hx rfl (hb hby d11_38) rfl (l' := (Sh5 a1c 2 a2c 2 3 2 x2c)) rfl (XS.goto X682.here hx rfl (pc0 := 41) (pc' := 3) rfl (hb hby d11_41) (by decide) (by decide) (XS.iload X682.here hx rfl (hb hby d11_3) rfl (XS.iload X682.here hx rfl (hb hby d11_5) rfl (XS.icmpNo X682.here hx rfl (hb hby d11_7) rfl (by decide) (XS.aloadN X682.here hx rfl (hb hby d11_10) rfl rfl k)))))))) ?_
 refine GoW.sg (mkF m 12 (Sh5 a1c 2 a2c 2 3 2 x2c) [(.int 2), (.ref a1c)]) (fun t k => XS.iloadN X682.here hx rfl (hb hby d11_11) rfl k) ?_
 obtain ⟨cl683, Ar683, q683, Sz683, Nn683, Hh683, Gg683⟩ := id f682_3
 have hin683 : ¬ ((2 : Int32) < 0 ∨ cl683.slots.size ≤ ((2 : Int32)).toNatClampNeg) := inb_of Sz683 ⟨by decide, by decide⟩
 refine GoW.sg (mkF m 13 (Sh5 a1c 2 a2c 2 3 2 x2c) [(.int x3c)]) (fun t k => X682.caload hx (j := (2 : Int32)) (v := (.int x3c)) (hq_ e682 Ar683.1) (State.isArrayOf_alike hZ.alike Ar683.2.1) Ar683.2.2 hin683 (Hh683.at hin683 rfl) (g := (mkF m 12 (Sh5 a1c 2 a2c 2 3 2 x2c) [(.int 2), (.ref a1c)])) rfl rfl (hb hby d11_12) t k) ?_
 refine GoW.sg (mkF m 25 (Sh5 a1c 2 a2c 2 3 2 x3c) [(.int 2)]) (fun t k => XS.istore X682.here hx rfl (hb hby d11_13) rfl (l' := (Sh5 a1c 2 a2c 2 3 2 x3c)) rfl (XS.iload X682.here hx rfl (hb hby d11_15) rfl (XS.sipush X682.here hx rfl (hb hby d11_17) (XS.icmpNo X682.here hx rfl (hb hby d11_20) rfl (tlt u2).2.2.2 (XS.iload X682.here hx rfl (hb hby d11_23) rfl k))))) ?_
 refine GoW.retI X682 hx Bd.returns (hb hby d11_25) Bd.notSynchronized ?_ (by decide) (by decide)
 rw [e682]
 exact ⟨rfl, N682, f682_4, V682⟩
def Q17_60 (Z : State) (a1c : Addr) (ka1c : ClassId) (x1c : Int32) (x2c : Int32) (x3c : Int32) (x4c : Int32) (x5c : Int32) (x6c : Int32) (h0 : Heap) (n0 : Nat) (v : Option Value) (h : Heap) (L : List Loc) : Prop := v = some (.int (nar .char (((x5c &&& (255 : Int32)) <<< ((0 : Int32) &&& 31)) ||| ((x6c &&& (255 : Int32)) <<< ((8 : Int32) &&& 31))).toUInt32.toUInt16.toUInt32.toInt32)) ∧ Fr n0 L ∧ (h = h0)
theorem rm17_60 (l : Launch) (Z : State) (a0 : Array Value) (hw : HW a0 Z) (a1c : Addr) (ka1c : ClassId) (x1c : Int32) (x2c : Int32) (x3c : Int32) (x4c : Int32) (x5c : Int32) (x6c : Int32) (h0 : Heap) (n0 : Nat) (P0 : Arv Z h0 a1c ka1c .byte (6 : Int32) [(.int x1c), (.int x2c), (.int x3c), (.int x4c), (.int x5c), (.int x6c)] (.int 0)) (P1 : Sta Z h0 "java/lang/StringUTF16" "$assertionsDisabled" "Z" (.int 1)) (P2 : Sta Z h0 "java/lang/StringUTF16" "HI_BYTE_SHIFT" "I" (.int 0)) (P3 : Sta Z h0 "java/lang/StringUTF16" "LO_BYTE_SHIFT" "I" (.int 8)) :
  MM l Z Y17 jdk_52_method_5_code 2 (some .char) 0 0 0 0 #[(.ref a1c), (.int 2)] h0 (Q17_60 Z a1c ka1c x1c x2c x3c x4c x5c x6c h0 n0) := by
 refine own_start (fun m => (mkF m 0 #[.val (.ref a1c), .val (.int 2)] [])) (plainFor_of_name pn_java_lang_StringUTF16) (by simp [entryFrame, mkF, argsToLocals, Value.category]) n0 ?_
 intro p e s m below meth c s₁ Bd hx hby hml hZ hown hnm X0 e0 N0
 obtain ⟨T708, X708, e708, st708⟩ := getS (host := "") X0 hx hZ hown (ww hw 71 rfl) Via.refl e0 P1 (g := (mkF m 0 #[.val (.ref a1c), .val (.int 2)] [])) rfl (hb hby d17_0)
 refine GoW.sg (mkF m 3 #[.val (.ref a1c), .val (.int 2)] [(.int 1)]) (fun t k => st708 t k) ?_
 refine GoW.sg (mkF m 30 #[.val (.ref a1c), .val (.int 2)] [(.int 1), (.int 2)]) (fun t k => XS.ifYes X708.here hx rfl (pc0 := 3) (pc' := 28) rfl (hb hby d17_3) rfl (by decide) (by decide) (by decide) (XS.iloadN X708.here hx rfl (hb hby d17_28) rfl (XS.iconst X708.here hx rfl (hb hby d17_29) k))) ?_
 refine GoW.st (fun t k => XS.ishl X708.here hx rfl (hb hby d17_30) rfl k) ?_
 rw [show ((2 : Int32) <<< ((1 : Int32) &&& 31)) = (4 : Int32) from by decide]
 show GoW p e below s (Q17_60 Z a1c ka1c x1c x2c x3c x4c x5c x6c h0 n0) 0 0 (T708.setTop (mkF m 31 #[.val (.ref a1c), .val (.int 2)] [(.int 4)]))
 refine GoW.sg (mkF m 37 #[.val (.ref a1c), .val (.int 5)] [(.int 4), (.ref a1c)]) (fun t k => XS.istoreN X708.here hx rfl (hb hby d17_31) rfl (l' := #[.val (.ref a1c), .val (.int 4)]) rfl (XS.aloadN X708.here hx rfl (hb hby d17_32) rfl rfl (XS.iloadN X708.here hx rfl (hb hby d17_33) rfl (XS.iinc X708.here hx rfl (hb hby d17_34) rfl (l' := #[.val (.ref a1c), .val (.int 5)]) rfl k)))) ?_
 obtain ⟨cl709, Ar709, q709, Sz709, Nn709, Hh709, Gg709⟩ := id P0
 have hin709 : ¬ ((4 : Int32) < 0 ∨ cl709.slots.size ≤ ((4 : Int32)).toNatClampNeg) := inb_of Sz709 ⟨by decide, by decide⟩
 refine GoW.sg (mkF m 38 #[.val (.ref a1c), .val (.int 5)] [(.int x5c)]) (fun t k => X708.baloadBytes hx (j := (4 : Int32)) (v := (.int x5c)) (hq_ e708 Ar709.1) (State.isArrayOf_alike hZ.alike Ar709.2.1) Ar709.2.2 hin709 (Hh709.at hin709 rfl) (g := (mkF m 37 #[.val (.ref a1c), .val (.int 5)] [(.int 4), (.ref a1c)])) rfl rfl (hb hby d17_37) t k) ?_
 refine GoW.sg (mkF m 42 #[.val (.ref a1c), .val (.int 5)] [(.int (x5c &&& (255 : Int32)))]) (fun t k => XS.sipush X708.here hx rfl (hb hby d17_38) (XS.iand X708.here hx rfl (hb hby d17_41) rfl k)) ?_
 obtain ⟨T710, X710, e710, st710⟩ := getS (host := "") X708 hx hZ hown (ww hw 72 rfl) Via.refl e708 P2 (g := (mkF m 42 #[.val (.ref a1c), .val (.int 5)] [(.int (x5c &&& (255 : Int32)))])) rfl (hb hby d17_42)
 refine GoW.sg (mkF m 45 #[.val (.ref a1c), .val (.int 5)] [(.int 0), (.int (x5c &&& (255 : Int32)))]) (fun t k => st710 t k) ?_
 refine GoW.sg (mkF m 48 #[.val (.ref a1c), .val (.int 5)] [(.int 5), (.ref a1c), (.int ((x5c &&& (255 : Int32)) <<< ((0 : Int32) &&& 31)))]) (fun t k => XS.ishl X710.here hx rfl (hb hby d17_45) rfl (XS.aloadN X710.here hx rfl (hb hby d17_46) rfl rfl (XS.iloadN X710.here hx rfl (hb hby d17_47) rfl k))) ?_
 obtain ⟨cl711, Ar711, q711, Sz711, Nn711, Hh711, Gg711⟩ := id P0
 have hin711 : ¬ ((5 : Int32) < 0 ∨ cl711.slots.size ≤ ((5 : Int32)).toNatClampNeg) := inb_of Sz711 ⟨by decide, by decide⟩
 refine GoW.sg (mkF m 49 #[.val (.ref a1c), .val (.int 5)] [(.int x6c), (.int ((x5c &&& (255 : Int32)) <<< ((0 : Int32) &&& 31)))]) (fun t k => X710.baloadBytes hx (j := (5 : Int32)) (v := (.int x6c)) (hq_ e710 Ar711.1) (State.isArrayOf_alike hZ.alike Ar711.2.1) Ar711.2.2 hin711 (Hh711.at hin711 rfl) (g := (mkF m 48 #[.val (.ref a1c), .val (.int 5)] [(.int 5), (.ref a1c), (.int ((x5c &&& (255 : Int32)) <<< ((0 : Int32) &&& 31)))])) rfl rfl (hb hby d17_48) t k) ?_
 refine GoW.sg (mkF m 53 #[.val (.ref a1c), .val (.int 5)] [(.int (x6c &&& (255 : Int32))), (.int ((x5c &&& (255 : Int32)) <<< ((0 : Int32) &&& 31)))]) (fun t k => XS.sipush X710.here hx rfl (hb hby d17_49) (XS.iand X710.here hx rfl (hb hby d17_52) rfl k)) ?_
 obtain ⟨T712, X712, e712, st712⟩ := getS (host := "") X710 hx hZ hown (ww hw 73 rfl) Via.refl e710 P3 (g := (mkF m 53 #[.val (.ref a1c), .val (.int 5)] [(.int (x6c &&& (255 : Int32))), (.int ((x5c &&& (255 : Int32)) <<< ((0 : Int32) &&& 31)))])) rfl (hb hby d17_53)
 refine GoW.sg (mkF m 56 #[.val (.ref a1c), .val (.int 5)] [(.int 8), (.int (x6c &&& (255 : Int32))), (.int ((x5c &&& (255 : Int32)) <<< ((0 : Int32) &&& 31)))]) (fun t k => st712 t k) ?_
 refine GoW.sg (mkF m 59 #[.val (.ref a1c), .val (.int 5)] [(.int (((x5c &&& (255 : Int32)) <<< ((0 : Int32) &&& 31)) ||| ((x6c &&& (255 : Int32)) <<< ((8 : Int32) &&& 31))).toUInt32.toUInt16.toUInt32.toInt32)]) (fun t k => XS.ishl X712.here hx rfl (hb hby d17_56) rfl (XS.ior X712.here hx rfl (hb hby d17_57) rfl (XS.i2c X712.here hx rfl (hb hby d17_58) rfl k))) ?_
 refine GoW.retN X712 hx (t := .char) Bd.returns (by simp) (hb hby d17_59) Bd.notSynchronized ?_ (by decide) (by decide)
 rw [e712]
 exact ⟨rfl, N0, rfl⟩
def Q10_61 (Z : State) (a1c : Addr) (ka1c : ClassId) (x1c : Int32) (x2c : Int32) (x3c : Int32) (h0 : Heap) (n0 : Nat) (v : Option Value) (h : Heap) (L : List Loc) : Prop := ∃ e0 : Addr, ∃ ke0 : ClassId, v = some (.ref e0) ∧ Fr n0 L ∧ (Keep h0 h []) ∧ (Arv Z h e0 ke0 .byte (6 : Int32) [(.int (lo8 x1c)), (.int (hi8 x1c)), (.int (lo8 x2c)), (.int (hi8 x2c)), (.int (lo8 x3c)), (.int (hi8 x3c))] (.int 0)) ∧ (h0.size ≤ e0)
theorem rm10_61 (l : Launch) (Z : State) (a0 : Array Value) (hw : HW a0 Z) (a1c : Addr) (ka1c : ClassId) (x1c : Int32) (x2c : Int32) (x3c : Int32) (h0 : Heap) (n0 : Nat) (Z0 : n0 ≤ h0.size) (P0 : Arv Z h0 a1c ka1c .char (3 : Int32) [(.int x1c), (.int x2c), (.int x3c)] (.int 0)) (P1 : Sta Z h0 "java/lang/StringUTF16" "$assertionsDisabled" "Z" (.int 1)) (P2 : Sta Z h0 "java/lang/StringUTF16" "HI_BYTE_SHIFT" "I" (.int 0)) (P3 : Sta Z h0 "java/lang/StringUTF16" "LO_BYTE_SHIFT" "I" (.int 8)) (u0 : ¬ (x3c < (0 : Int32))) (u1 : ¬ ((65535 : Int32) < x3c)) (u2 : ¬ ((255 : Int32) < x1c)) (u3 : ¬ ((255 : Int32) < x2c)) (u4 : (255 : Int32) < x3c) :
  MM l Z Y10 jdk_52_method_16_code 6 (some (.array .byte)) 3 2 9 40 #[(.ref a1c), (.int 0), (.int 3)] h0 (Q10_61 Z a1c ka1c x1c x2c x3c h0 n0) := by
 refine own_start (fun m => (mkF m 0 (Sh1 a1c 0 3) [])) (plainFor_of_name pn_java_lang_StringUTF16) (by simp [entryFrame, mkF, argsToLocals, Value.category]) n0 ?_
 intro p e s m below meth c s₁ Bd hx hby hml hZ hown hnm X0 e0 N0
 refine GoW.sg (mkF m 1 (Sh1 a1c 0 3) [(.int 3)]) (fun t k => XS.iloadN X0.here hx rfl (hb hby d10_0) rfl k) ?_
 obtain ⟨T714, h714, k714, X714, e714, E714, A714, st714⟩ := newP X0 hx hZ (ww hw 26 rfl) e0 (g := (mkF m 1 (Sh1 a1c 0 3) [(.int 3)])) rfl (hb hby d10_1) rfl (by decide) (cap := 3) (by decide) (by decide) (by decide) (by decide)
 obtain ⟨b714, g714⟩ : ∃ z, z = h0.size := ⟨_, rfl⟩
 rw [← g714] at A714 st714
 have g_b714 : n0 ≤ b714 := Nat.le_trans Z0 (Nat.le_of_eq g714.symm)
 have sz_b714 : h0.size ≤ b714 := Nat.le_trans (Keep.refl h0 []).1 (Nat.le_of_eq g714.symm)
 have ne_a1c_b714 : a1c ≠ b714 := Nat.ne_of_lt (Nat.lt_of_lt_of_eq P0.lt g714.symm)
 have f714_1 := P0.ext E714
 have f714_2 := P1.ext E714
 have f714_3 := P2.ext E714
 have f714_4 := P3.ext E714
 have f714_5 := (Keep.refl h0 []).ext E714
 have f714_6 := Nat.le_trans Z0 E714.1
 have V714 : Arv Z h714 b714 k714 .byte (3 : Int32) [(.int (0 : Int32)), (.int (0 : Int32)), (.int (0 : Int32))] (.int (0 : Int32)) := (Arv.new A714 (by decide)).pad (pad_rep [] (.int (0 : Int32)) 3)
 refine GoW.sg (mkF m 3 (Sh1 a1c 0 3) [(.ref b714)]) (fun t k => st714 t k) ?_
 refine GoW.sg (mkF m 9 (Sh2 a1c 0 3 b714) [(.int 3), (.int 0), (.ref b714), (.int 0), (.ref a1c)]) (fun t k => XS.astoreN X714.here hx rfl (hb hby d10_3) rfl rfl (l' := (Sh2 a1c 0 3 b714)) rfl (XS.aloadN X714.here hx rfl (hb hby d10_4) rfl rfl (XS.iloadN X714.here hx rfl (hb hby d10_5) rfl (XS.aloadN X714.here hx rfl (hb hby d10_6) rfl rfl (XS.iconst X714.here hx rfl (hb hby d10_7) (XS.iloadN X714.here hx rfl (hb hby d10_8) rfl k)))))) ?_
 obtain ⟨_, T720, L720, X720, hQ720, st720⟩ := own_callS X714 hx hZ hown (y := Y11) (ww hw 52 rfl) (ww hw 53 rfl) (ww hw 50 rfl) (ww hw 54 rfl) (by decide) 0 (rm11_59 l Z a0 hw a1c b714 k714 ka1c x1c x2c x3c h714 n0  V714 f714_1 g_b714 ne_a1c_b714 u2 u3 u4  ) (by decide) (by decide) e714 (by decide) (by decide) (g := (mkF m 9 (Sh2 a1c 0 3 b714) [(.int 3), (.int 0), (.ref b714), (.int 0), (.ref a1c)])) rfl (by rw [hml]; rfl) (argsL := [(.ref a1c), (.int (0 : Int32)), (.ref b714), (.int (0 : Int32)), (.int (3 : Int32))]) (rest := []) (lenOf pd_285bCI5bBII29I rfl) rfl (by show 2 * 0 + _ ≤ _; exact Nat.le_of_eq rfl) (hb hby d10_9)
 obtain ⟨rfl, N720q, K720, p720_0⟩ := hQ720
 have N720 := Fr.app N0 N720q
 have f720_7 := f714_1.keep K720 (ninS ne_a1c_b714 nin0)
 have f720_8 := own_staK f714_2 K720 (allS (own_nsA V714) all0)
 have f720_9 := own_staK f714_3 K720 (allS (own_nsA V714) all0)
 have f720_10 := own_staK f714_4 K720 (allS (own_nsA V714) all0)
 have f720_11 := f714_5.trans K720 (allS (Or.inr sz_b714) all0)
 have f720_12 := Nat.le_trans f714_6 K720.1
 refine GoW.sg (mkF m 12 (Sh2 a1c 0 3 b714) [(.int 2)]) (fun t k => st720 t k) ?_
 refine GoW.sg (mkF m 23 (Sh6 a1c 0 3 b714 2) [(.int 3), (.int 0), (.ref a1c)]) (fun t k => XS.istore X720.here hx rfl (hb hby d10_12) rfl (l' := (Sh6 a1c 0 3 b714 2)) rfl (XS.iload X720.here hx rfl (hb hby d10_14) rfl (XS.iloadN X720.here hx rfl (hb hby d10_16) rfl (XS.icmpNo X720.here hx rfl (hb hby d10_17) rfl (by decide) (XS.aloadN X720.here hx rfl (hb hby d10_20) rfl rfl (XS.iloadN X720.here hx rfl (hb hby d10_21) rfl (XS.iloadN X720.here hx rfl (hb hby d10_22) rfl k))))))) ?_
 obtain ⟨_, T738, L738, X738, hQ738, st738⟩ := own_callS X720 hx hZ hown (y := Y13) (ww hw 58 rfl) (ww hw 59 rfl) (ww hw 50 rfl) (ww hw 60 rfl) (by decide) 0 (rm13_48 l Z a0 hw a1c ka1c x1c x2c x3c T720.heap n0 f720_12 f720_7 f720_8 f720_9 f720_10     ) (by decide) (by decide) rfl (by decide) (by decide) (g := (mkF m 23 (Sh6 a1c 0 3 b714 2) [(.int 3), (.int 0), (.ref a1c)])) rfl (by rw [hml]; rfl) (argsL := [(.ref a1c), (.int (0 : Int32)), (.int (3 : Int32))]) (rest := []) (lenOf pd_285bCII295bB rfl) rfl (by show 2 * 0 + _ ≤ _; exact Nat.le_of_eq rfl) (hb hby d10_23)
 obtain ⟨b738_e0, k738_ke0, rfl, N738q, K738, p738_0, hz_b738_e0⟩ := hQ738
 have sz_b738_e0 : h0.size ≤ b738_e0 := Nat.le_trans f720_11.1 hz_b738_e0
 have N738 := Fr.app N720 N738q
 have f738_14 := own_staK0 f720_8 K738
 have f738_15 := own_staK0 f720_9 K738
 have f738_16 := own_staK0 f720_10 K738
 have f738_17 := f720_11.trans K738 all0
 refine GoW.sg (mkF m 26 (Sh6 a1c 0 3 b714 2) [(.ref b738_e0)]) (fun t k => st738 t k) ?_
 refine GoW.sg (mkF m 32 (Sh11 a1c 0 3 b714 2 b738_e0) [(.int 2), (.ref b738_e0)]) (fun t k => XS.astore X738.here hx rfl (hb hby d10_26) rfl rfl (l' := (Sh11 a1c 0 3 b714 2 b738_e0)) rfl (XS.aload X738.here hx rfl (hb hby d10_28) rfl rfl (XS.iload X738.here hx rfl (hb hby d10_30) rfl k))) ?_
 obtain ⟨_, T744, L744, X744, hQ744, st744⟩ := own_callS X738 hx hZ hown (y := Y17) (ww hw 74 rfl) (ww hw 75 rfl) (ww hw 50 rfl) (ww hw 76 rfl) (by decide) 0 (rm17_60 l Z a0 hw b738_e0 k738_ke0 (lo8 x1c) (hi8 x1c) (lo8 x2c) (hi8 x2c) (lo8 x3c) (hi8 x3c) T738.heap n0  p738_0 f738_14 f738_15 f738_16     ) (by decide) (by decide) rfl (by decide) (by decide) (g := (mkF m 32 (Sh11 a1c 0 3 b714 2 b738_e0) [(.int 2), (.ref b738_e0)])) rfl (by rw [hml]; rfl) (argsL := [(.ref b738_e0), (.int (2 : Int32))]) (rest := []) (lenOf pd_285bBI29C rfl) rfl (by show 2 * 0 + _ ≤ _; exact Nat.le_of_eq rfl) (hb hby d10_32)
 obtain ⟨rfl, N744q, e744⟩ := hQ744
 have N744 := Fr.app N738 N744q
 refine GoW.sg (mkF m 35 (Sh11 a1c 0 3 b714 2 b738_e0) [(.int (nar .char ((((lo8 x3c) &&& (255 : Int32)) <<< ((0 : Int32) &&& 31)) ||| (((hi8 x3c) &&& (255 : Int32)) <<< ((8 : Int32) &&& 31))).toUInt32.toUInt16.toUInt32.toInt32))]) (fun t k => st744 t k) ?_
 rw [show (nar .char ((((lo8 x3c) &&& (255 : Int32)) <<< ((0 : Int32) &&& 31)) ||| (((hi8 x3c) &&& (255 : Int32)) <<< ((8 : Int32) &&& 31))).toUInt32.toUInt16.toUInt32.toInt32) = x3c from (own_join _ u0 u1)]
 refine GoW.sg (mkF m 56 (Sh11 a1c 0 3 b714 2 b738_e0) [(.ref b738_e0)]) (fun t k => XS.sipush X744.here hx rfl (hb hby d10_35) (XS.icmpYes X744.here hx rfl (pc0 := 38) (pc' := 54) rfl (hb hby d10_38) rfl (tlt u4).2.2.1 (by decide) (by decide) (XS.aload X744.here hx rfl (hb hby d10_54) rfl rfl k))) ?_
 refine GoW.retA X744 hx Bd.returns rfl rfl rfl (hb hby d10_56) Bd.notSynchronized ?_ (by decide) (by decide)
 rw [e744]
 exact ⟨b738_e0, k738_ke0, rfl, N744, f738_17, p738_0, sz_b738_e0⟩
def Q5_62 (Z : State) (a1c : Addr) (a2c : Addr) (ka2c : ClassId) (x1c : Int32) (x2c : Int32) (x3c : Int32) (x4c : Int32) (h0 : Heap) (n0 : Nat) (v : Option Value) (h : Heap) (L : List Loc) : Prop := ∃ e0 : Addr, ∃ ke0 : ClassId, v = none ∧ Fr n0 L ∧ (Keep h0 h [a1c]) ∧ (Exa Z h a1c "java/lang/String") ∧ (Fld Z h a1c "java/lang/String" "coder" "B" (.int 1)) ∧ (Fld Z h a1c "java/lang/String" "value" "[B" (.ref e0)) ∧ (Arv Z h e0 ke0 .byte (6 : Int32) [(.int (lo8 x1c)), (.int (hi8 x1c)), (.int (lo8 x2c)), (.int (hi8 x2c)), (.int (lo8 x3c)), (.int (hi8 x3c))] (.int 0)) ∧ (h0.size ≤ e0)
theorem rm5_62 (l : Launch) (Z : State) (a0 : Array Value) (hw : HW a0 Z) (a1c : Addr) (a2c : Addr) (ka2c : ClassId) (x1c : Int32) (x2c : Int32) (x3c : Int32) (x4c : Int32) (h0 : Heap) (n0 : Nat) (Z0 : n0 ≤ h0.size) (P0 : Exa Z h0 a1c "java/lang/String") (P1 : Fld Z h0 a1c "java/lang/String" "coder" "B" (.int 0)) (P2 : Fld Z h0 a1c "java/lang/String" "value" "[B" .null) (P3 : Arv Z h0 a2c ka2c .char (3 : Int32) [(.int x1c), (.int x2c), (.int x3c)] (.int 0)) (P4 : Sta Z h0 "java/lang/String" "COMPACT_STRINGS" "Z" (.int x4c)) (P5 : Sta Z h0 "java/lang/StringUTF16" "$assertionsDisabled" "Z" (.int 1)) (P6 : Sta Z h0 "java/lang/StringUTF16" "HI_BYTE_SHIFT" "I" (.int 0)) (P7 : Sta Z h0 "java/lang/StringUTF16" "LO_BYTE_SHIFT" "I" (.int 8)) (g_a1c : n0 ≤ a1c) (u0 : ¬ (x3c < (0 : Int32))) (u1 : ¬ ((65535 : Int32) < x3c)) (u2 : ¬ (x4c = (0 : Int32))) (u3 : ¬ ((255 : Int32) < x1c)) (u4 : ¬ ((255 : Int32) < x2c)) (u5 : (255 : Int32) < x3c) :
  MM l Z Y5 jdk_42_method_149_code 6 none 4 2 9 57 #[(.ref a1c), (.ref a2c), (.int 0), (.int 3), .null] h0 (Q5_62 Z a1c a2c ka2c x1c x2c x3c x4c h0 n0) := by
 refine own_start (fun m => (mkF m 0 (Sh0 a1c a2c 0 3) [])) (plainFor_of_name pn_java_lang_String) (by simp [entryFrame, mkF, argsToLocals, Value.category]) n0 ?_
 intro p e s m below meth c s₁ Bd hx hby hml hZ hown hnm X0 e0 N0
 refine GoW.sg (mkF m 1 (Sh0 a1c a2c 0 3) [(.ref a1c)]) (fun t k => XS.aloadN X0.here hx rfl (hb hby d5_0) rfl rfl k) ?_
 obtain ⟨T749, X749, e749, st749⟩ := initO X0 hx hZ hown (ww hw 22 rfl) (ww hw 23 rfl) (ww hw 24 rfl) e0 (g := (mkF m 1 (Sh0 a1c a2c 0 3) [(.ref a1c)])) rfl (by rw [hml]; rfl) rfl (hb hby d5_1) (by decide) (W := 0) (by show 2 * 0 + _ ≤ _; exact Nat.le_of_eq rfl) (by decide)
 refine GoW.sg (mkF m 4 (Sh0 a1c a2c 0 3) []) (fun t k => st749 t k) ?_
 refine GoW.sg (mkF m 27 (Sh0 a1c a2c 0 3) []) (fun t k => XS.iloadN X749.here hx rfl (hb hby d5_4) rfl (XS.ifYes X749.here hx rfl (pc0 := 5) (pc' := 27) rfl (hb hby d5_5) rfl (by decide) (by decide) (by decide) k)) ?_
 obtain ⟨T750, X750, e750, st750⟩ := getS (host := "") X749 hx hZ hown (ww hw 47 rfl) Via.refl e749 P4 (g := (mkF m 27 (Sh0 a1c a2c 0 3) [])) rfl (hb hby d5_27)
 refine GoW.sg (mkF m 30 (Sh0 a1c a2c 0 3) [(.int x4c)]) (fun t k => st750 t k) ?_
 refine GoW.sg (mkF m 36 (Sh0 a1c a2c 0 3) [(.int 3), (.int 0), (.ref a2c)]) (fun t k => XS.ifNo X750.here hx rfl (hb hby d5_30) rfl ((if0 _ _).trans (feq u2).1) (XS.aloadN X750.here hx rfl (hb hby d5_33) rfl rfl (XS.iloadN X750.here hx rfl (hb hby d5_34) rfl (XS.iloadN X750.here hx rfl (hb hby d5_35) rfl k)))) ?_
 obtain ⟨_, T772, L772, X772, hQ772, st772⟩ := own_callS X750 hx hZ hown (y := Y10) (ww hw 48 rfl) (ww hw 49 rfl) (ww hw 50 rfl) (ww hw 51 rfl) (by decide) 0 (rm10_61 l Z a0 hw a2c ka2c x1c x2c x3c h0 n0 Z0 P3 P5 P6 P7   u0 u1 u3 u4 u5  ) (by decide) (by decide) e750 (by decide) (by decide) (g := (mkF m 36 (Sh0 a1c a2c 0 3) [(.int 3), (.int 0), (.ref a2c)])) rfl (by rw [hml]; rfl) (argsL := [(.ref a2c), (.int (0 : Int32)), (.int (3 : Int32))]) (rest := []) (lenOf pd_285bCII295bB rfl) rfl (by show 2 * 0 + _ ≤ _; exact Nat.le_of_eq rfl) (hb hby d5_36)
 obtain ⟨b772_e0, k772_ke0, rfl, N772q, K772, p772_0, hz_b772_e0⟩ := hQ772
 have sz_b772_e0 : h0.size ≤ b772_e0 := Nat.le_trans (Keep.refl h0 [a1c]).1 hz_b772_e0
 have ne_a1c_b772_e0 : a1c ≠ b772_e0 := Nat.ne_of_lt (Nat.lt_of_lt_of_le P0.lt hz_b772_e0)
 have N772 := Fr.app N0 N772q
 have f772_1 := P0.keep K772
 have f772_2 := P1.keep K772 nin0
 have f772_3 := P2.keep K772 nin0
 have f772_9 := (Keep.refl h0 [a1c]).trans K772 all0
 refine GoW.sg (mkF m 39 (Sh0 a1c a2c 0 3) [(.ref b772_e0)]) (fun t k => st772 t k) ?_
 refine GoW.sg (mkF m 45 (Sh12 a1c a2c 0 3 b772_e0) [(.int 3), (.ref b772_e0), (.ref a1c)]) (fun t k => XS.astore X772.here hx rfl (hb hby d5_39) rfl rfl (l' := (Sh12 a1c a2c 0 3 b772_e0)) rfl (XS.aloadN X772.here hx rfl (hb hby d5_41) rfl rfl (XS.aload X772.here hx rfl (hb hby d5_42) rfl rfl (XS.iloadN X772.here hx rfl (hb hby d5_44) rfl k)))) ?_
 obtain ⟨_, T773, L773, X773, hQ773, st773⟩ := own_callS X772 hx hZ hown (y := Y12) (ww hw 55 rfl) (ww hw 56 rfl) (ww hw 50 rfl) (ww hw 57 rfl) (by decide) 1 (rm12_51 l Z a0 hw b772_e0 k772_ke0 (lo8 x1c) (hi8 x1c) (lo8 x2c) (hi8 x2c) (lo8 x3c) (hi8 x3c) T772.heap n0  p772_0     ) (by decide) (by decide) rfl (by decide) (by decide) (g := (mkF m 45 (Sh12 a1c a2c 0 3 b772_e0) [(.int 3), (.ref b772_e0), (.ref a1c)])) rfl (by rw [hml]; rfl) (argsL := [(.ref b772_e0), (.int (3 : Int32))]) (rest := [(.ref a1c)]) (lenOf pd_285bBI29B rfl) rfl (by show 2 * 0 + _ ≤ _; exact Nat.le_of_eq rfl) (hb hby d5_45)
 obtain ⟨rfl, N773q, e773⟩ := hQ773
 have N773 := Fr.app N772 N773q
 refine GoW.sg (mkF m 48 (Sh12 a1c a2c 0 3 b772_e0) [(.int 1), (.ref a1c)]) (fun t k => st773 t k) ?_
 obtain ⟨T774, h774, X774, e774, W774, st774⟩ := putF X773 hx hZ hown (host := "") (Or.inl (ww hw 32 rfl)) Via.refl e773 f772_2 f772_1 (Or.inr ⟨(ww hw 28 rfl), rfl, hnm⟩) (ww hw 12 rfl) (ty := .byte) (by decide) rfl rfl (g := (mkF m 48 (Sh12 a1c a2c 0 3 b772_e0) [(.int 1), (.ref a1c)])) rfl rfl (hb hby d5_48)
 have N774 := Fr.snoc X774 N773 g_a1c
 have f774_11 := f772_1.wr W774
 have f774_12 := f772_3.other W774 (Or.inr (slot_ne (t := (.array .byte)) (t' := .byte) (Or.inr (ww hw 27 rfl)) (Or.inr (ww hw 28 rfl)) (by decide) (by decide) (by decide)))
 have f774_17 := f772_9.wr W774 (Or.inl (List.mem_of_getElem? (i := 0) rfl))
 have f774_19 := p772_0.other W774 (Ne.symm ne_a1c_b772_e0)
 have F774coder : Fld Z h774 a1c "java/lang/String" "coder" "B" (.int (1 : Int32)) := f772_2.same W774
 refine GoW.sg (mkF m 51 (Sh12 a1c a2c 0 3 b772_e0) []) (fun t k => st774 t k) ?_
 refine GoW.sg (mkF m 54 (Sh12 a1c a2c 0 3 b772_e0) [(.ref b772_e0), (.ref a1c)]) (fun t k => XS.aloadN X774.here hx rfl (hb hby d5_51) rfl rfl (XS.aload X774.here hx rfl (hb hby d5_52) rfl rfl k)) ?_
 obtain ⟨T775, h775, X775, e775, W775, st775⟩ := putF X774 hx hZ hown (host := "") (Or.inl (ww hw 31 rfl)) Via.refl e774 f774_12 f774_11 (Or.inr ⟨(ww hw 27 rfl), rfl, hnm⟩) (ww hw 12 rfl) (ty := (.array .byte)) (by decide) rfl rfl (g := (mkF m 54 (Sh12 a1c a2c 0 3 b772_e0) [(.ref b772_e0), (.ref a1c)])) rfl rfl (hb hby d5_54)
 have N775 := Fr.snoc X775 N774 g_a1c
 have f775_20 := f774_11.wr W775
 have f775_21 := F774coder.other W775 (Or.inr (slot_ne (t := .byte) (t' := (.array .byte)) (Or.inr (ww hw 28 rfl)) (Or.inr (ww hw 27 rfl)) (by decide) (by decide) (by decide)))
 have f775_26 := f774_17.wr W775 (Or.inl (List.mem_of_getElem? (i := 0) rfl))
 have f775_28 := f774_19.other W775 (Ne.symm ne_a1c_b772_e0)
 have F775value : Fld Z h775 a1c "java/lang/String" "value" "[B" (.ref b772_e0) := f774_12.same W775
 refine GoW.sg (mkF m 57 (Sh12 a1c a2c 0 3 b772_e0) []) (fun t k => st775 t k) ?_
 refine GoW.retV X775 hx Bd.returns (hb hby d5_57) Bd.notSynchronized ?_ (by decide) (by decide)
 rw [e775]
 exact ⟨b772_e0, k772_ke0, rfl, N775, f775_26, f775_20, f775_21, F775value, f775_28, sz_b772_e0⟩
def Q11_64 (Z : State) (a1c : Addr) (a2c : Addr) (ka2c : ClassId) (ka1c : ClassId) (x1c : Int32) (x2c : Int32) (x3c : Int32) (h0 : Heap) (n0 : Nat) (v : Option Value) (h : Heap) (L : List Loc) : Prop := v = some (.int 3) ∧ Fr n0 L ∧ (Keep h0 h [a2c]) ∧ (Arv Z h a2c ka2c .byte (3 : Int32) [(.int (lat8 x1c)), (.int (lat8 x2c)), (.int (lat8 x3c))] (.int 0))
theorem rm11_64 (l : Launch) (Z : State) (a0 : Array Value) (hw : HW a0 Z) (a1c : Addr) (a2c : Addr) (ka2c : ClassId) (ka1c : ClassId) (x1c : Int32) (x2c : Int32) (x3c : Int32) (h0 : Heap) (n0 : Nat) (P0 : Arv Z h0 a2c ka2c .byte (3 : Int32) [(.int 0), (.int 0), (.int 0)] (.int 0)) (P1 : Arv Z h0 a1c ka1c .char (3 : Int32) [(.int x1c), (.int x2c), (.int x3c)] (.int 0)) (g_a2c : n0 ≤ a2c) (ne_a1c_a2c : a1c ≠ a2c) (u0 : ¬ ((255 : Int32) < x1c)) (u1 : ¬ ((255 : Int32) < x2c)) (u2 : ¬ ((255 : Int32) < x3c)) :
  MM l Z Y11 jdk_52_method_21_code 7 (some .int) 0 0 0 0 #[(.ref a1c), (.int 0), (.ref a2c), (.int 0), (.int 3)] h0 (Q11_64 Z a1c a2c ka2c ka1c x1c x2c x3c h0 n0) := by
 refine own_start (fun m => (mkF m 0 (Sh3 a1c 0 a2c 0 3) [])) (plainFor_of_name pn_java_lang_StringUTF16) (by simp [entryFrame, mkF, argsToLocals, Value.category]) n0 ?_
 intro p e s m below meth c s₁ Bd hx hby hml hZ hown hnm X0 e0 N0
 refine GoW.sg (mkF m 12 (Sh4 a1c 0 a2c 0 3 0) [(.int 0), (.ref a1c)]) (fun t k => XS.iconst X0.here hx rfl (hb hby d11_0) (XS.istore X0.here hx rfl (hb hby d11_1) rfl (l' := (Sh4 a1c 0 a2c 0 3 0)) rfl (XS.iload X0.here hx rfl (hb hby d11_3) rfl (XS.iload X0.here hx rfl (hb hby d11_5) rfl (XS.icmpNo X0.here hx rfl (hb hby d11_7) rfl (by decide) (XS.aloadN X0.here hx rfl (hb hby d11_10) rfl rfl (XS.iloadN X0.here hx rfl (hb hby d11_11) rfl k))))))) ?_
 obtain ⟨cl795, Ar795, q795, Sz795, Nn795, Hh795, Gg795⟩ := id P1
 have hin795 : ¬ ((0 : Int32) < 0 ∨ cl795.slots.size ≤ ((0 : Int32)).toNatClampNeg) := inb_of Sz795 ⟨by decide, by decide⟩
 refine GoW.sg (mkF m 13 (Sh4 a1c 0 a2c 0 3 0) [(.int x1c)]) (fun t k => X0.caload hx (j := (0 : Int32)) (v := (.int x1c)) (hq_ e0 Ar795.1) (State.isArrayOf_alike hZ.alike Ar795.2.1) Ar795.2.2 hin795 (Hh795.at hin795 rfl) (g := (mkF m 12 (Sh4 a1c 0 a2c 0 3 0) [(.int 0), (.ref a1c)])) rfl rfl (hb hby d11_12) t k) ?_
 refine GoW.sg (mkF m 31 (Sh5 a1c 0 a2c 0 3 0 x1c) [(.int x1c.toInt8.toInt32), (.int 0), (.ref a2c)]) (fun t k => XS.istore X0.here hx rfl (hb hby d11_13) rfl (l' := (Sh5 a1c 0 a2c 0 3 0 x1c)) rfl (XS.iload X0.here hx rfl (hb hby d11_15) rfl (XS.sipush X0.here hx rfl (hb hby d11_17) (XS.icmpYes X0.here hx rfl (pc0 := 20) (pc' := 26) rfl (hb hby d11_20) rfl (flt u0).2.2.2 (by decide) (by decide) (XS.aloadN X0.here hx rfl (hb hby d11_26) rfl rfl (XS.iloadN X0.here hx rfl (hb hby d11_27) rfl (XS.iload X0.here hx rfl (hb hby d11_28) rfl (XS.i2b X0.here hx rfl (hb hby d11_30) rfl k)))))))) ?_
 obtain ⟨cl796, Ar796, q796, Sz796, Nn796, Hh796, Gg796⟩ := P0
 have hin796 : ¬ ((0 : Int32) < 0 ∨ cl796.slots.size ≤ ((0 : Int32)).toNatClampNeg) := inb_of Sz796 ⟨by decide, by decide⟩
 obtain ⟨T796, h796, X796, e796, W796, st796⟩ := stB X0 hx hZ e0 Ar796 (j := (0 : Int32)) hin796 (g := (mkF m 31 (Sh5 a1c 0 a2c 0 3 0 x1c) [(.int x1c.toInt8.toInt32), (.int 0), (.ref a2c)])) rfl rfl (hb hby d11_31)
 have f796_1 := P1.other W796 ne_a1c_a2c
 have f796_2 := (Keep.refl h0 [a2c]).wr W796 (Or.inl (List.mem_of_getElem? (i := 0) rfl))
 have V796 : Arv Z h796 a2c ka2c .byte (3 : Int32) [(.int (lat8 x1c)), (.int (0 : Int32)), (.int (0 : Int32))] (.int (0 : Int32)) := Arv.set Ar796 q796 Sz796 Nn796 Hh796 Gg796 (fits_nar_byte _) W796 0 rfl (Nat.le_of_ble_eq_true rfl)
 have N796 := Fr.snoc X796 N0 g_a2c
 refine GoW.sg (mkF m 32 (Sh5 a1c 0 a2c 0 3 0 x1c) []) (fun t k => st796 t k) ?_
 refine GoW.sg (mkF m 11 (Sh5 a1c 1 a2c 1 3 1 x1c) [(.ref a1c)]) (fun t k => XS.iinc X796.here hx rfl (hb hby d11_32) rfl (l' := (Sh5 a1c 1 a2c 0 3 0 x1c)) rfl (XS.iinc X796.here hx rfl (hb hby d11_35) rfl (l' := (Sh5 a1c 1 a2c 1 3 0 x1c)) rfl (XS.iinc X796.here hx rfl (hb hby d11_38) rfl (l' := (Sh5 a1c 1 a2c 1 3 1 x1c)) rfl (XS.goto X796.here hx rfl (pc0 := 41) (pc' := 3) rfl (hb hby d11_41) (by decide) (by decide) (XS.iload X796.here hx rfl (hb hby d11_3) rfl (XS.iload X796.here hx rfl (hb hby d11_5) rfl (XS.icmpNo X796.here hx rfl (hb hby d11_7) rfl (by decide) (XS.aloadN X796.here hx rfl (hb hby d11_10) rfl rfl k)))))))) ?_
 refine GoW.sg (mkF m 12 (Sh5 a1c 1 a2c 1 3 1 x1c) [(.int 1), (.ref a1c)]) (fun t k => XS.iloadN X796.here hx rfl (hb hby d11_11) rfl k) ?_
 obtain ⟨cl797, Ar797, q797, Sz797, Nn797, Hh797, Gg797⟩ := id f796_1
 have hin797 : ¬ ((1 : Int32) < 0 ∨ cl797.slots.size ≤ ((1 : Int32)).toNatClampNeg) := inb_of Sz797 ⟨by decide, by decide⟩
 refine GoW.sg (mkF m 13 (Sh5 a1c 1 a2c 1 3 1 x1c) [(.int x2c)]) (fun t k => X796.caload hx (j := (1 : Int32)) (v := (.int x2c)) (hq_ e796 Ar797.1) (State.isArrayOf_alike hZ.alike Ar797.2.1) Ar797.2.2 hin797 (Hh797.at hin797 rfl) (g := (mkF m 12 (Sh5 a1c 1 a2c 1 3 1 x1c) [(.int 1), (.ref a1c)])) rfl rfl (hb hby d11_12) t k) ?_
 refine GoW.sg (mkF m 31 (Sh5 a1c 1 a2c 1 3 1 x2c) [(.int x2c.toInt8.toInt32), (.int 1), (.ref a2c)]) (fun t k => XS.istore X796.here hx rfl (hb hby d11_13) rfl (l' := (Sh5 a1c 1 a2c 1 3 1 x2c)) rfl (XS.iload X796.here hx rfl (hb hby d11_15) rfl (XS.sipush X796.here hx rfl (hb hby d11_17) (XS.icmpYes X796.here hx rfl (pc0 := 20) (pc' := 26) rfl (hb hby d11_20) rfl (flt u1).2.2.2 (by decide) (by decide) (XS.aloadN X796.here hx rfl (hb hby d11_26) rfl rfl (XS.iloadN X796.here hx rfl (hb hby d11_27) rfl (XS.iload X796.here hx rfl (hb hby d11_28) rfl (XS.i2b X796.here hx rfl (hb hby d11_30) rfl k)))))))) ?_
 obtain ⟨cl798, Ar798, q798, Sz798, Nn798, Hh798, Gg798⟩ := V796
 have hin798 : ¬ ((1 : Int32) < 0 ∨ cl798.slots.size ≤ ((1 : Int32)).toNatClampNeg) := inb_of Sz798 ⟨by decide, by decide⟩
 obtain ⟨T798, h798, X798, e798, W798, st798⟩ := stB X796 hx hZ e796 Ar798 (j := (1 : Int32)) hin798 (g := (mkF m 31 (Sh5 a1c 1 a2c 1 3 1 x2c) [(.int x2c.toInt8.toInt32), (.int 1), (.ref a2c)])) rfl rfl (hb hby d11_31)
 have f798_3 := f796_1.other W798 ne_a1c_a2c
 have f798_4 := f796_2.wr W798 (Or.inl (List.mem_of_getElem? (i := 0) rfl))
 have V798 : Arv Z h798 a2c ka2c .byte (3 : Int32) [(.int (lat8 x1c)), (.int (lat8 x2c)), (.int (0 : Int32))] (.int (0 : Int32)) := Arv.set Ar798 q798 Sz798 Nn798 Hh798 Gg798 (fits_nar_byte _) W798 1 rfl (Nat.le_of_ble_eq_true rfl)
 have N798 := Fr.snoc X798 N796 g_a2c
 refine GoW.sg (mkF m 32 (Sh5 a1c 1 a2c 1 3 1 x2c) []) (fun t k => st798 t k) ?_
 refine GoW.sg (mkF m 11 (Sh5 a1c 2 a2c 2 3 2 x2c) [(.ref a1c)]) (fun t k => XS.iinc X798.here hx rfl (hb hby d11_32) rfl (l' := (Sh5 a1c 2 a2c 1 3 1 x2c)) rfl (XS.iinc X798.here hx rfl (hb hby d11_35) rfl (l' := (Sh5 a1c 2 a2c 2 3 1 x2c)) rfl (XS.iinc X798.here hx rfl (hb hby d11_38) rfl (l' := (Sh5 a1c 2 a2c 2 3 2 x2c)) rfl (XS.goto X798.here hx rfl (pc0 := 41) (pc' := 3) rfl (hb hby d11_41) (by decide) (by decide) (XS.iload X798.here hx rfl (hb hby d11_3) rfl (XS.iload X798.here hx rfl (hb hby d11_5) rfl (XS.icmpNo X798.here hx rfl (hb hby d11_7) rfl (by decide) (XS.aloadN X798.here hx rfl (hb hby d11_10) rfl rfl k)))))))) ?_
 refine GoW.sg (mkF m 12 (Sh5 a1c 2 a2c 2 3 2 x2c) [(.int 2), (.ref a1c)]) (fun t k => XS.iloadN X798.here hx rfl (hb hby d11_11) rfl k) ?_
 obtain ⟨cl799, Ar799, q799, Sz799, Nn799, Hh799, Gg799⟩ := id f798_3
 have hin799 : ¬ ((2 : Int32) < 0 ∨ cl799.slots.size ≤ ((2 : Int32)).toNatClampNeg) := inb_of Sz799 ⟨by decide, by decide⟩
 refine GoW.sg (mkF m 13 (Sh5 a1c 2 a2c 2 3 2 x2c) [(.int x3c)]) (fun t k => X798.caload hx (j := (2 : Int32)) (v := (.int x3c)) (hq_ e798 Ar799.1) (State.isArrayOf_alike hZ.alike Ar799.2.1) Ar799.2.2 hin799 (Hh799.at hin799 rfl) (g := (mkF m 12 (Sh5 a1c 2 a2c 2 3 2 x2c) [(.int 2), (.ref a1c)])) rfl rfl (hb hby d11_12) t k) ?_
 refine GoW.sg (mkF m 31 (Sh5 a1c 2 a2c 2 3 2 x3c) [(.int x3c.toInt8.toInt32), (.int 2), (.ref a2c)]) (fun t k => XS.istore X798.here hx rfl (hb hby d11_13) rfl (l' := (Sh5 a1c 2 a2c 2 3 2 x3c)) rfl (XS.iload X798.here hx rfl (hb hby d11_15) rfl (XS.sipush X798.here hx rfl (hb hby d11_17) (XS.icmpYes X798.here hx rfl (pc0 := 20) (pc' := 26) rfl (hb hby d11_20) rfl (flt u2).2.2.2 (by decide) (by decide) (XS.aloadN X798.here hx rfl (hb hby d11_26) rfl rfl (XS.iloadN X798.here hx rfl (hb hby d11_27) rfl (XS.iload X798.here hx rfl (hb hby d11_28) rfl (XS.i2b X798.here hx rfl (hb hby d11_30) rfl k)))))))) ?_
 obtain ⟨cl800, Ar800, q800, Sz800, Nn800, Hh800, Gg800⟩ := V798
 have hin800 : ¬ ((2 : Int32) < 0 ∨ cl800.slots.size ≤ ((2 : Int32)).toNatClampNeg) := inb_of Sz800 ⟨by decide, by decide⟩
 obtain ⟨T800, h800, X800, e800, W800, st800⟩ := stB X798 hx hZ e798 Ar800 (j := (2 : Int32)) hin800 (g := (mkF m 31 (Sh5 a1c 2 a2c 2 3 2 x3c) [(.int x3c.toInt8.toInt32), (.int 2), (.ref a2c)])) rfl rfl (hb hby d11_31)
 have f800_6 := f798_4.wr W800 (Or.inl (List.mem_of_getElem? (i := 0) rfl))
 have V800 : Arv Z h800 a2c ka2c .byte (3 : Int32) [(.int (lat8 x1c)), (.int (lat8 x2c)), (.int (lat8 x3c))] (.int (0 : Int32)) := Arv.set Ar800 q800 Sz800 Nn800 Hh800 Gg800 (fits_nar_byte _) W800 2 rfl (Nat.le_of_ble_eq_true rfl)
 have N800 := Fr.snoc X800 N798 g_a2c
 refine GoW.sg (mkF m 32 (Sh5 a1c 2 a2c 2 3 2 x3c) []) (fun t k => st800 t k) ?_
 refine GoW.sg (mkF m 46 (Sh5 a1c 3 a2c 3 3 3 x3c) [(.int 3)]) (fun t k => XS.iinc X800.here hx rfl (hb hby d11_32) rfl (l' := (Sh5 a1c 3 a2c 2 3 2 x3c)) rfl (XS.iinc X800.here hx rfl (hb hby d11_35) rfl (l' := (Sh5 a1c 3 a2c 3 3 2 x3c)) rfl (XS.iinc X800.here hx rfl (hb hby d11_38) rfl (l' := (Sh5 a1c 3 a2c 3 3 3 x3c)) rfl (XS.goto X800.here hx rfl (pc0 := 41) (pc' := 3) rfl (hb hby d11_41) (by decide) (by decide) (XS.iload X800.here hx rfl (hb hby d11_3) rfl (XS.iload X800.here hx rfl (hb hby d11_5) rfl (XS.icmpYes X800.here hx rfl (pc0 := 7) (pc' := 44) rfl (hb hby d11_7) rfl (by decide) (by decide) (by decide) (XS.iload X800.here hx rfl (hb hby d11_44) rfl k)))))))) ?_
 refine GoW.retI X800 hx Bd.returns (hb hby d11_46) Bd.notSynchronized ?_ (by decide) (by decide)
 rw [e800]
 exact ⟨rfl, N800, f800_6, V800⟩
def Q10_65 (Z : State) (a1c : Addr) (ka1c : ClassId) (x1c : Int32) (x2c : Int32) (x3c : Int32) (h0 : Heap) (n0 : Nat) (v : Option Value) (h : Heap) (L : List Loc) : Prop := ∃ e0 : Addr, ∃ ke0 : ClassId, v = some (.ref e0) ∧ Fr n0 L ∧ (Keep h0 h []) ∧ (Arv Z h e0 ke0 .byte (3 : Int32) [(.int (lat8 x1c)), (.int (lat8 x2c)), (.int (lat8 x3c))] (.int 0)) ∧ (h0.size ≤ e0)
theorem rm10_65 (l : Launch) (Z : State) (a0 : Array Value) (hw : HW a0 Z) (a1c : Addr) (ka1c : ClassId) (x1c : Int32) (x2c : Int32) (x3c : Int32) (h0 : Heap) (n0 : Nat) (Z0 : n0 ≤ h0.size) (P0 : Arv Z h0 a1c ka1c .char (3 : Int32) [(.int x1c), (.int x2c), (.int x3c)] (.int 0)) (u0 : ¬ ((255 : Int32) < x1c)) (u1 : ¬ ((255 : Int32) < x2c)) (u2 : ¬ ((255 : Int32) < x3c)) :
  MM l Z Y10 jdk_52_method_16_code 6 (some (.array .byte)) 1 1 3 18 #[(.ref a1c), (.int 0), (.int 3)] h0 (Q10_65 Z a1c ka1c x1c x2c x3c h0 n0) := by
 refine own_start (fun m => (mkF m 0 (Sh1 a1c 0 3) [])) (plainFor_of_name pn_java_lang_StringUTF16) (by simp [entryFrame, mkF, argsToLocals, Value.category]) n0 ?_
 intro p e s m below meth c s₁ Bd hx hby hml hZ hown hnm X0 e0 N0
 refine GoW.sg (mkF m 1 (Sh1 a1c 0 3) [(.int 3)]) (fun t k => XS.iloadN X0.here hx rfl (hb hby d10_0) rfl k) ?_
 obtain ⟨T802, h802, k802, X802, e802, E802, A802, st802⟩ := newP X0 hx hZ (ww hw 26 rfl) e0 (g := (mkF m 1 (Sh1 a1c 0 3) [(.int 3)])) rfl (hb hby d10_1) rfl (by decide) (cap := 3) (by decide) (by decide) (by decide) (by decide)
 obtain ⟨b802, g802⟩ : ∃ z, z = h0.size := ⟨_, rfl⟩
 rw [← g802] at A802 st802
 have g_b802 : n0 ≤ b802 := Nat.le_trans Z0 (Nat.le_of_eq g802.symm)
 have sz_b802 : h0.size ≤ b802 := Nat.le_trans (Keep.refl h0 []).1 (Nat.le_of_eq g802.symm)
 have ne_a1c_b802 : a1c ≠ b802 := Nat.ne_of_lt (Nat.lt_of_lt_of_eq P0.lt g802.symm)
 have f802_1 := P0.ext E802
 have f802_2 := (Keep.refl h0 []).ext E802
 have V802 : Arv Z h802 b802 k802 .byte (3 : Int32) [(.int (0 : Int32)), (.int (0 : Int32)), (.int (0 : Int32))] (.int (0 : Int32)) := (Arv.new A802 (by decide)).pad (pad_rep [] (.int (0 : Int32)) 3)
 refine GoW.sg (mkF m 3 (Sh1 a1c 0 3) [(.ref b802)]) (fun t k => st802 t k) ?_
 refine GoW.sg (mkF m 9 (Sh2 a1c 0 3 b802) [(.int 3), (.int 0), (.ref b802), (.int 0), (.ref a1c)]) (fun t k => XS.astoreN X802.here hx rfl (hb hby d10_3) rfl rfl (l' := (Sh2 a1c 0 3 b802)) rfl (XS.aloadN X802.here hx rfl (hb hby d10_4) rfl rfl (XS.iloadN X802.here hx rfl (hb hby d10_5) rfl (XS.aloadN X802.here hx rfl (hb hby d10_6) rfl rfl (XS.iconst X802.here hx rfl (hb hby d10_7) (XS.iloadN X802.here hx rfl (hb hby d10_8) rfl k)))))) ?_
 obtain ⟨_, T809, L809, X809, hQ809, st809⟩ := own_callS X802 hx hZ hown (y := Y11) (ww hw 52 rfl) (ww hw 53 rfl) (ww hw 50 rfl) (ww hw 54 rfl) (by decide) 0 (rm11_64 l Z a0 hw a1c b802 k802 ka1c x1c x2c x3c h802 n0  V802 f802_1 g_b802 ne_a1c_b802 u0 u1 u2  ) (by decide) (by decide) e802 (by decide) (by decide) (g := (mkF m 9 (Sh2 a1c 0 3 b802) [(.int 3), (.int 0), (.ref b802), (.int 0), (.ref a1c)])) rfl (by rw [hml]; rfl) (argsL := [(.ref a1c), (.int (0 : Int32)), (.ref b802), (.int (0 : Int32)), (.int (3 : Int32))]) (rest := []) (lenOf pd_285bCI5bBII29I rfl) rfl (by show 2 * 0 + _ ≤ _; exact Nat.le_of_eq rfl) (hb hby d10_9)
 obtain ⟨rfl, N809q, K809, p809_0⟩ := hQ809
 have N809 := Fr.app N0 N809q
 have f809_5 := f802_2.trans K809 (allS (Or.inr sz_b802) all0)
 refine GoW.sg (mkF m 12 (Sh2 a1c 0 3 b802) [(.int 3)]) (fun t k => st809 t k) ?_
 refine GoW.sg (mkF m 58 (Sh6 a1c 0 3 b802 3) [(.ref b802)]) (fun t k => XS.istore X809.here hx rfl (hb hby d10_12) rfl (l' := (Sh6 a1c 0 3 b802 3)) rfl (XS.iload X809.here hx rfl (hb hby d10_14) rfl (XS.iloadN X809.here hx rfl (hb hby d10_16) rfl (XS.icmpYes X809.here hx rfl (pc0 := 17) (pc' := 57) rfl (hb hby d10_17) rfl (by decide) (by decide) (by decide) (XS.aloadN X809.here hx rfl (hb hby d10_57) rfl rfl k))))) ?_
 refine GoW.retA X809 hx Bd.returns rfl rfl rfl (hb hby d10_58) Bd.notSynchronized ?_ (by decide) (by decide)
 exact ⟨b802, k802, rfl, N809, f809_5, p809_0, sz_b802⟩
def Q12_66 (Z : State) (a1c : Addr) (ka1c : ClassId) (x1c : Int32) (x2c : Int32) (x3c : Int32) (h0 : Heap) (n0 : Nat) (v : Option Value) (h : Heap) (L : List Loc) : Prop := v = some (.int 0) ∧ Fr n0 L ∧ (h = h0)
theorem rm12_66 (l : Launch) (Z : State) (a0 : Array Value) (hw : HW a0 Z) (a1c : Addr) (ka1c : ClassId) (x1c : Int32) (x2c : Int32) (x3c : Int32) (h0 : Heap) (n0 : Nat) (P0 : Arv Z h0 a1c ka1c .byte (3 : Int32) [(.int x1c), (.int x2c), (.int x3c)] (.int 0)) :
  MM l Z Y12 jdk_52_method_15_code 2 (some .byte) 0 0 0 0 #[(.ref a1c), (.int 3)] h0 (Q12_66 Z a1c ka1c x1c x2c x3c h0 n0) := by
 refine own_start (fun m => (mkF m 0 #[.val (.ref a1c), .val (.int 3)] [])) (plainFor_of_name pn_java_lang_StringUTF16) (by simp [entryFrame, mkF, argsToLocals, Value.category]) n0 ?_
 intro p e s m below meth c s₁ Bd hx hby hml hZ hown hnm X0 e0 N0
 refine GoW.sg (mkF m 2 #[.val (.ref a1c), .val (.int 3)] [(.ref a1c), (.int 3)]) (fun t k => XS.iloadN X0.here hx rfl (hb hby d12_0) rfl (XS.aloadN X0.here hx rfl (hb hby d12_1) rfl rfl k)) ?_
 obtain ⟨cl812, Ar812, q812, Sz812, Nn812, Hh812, Gg812⟩ := id P0
 have st812 := X0.arraylength hx (hq_ e0 Ar812.1) (State.isArrayOf_alike hZ.alike Ar812.2.1) (g := (mkF m 2 #[.val (.ref a1c), .val (.int 3)] [(.ref a1c), (.int 3)])) rfl rfl (hb hby d12_2)
 rw [len_of Sz812 Nn812] at st812
 refine GoW.sg (mkF m 3 #[.val (.ref a1c), .val (.int 3)] [(.int 3), (.int 3)]) (fun t k => st812 t k) ?_
 refine GoW.st (fun t k => XS.isub X0.here hx rfl (hb hby d12_3) rfl k) ?_
 rw [show ((3 : Int32) - (3 : Int32)) = (0 : Int32) from by decide]
 show GoW p e below s (Q12_66 Z a1c ka1c x1c x2c x3c h0 n0) 0 0 (s₁.setTop (mkF m 4 #[.val (.ref a1c), .val (.int 3)] [(.int 0)]))
 refine GoW.sg (mkF m 6 #[.val (.ref a1c), .val (.int 3)] [(.int 31), (.int 0)]) (fun t k => XS.bipush X0.here hx rfl (hb hby d12_4) k) ?_
 refine GoW.st (fun t k => XS.iushr X0.here hx rfl (hb hby d12_6) rfl k) ?_
 rw [show ((0 : Int32).toUInt32 >>> ((31 : Int32) &&& 31).toUInt32).toInt32 = (0 : Int32) from by decide]
 show GoW p e below s (Q12_66 Z a1c ka1c x1c x2c x3c h0 n0) 0 0 (s₁.setTop (mkF m 7 #[.val (.ref a1c), .val (.int 3)] [(.int 0)]))
 refine GoW.st (fun t k => XS.i2b X0.here hx rfl (hb hby d12_7) rfl k) ?_
 rw [show (0 : Int32).toInt8.toInt32 = (0 : Int32) from by decide]
 show GoW p e below s (Q12_66 Z a1c ka1c x1c x2c x3c h0 n0) 0 0 (s₁.setTop (mkF m 8 #[.val (.ref a1c), .val (.int 3)] [(.int 0)]))
 refine GoW.retN X0 hx (t := .byte) Bd.returns (by simp) (hb hby d12_8) Bd.notSynchronized ?_ (by decide) (by decide)
 rw [e0]
 exact ⟨rfl, N0, rfl⟩
def Q5_67 (Z : State) (a1c : Addr) (a2c : Addr) (ka2c : ClassId) (x1c : Int32) (x2c : Int32) (x3c : Int32) (x4c : Int32) (h0 : Heap) (n0 : Nat) (v : Option Value) (h : Heap) (L : List Loc) : Prop := ∃ e0 : Addr, ∃ ke0 : ClassId, v = none ∧ Fr n0 L ∧ (Keep h0 h [a1c]) ∧ (Exa Z h a1c "java/lang/String") ∧ (Fld Z h a1c "java/lang/String" "coder" "B" (.int 0)) ∧ (Fld Z h a1c "java/lang/String" "value" "[B" (.ref e0)) ∧ (Arv Z h e0 ke0 .byte (3 : Int32) [(.int (lat8 x1c)), (.int (lat8 x2c)), (.int (lat8 x3c))] (.int 0)) ∧ (h0.size ≤ e0)
theorem rm5_67 (l : Launch) (Z : State) (a0 : Array Value) (hw : HW a0 Z) (a1c : Addr) (a2c : Addr) (ka2c : ClassId) (x1c : Int32) (x2c : Int32) (x3c : Int32) (x4c : Int32) (h0 : Heap) (n0 : Nat) (Z0 : n0 ≤ h0.size) (P0 : Exa Z h0 a1c "java/lang/String") (P1 : Fld Z h0 a1c "java/lang/String" "coder" "B" (.int 0)) (P2 : Fld Z h0 a1c "java/lang/String" "value" "[B" .null) (P3 : Arv Z h0 a2c ka2c .char (3 : Int32) [(.int x1c), (.int x2c), (.int x3c)] (.int 0)) (P4 : Sta Z h0 "java/lang/String" "COMPACT_STRINGS" "Z" (.int x4c)) (g_a1c : n0 ≤ a1c) (u0 : ¬ (x4c = (0 : Int32))) (u1 : ¬ ((255 : Int32) < x1c)) (u2 : ¬ ((255 : Int32) < x2c)) (u3 : ¬ ((255 : Int32) < x3c)) :
  MM l Z Y5 jdk_42_method_149_code 6 none 2 1 3 35 #[(.ref a1c), (.ref a2c), (.int 0), (.int 3), .null] h0 (Q5_67 Z a1c a2c ka2c x1c x2c x3c x4c h0 n0) := by
 refine own_start (fun m => (mkF m 0 (Sh0 a1c a2c 0 3) [])) (plainFor_of_name pn_java_lang_String) (by simp [entryFrame, mkF, argsToLocals, Value.category]) n0 ?_
 intro p e s m below meth c s₁ Bd hx hby hml hZ hown hnm X0 e0 N0
 refine GoW.sg (mkF m 1 (Sh0 a1c a2c 0 3) [(.ref a1c)]) (fun t k => XS.aloadN X0.here hx rfl (hb hby d5_0) rfl rfl k) ?_
 obtain ⟨T816, X816, e816, st816⟩ := initO X0 hx hZ hown (ww hw 22 rfl) (ww hw 23 rfl) (ww hw 24 rfl) e0 (g := (mkF m 1 (Sh0 a1c a2c 0 3) [(.ref a1c)])) rfl (by rw [hml]; rfl) rfl (hb hby d5_1) (by decide) (W := 0) (by show 2 * 0 + _ ≤ _; exact Nat.le_of_eq rfl) (by decide)
 refine GoW.sg (mkF m 4 (Sh0 a1c a2c 0 3) []) (fun t k => st816 t k) ?_
 refine GoW.sg (mkF m 27 (Sh0 a1c a2c 0 3) []) (fun t k => XS.iloadN X816.here hx rfl (hb hby d5_4) rfl (XS.ifYes X816.here hx rfl (pc0 := 5) (pc' := 27) rfl (hb hby d5_5) rfl (by decide) (by decide) (by decide) k)) ?_
 obtain ⟨T817, X817, e817, st817⟩ := getS (host := "") X816 hx hZ hown (ww hw 47 rfl) Via.refl e816 P4 (g := (mkF m 27 (Sh0 a1c a2c 0 3) [])) rfl (hb hby d5_27)
 refine GoW.sg (mkF m 30 (Sh0 a1c a2c 0 3) [(.int x4c)]) (fun t k => st817 t k) ?_
 refine GoW.sg (mkF m 36 (Sh0 a1c a2c 0 3) [(.int 3), (.int 0), (.ref a2c)]) (fun t k => XS.ifNo X817.here hx rfl (hb hby d5_30) rfl ((if0 _ _).trans (feq u0).1) (XS.aloadN X817.here hx rfl (hb hby d5_33) rfl rfl (XS.iloadN X817.here hx rfl (hb hby d5_34) rfl (XS.iloadN X817.here hx rfl (hb hby d5_35) rfl k)))) ?_
 obtain ⟨_, T826, L826, X826, hQ826, st826⟩ := own_callS X817 hx hZ hown (y := Y10) (ww hw 48 rfl) (ww hw 49 rfl) (ww hw 50 rfl) (ww hw 51 rfl) (by decide) 0 (rm10_65 l Z a0 hw a2c ka2c x1c x2c x3c h0 n0 Z0 P3   u1 u2 u3  ) (by decide) (by decide) e817 (by decide) (by decide) (g := (mkF m 36 (Sh0 a1c a2c 0 3) [(.int 3), (.int 0), (.ref a2c)])) rfl (by rw [hml]; rfl) (argsL := [(.ref a2c), (.int (0 : Int32)), (.int (3 : Int32))]) (rest := []) (lenOf pd_285bCII295bB rfl) rfl (by show 2 * 0 + _ ≤ _; exact Nat.le_of_eq rfl) (hb hby d5_36)
 obtain ⟨b826_e0, k826_ke0, rfl, N826q, K826, p826_0, hz_b826_e0⟩ := hQ826
 have sz_b826_e0 : h0.size ≤ b826_e0 := Nat.le_trans (Keep.refl h0 [a1c]).1 hz_b826_e0
 have ne_a1c_b826_e0 : a1c ≠ b826_e0 := Nat.ne_of_lt (Nat.lt_of_lt_of_le P0.lt hz_b826_e0)
 have N826 := Fr.app N0 N826q
 have f826_1 := P0.keep K826
 have f826_2 := P1.keep K826 nin0
 have f826_3 := P2.keep K826 nin0
 have f826_6 := (Keep.refl h0 [a1c]).trans K826 all0
 refine GoW.sg (mkF m 39 (Sh0 a1c a2c 0 3) [(.ref b826_e0)]) (fun t k => st826 t k) ?_
 refine GoW.sg (mkF m 45 (Sh12 a1c a2c 0 3 b826_e0) [(.int 3), (.ref b826_e0), (.ref a1c)]) (fun t k => XS.astore X826.here hx rfl (hb hby d5_39) rfl rfl (l' := (Sh12 a1c a2c 0 3 b826_e0)) rfl (XS.aloadN X826.here hx rfl (hb hby d5_41) rfl rfl (XS.aload X826.here hx rfl (hb hby d5_42) rfl rfl (XS.iloadN X826.here hx rfl (hb hby d5_44) rfl k)))) ?_
 obtain ⟨_, T828, L828, X828, hQ828, st828⟩ := own_callS X826 hx hZ hown (y := Y12) (ww hw 55 rfl) (ww hw 56 rfl) (ww hw 50 rfl) (ww hw 57 rfl) (by decide) 1 (rm12_66 l Z a0 hw b826_e0 k826_ke0 (lat8 x1c) (lat8 x2c) (lat8 x3c) T826.heap n0  p826_0     ) (by decide) (by decide) rfl (by decide) (by decide) (g := (mkF m 45 (Sh12 a1c a2c 0 3 b826_e0) [(.int 3), (.ref b826_e0), (.ref a1c)])) rfl (by rw [hml]; rfl) (argsL := [(.ref b826_e0), (.int (3 : Int32))]) (rest := [(.ref a1c)]) (lenOf pd_285bBI29B rfl) rfl (by show 2 * 0 + _ ≤ _; exact Nat.le_of_eq rfl) (hb hby d5_45)
 obtain ⟨rfl, N828q, e828⟩ := hQ828
 have N828 := Fr.app N826 N828q
 refine GoW.sg (mkF m 48 (Sh12 a1c a2c 0 3 b826_e0) [(.int 0), (.ref a1c)]) (fun t k => st828 t k) ?_
 obtain ⟨T829, h829, X829, e829, W829, st829⟩ := putF X828 hx hZ hown (host := "") (Or.inl (ww hw 32 rfl)) Via.refl e828 f826_2 f826_1 (Or.inr ⟨(ww hw 28 rfl), rfl, hnm⟩) (ww hw 12 rfl) (ty := .byte) (by decide) rfl rfl (g := (mkF m 48 (Sh12 a1c a2c 0 3 b826_e0) [(.int 0), (.ref a1c)])) rfl rfl (hb hby d5_48)
 have N829 := Fr.snoc X829 N828 g_a1c
 have f829_8 := f826_1.wr W829
 have f829_9 := f826_3.other W829 (Or.inr (slot_ne (t := (.array .byte)) (t' := .byte) (Or.inr (ww hw 27 rfl)) (Or.inr (ww hw 28 rfl)) (by decide) (by decide) (by decide)))
 have f829_11 := f826_6.wr W829 (Or.inl (List.mem_of_getElem? (i := 0) rfl))
 have f829_13 := p826_0.other W829 (Ne.symm ne_a1c_b826_e0)
 have F829coder : Fld Z h829 a1c "java/lang/String" "coder" "B" (.int (0 : Int32)) := f826_2.same W829
 refine GoW.sg (mkF m 51 (Sh12 a1c a2c 0 3 b826_e0) []) (fun t k => st829 t k) ?_
 refine GoW.sg (mkF m 54 (Sh12 a1c a2c 0 3 b826_e0) [(.ref b826_e0), (.ref a1c)]) (fun t k => XS.aloadN X829.here hx rfl (hb hby d5_51) rfl rfl (XS.aload X829.here hx rfl (hb hby d5_52) rfl rfl k)) ?_
 obtain ⟨T830, h830, X830, e830, W830, st830⟩ := putF X829 hx hZ hown (host := "") (Or.inl (ww hw 31 rfl)) Via.refl e829 f829_9 f829_8 (Or.inr ⟨(ww hw 27 rfl), rfl, hnm⟩) (ww hw 12 rfl) (ty := (.array .byte)) (by decide) rfl rfl (g := (mkF m 54 (Sh12 a1c a2c 0 3 b826_e0) [(.ref b826_e0), (.ref a1c)])) rfl rfl (hb hby d5_54)
 have N830 := Fr.snoc X830 N829 g_a1c
 have f830_14 := f829_8.wr W830
 have f830_15 := F829coder.other W830 (Or.inr (slot_ne (t := .byte) (t' := (.array .byte)) (Or.inr (ww hw 28 rfl)) (Or.inr (ww hw 27 rfl)) (by decide) (by decide) (by decide)))
 have f830_17 := f829_11.wr W830 (Or.inl (List.mem_of_getElem? (i := 0) rfl))
 have f830_19 := f829_13.other W830 (Ne.symm ne_a1c_b826_e0)
 have F830value : Fld Z h830 a1c "java/lang/String" "value" "[B" (.ref b826_e0) := f829_9.same W830
 refine GoW.sg (mkF m 57 (Sh12 a1c a2c 0 3 b826_e0) []) (fun t k => st830 t k) ?_
 refine GoW.retV X830 hx Bd.returns (hb hby d5_57) Bd.notSynchronized ?_ (by decide) (by decide)
 rw [e830]
 exact ⟨b826_e0, k826_ke0, rfl, N830, f830_17, f830_14, f830_15, F830value, f830_19, sz_b826_e0⟩
def Q4_69 (Z : State) (a1c : Addr) (a2c : Addr) (ka2c : ClassId) (x1c : Int32) (x2c : Int32) (x3c : Int32) (x4c : Int32) (h0 : Heap) (n0 : Nat) (v : Option Value) (h : Heap) (L : List Loc) : Prop := ∃ e0 : Addr, ∃ ke0 : ClassId, v = none ∧ Fr n0 L ∧ (Keep h0 h [a1c]) ∧ (Exa Z h a1c "java/lang/String") ∧ (Fld Z h a1c "java/lang/String" "coder" "B" (.int 1)) ∧ (Fld Z h a1c "java/lang/String" "value" "[B" (.ref e0)) ∧ (Arv Z h e0 ke0 .byte (6 : Int32) [(.int (lo8 x1c)), (.int (hi8 x1c)), (.int (lo8 x2c)), (.int (hi8 x2c)), (.int (lo8 x3c)), (.int (hi8 x3c))] (.int 0)) ∧ (h0.size ≤ e0)
theorem rm4_69 (l : Launch) (Z : State) (a0 : Array Value) (hw : HW a0 Z) (a1c : Addr) (a2c : Addr) (ka2c : ClassId) (x1c : Int32) (x2c : Int32) (x3c : Int32) (x4c : Int32) (h0 : Heap) (n0 : Nat) (Z0 : n0 ≤ h0.size) (P0 : Exa Z h0 a1c "java/lang/String") (P1 : Fld Z h0 a1c "java/lang/String" "coder" "B" (.int 0)) (P2 : Fld Z h0 a1c "java/lang/String" "value" "[B" .null) (P3 : Arv Z h0 a2c ka2c .char (3 : Int32) [(.int x1c), (.int x2c), (.int x3c)] (.int 0)) (P4 : Sta Z h0 "java/lang/String" "COMPACT_STRINGS" "Z" (.int x4c)) (P5 : Sta Z h0 "java/lang/StringUTF16" "$assertionsDisabled" "Z" (.int 1)) (P6 : Sta Z h0 "java/lang/StringUTF16" "HI_BYTE_SHIFT" "I" (.int 0)) (P7 : Sta Z h0 "java/lang/StringUTF16" "LO_BYTE_SHIFT" "I" (.int 8)) (g_a1c : n0 ≤ a1c) (u0 : ¬ (x1c < (0 : Int32))) (u1 : ¬ ((65535 : Int32) < x1c)) (u2 : ¬ (x4c = (0 : Int32))) (u3 : (255 : Int32) < x1c) :
  MM l Z Y4 jdk_42_method_3_code 2 none 5 2 9 74 #[(.ref a1c), (.ref a2c)] h0 (Q4_69 Z a1c a2c ka2c x1c x2c x3c x4c h0 n0) := by
 refine own_start (fun m => (mkF m 0 #[.val (.ref a1c), .val (.ref a2c)] [])) (plainFor_of_name pn_java_lang_String) (by simp [entryFrame, mkF, argsToLocals, Value.category]) n0 ?_
 intro p e s m below meth c s₁ Bd hx hby hml hZ hown hnm X0 e0 N0
 refine GoW.sg (mkF m 4 #[.val (.ref a1c), .val (.ref a2c)] [(.ref a2c), (.int 0), (.ref a2c), (.ref a1c)]) (fun t k => XS.aloadN X0.here hx rfl (hb hby d4_0) rfl rfl (XS.aloadN X0.here hx rfl (hb hby d4_1) rfl rfl (XS.iconst X0.here hx rfl (hb hby d4_2) (XS.aloadN X0.here hx rfl (hb hby d4_3) rfl rfl k)))) ?_
 obtain ⟨cl842, Ar842, q842, Sz842, Nn842, Hh842, Gg842⟩ := id P3
 have st842 := X0.arraylength hx (hq_ e0 Ar842.1) (State.isArrayOf_alike hZ.alike Ar842.2.1) (g := (mkF m 4 #[.val (.ref a1c), .val (.ref a2c)] [(.ref a2c), (.int 0), (.ref a2c), (.ref a1c)])) rfl rfl (hb hby d4_4)
 rw [len_of Sz842 Nn842] at st842
 refine GoW.sg (mkF m 5 #[.val (.ref a1c), .val (.ref a2c)] [(.int 3), (.int 0), (.ref a2c), (.ref a1c)]) (fun t k => st842 t k) ?_
 refine GoW.sg (mkF m 6 #[.val (.ref a1c), .val (.ref a2c)] [.null, (.int 3), (.int 0), (.ref a2c), (.ref a1c)]) (fun t k => XS.aconstNull X0.here hx rfl (hb hby d4_5) k) ?_
 obtain ⟨_, T843, L843, X843, hQ843, st843⟩ := own_spec X0 hx hZ (y := Y5) rfl hown (ww hw 18 rfl) (ww hw 19 rfl) (ww hw 13 rfl) (ww hw 21 rfl) (by decide) 0 (a := a1c) (rm5_52 l Z a0 hw a1c a2c ka2c x1c x2c x3c x4c h0 n0 Z0 P0 P1 P2 P3 P4 P5 P6 P7 g_a1c  u0 u1 u2 u3  ) (by decide) (by decide) e0 (by decide) (by decide) (g := (mkF m 6 #[.val (.ref a1c), .val (.ref a2c)] [.null, (.int 3), (.int 0), (.ref a2c), (.ref a1c)])) rfl (by rw [hml]; rfl) (argsL := [(.ref a2c), (.int (0 : Int32)), (.int (3 : Int32)), .null]) (rest := []) (lenOf pd_285bCIILjava2flang2fVoid3b29V rfl) rfl (by show 2 * 0 + _ ≤ _; exact Nat.le_of_eq rfl) (hb hby d4_6)
 obtain ⟨b843_e0, k843_ke0, rfl, N843q, K843, p843_0, p843_1, p843_2, p843_3, hz_b843_e0⟩ := hQ843
 have sz_b843_e0 : h0.size ≤ b843_e0 := Nat.le_trans (Keep.refl h0 [a1c]).1 hz_b843_e0
 have N843 := Fr.app N0 N843q
 have f843_5 := (Keep.refl h0 [a1c]).trans K843 (allS (Or.inl (List.mem_of_getElem? (i := 0) rfl)) all0)
 refine GoW.sg (mkF m 9 #[.val (.ref a1c), .val (.ref a2c)] []) (fun t k => st843 t k) ?_
 refine GoW.retV X843 hx Bd.returns (hb hby d4_9) Bd.notSynchronized ?_ (by decide) (by decide)
 exact ⟨b843_e0, k843_ke0, rfl, N843, f843_5, p843_0, p843_1, p843_2, p843_3, sz_b843_e0⟩
def Q4_70 (Z : State) (a1c : Addr) (a2c : Addr) (ka2c : ClassId) (x1c : Int32) (x2c : Int32) (x3c : Int32) (x4c : Int32) (h0 : Heap) (n0 : Nat) (v : Option Value) (h : Heap) (L : List Loc) : Prop := ∃ e0 : Addr, ∃ ke0 : ClassId, v = none ∧ Fr n0 L ∧ (Keep h0 h [a1c]) ∧ (Exa Z h a1c "java/lang/String") ∧ (Fld Z h a1c "java/lang/String" "coder" "B" (.int 1)) ∧ (Fld Z h a1c "java/lang/String" "value" "[B" (.ref e0)) ∧ (Arv Z h e0 ke0 .byte (6 : Int32) [(.int (lo8 x1c)), (.int (hi8 x1c)), (.int (lo8 x2c)), (.int (hi8 x2c)), (.int (lo8 x3c)), (.int (hi8 x3c))] (.int 0)) ∧ (h0.size ≤ e0)
theorem rm4_70 (l : Launch) (Z : State) (a0 : Array Value) (hw : HW a0 Z) (a1c : Addr) (a2c : Addr) (ka2c : ClassId) (x1c : Int32) (x2c : Int32) (x3c : Int32) (x4c : Int32) (h0 : Heap) (n0 : Nat) (Z0 : n0 ≤ h0.size) (P0 : Exa Z h0 a1c "java/lang/String") (P1 : Fld Z h0 a1c "java/lang/String" "coder" "B" (.int 0)) (P2 : Fld Z h0 a1c "java/lang/String" "value" "[B" .null) (P3 : Arv Z h0 a2c ka2c .char (3 : Int32) [(.int x1c), (.int x2c), (.int x3c)] (.int 0)) (P4 : Sta Z h0 "java/lang/String" "COMPACT_STRINGS" "Z" (.int x4c)) (P5 : Sta Z h0 "java/lang/StringUTF16" "$assertionsDisabled" "Z" (.int 1)) (P6 : Sta Z h0 "java/lang/StringUTF16" "HI_BYTE_SHIFT" "I" (.int 0)) (P7 : Sta Z h0 "java/lang/StringUTF16" "LO_BYTE_SHIFT" "I" (.int 8)) (g_a1c : n0 ≤ a1c) (u0 : ¬ (x2c < (0 : Int32))) (u1 : ¬ ((65535 : Int32) < x2c)) (u2 : ¬ (x4c = (0 : Int32))) (u3 : ¬ ((255 : Int32) < x1c)) (u4 : (255 : Int32) < x2c) :
  MM l Z Y4 jdk_42_method_3_code 2 none 5 2 9 74 #[(.ref a1c), (.ref a2c)] h0 (Q4_70 Z a1c a2c ka2c x1c x2c x3c x4c h0 n0) := by
 refine own_start (fun m => (mkF m 0 #[.val (.ref a1c), .val (.ref a2c)] [])) (plainFor_of_name pn_java_lang_String) (by simp [entryFrame, mkF, argsToLocals, Value.category]) n0 ?_
 intro p e s m below meth c s₁ Bd hx hby hml hZ hown hnm X0 e0 N0
 refine GoW.sg (mkF m 4 #[.val (.ref a1c), .val (.ref a2c)] [(.ref a2c), (.int 0), (.ref a2c), (.ref a1c)]) (fun t k => XS.aloadN X0.here hx rfl (hb hby d4_0) rfl rfl (XS.aloadN X0.here hx rfl (hb hby d4_1) rfl rfl (XS.iconst X0.here hx rfl (hb hby d4_2) (XS.aloadN X0.here hx rfl (hb hby d4_3) rfl rfl k)))) ?_
 obtain ⟨cl846, Ar846, q846, Sz846, Nn846, Hh846, Gg846⟩ := id P3
 have st846 := X0.arraylength hx (hq_ e0 Ar846.1) (State.isArrayOf_alike hZ.alike Ar846.2.1) (g := (mkF m 4 #[.val (.ref a1c), .val (.ref a2c)] [(.ref a2c), (.int 0), (.ref a2c), (.ref a1c)])) rfl rfl (hb hby d4_4)
 rw [len_of Sz846 Nn846] at st846
 refine GoW.sg (mkF m 5 #[.val (.ref a1c), .val (.ref a2c)] [(.int 3), (.int 0), (.ref a2c), (.ref a1c)]) (fun t k => st846 t k) ?_
 refine GoW.sg (mkF m 6 #[.val (.ref a1c), .val (.ref a2c)] [.null, (.int 3), (.int 0), (.ref a2c), (.ref a1c)]) (fun t k => XS.aconstNull X0.here hx rfl (hb hby d4_5) k) ?_
 obtain ⟨_, T847, L847, X847, hQ847, st847⟩ := own_spec X0 hx hZ (y := Y5) rfl hown (ww hw 18 rfl) (ww hw 19 rfl) (ww hw 13 rfl) (ww hw 21 rfl) (by decide) 0 (a := a1c) (rm5_57 l Z a0 hw a1c a2c ka2c x1c x2c x3c x4c h0 n0 Z0 P0 P1 P2 P3 P4 P5 P6 P7 g_a1c  u0 u1 u2 u3 u4  ) (by decide) (by decide) e0 (by decide) (by decide) (g := (mkF m 6 #[.val (.ref a1c), .val (.ref a2c)] [.null, (.int 3), (.int 0), (.ref a2c), (.ref a1c)])) rfl (by rw [hml]; rfl) (argsL := [(.ref a2c), (.int (0 : Int32)), (.int (3 : Int32)), .null]) (rest := []) (lenOf pd_285bCIILjava2flang2fVoid3b29V rfl) rfl (by show 2 * 0 + _ ≤ _; exact Nat.le_of_eq rfl) (hb hby d4_6)
 obtain ⟨b847_e0, k847_ke0, rfl, N847q, K847, p847_0, p847_1, p847_2, p847_3, hz_b847_e0⟩ := hQ847
 have sz_b847_e0 : h0.size ≤ b847_e0 := Nat.le_trans (Keep.refl h0 [a1c]).1 hz_b847_e0
 have N847 := Fr.app N0 N847q
 have f847_5 := (Keep.refl h0 [a1c]).trans K847 (allS (Or.inl (List.mem_of_getElem? (i := 0) rfl)) all0)
 refine GoW.sg (mkF m 9 #[.val (.ref a1c), .val (.ref a2c)] []) (fun t k => st847 t k) ?_
 refine GoW.retV X847 hx Bd.returns (hb hby d4_9) Bd.notSynchronized ?_ (by decide) (by decide)
 exact ⟨b847_e0, k847_ke0, rfl, N847, f847_5, p847_0, p847_1, p847_2, p847_3, sz_b847_e0⟩
def Q4_71 (Z : State) (a1c : Addr) (a2c : Addr) (ka2c : ClassId) (x1c : Int32) (x2c : Int32) (x3c : Int32) (x4c : Int32) (h0 : Heap) (n0 : Nat) (v : Option Value) (h : Heap) (L : List Loc) : Prop := ∃ e0 : Addr, ∃ ke0 : ClassId, v = none ∧ Fr n0 L ∧ (Keep h0 h [a1c]) ∧ (Exa Z h a1c "java/lang/String") ∧ (Fld Z h a1c "java/lang/String" "coder" "B" (.int 1)) ∧ (Fld Z h a1c "java/lang/String" "value" "[B" (.ref e0)) ∧ (Arv Z h e0 ke0 .byte (6 : Int32) [(.int (lo8 x1c)), (.int (hi8 x1c)), (.int (lo8 x2c)), (.int (hi8 x2c)), (.int (lo8 x3c)), (.int (hi8 x3c))] (.int 0)) ∧ (h0.size ≤ e0)
theorem rm4_71 (l : Launch) (Z : State) (a0 : Array Value) (hw : HW a0 Z) (a1c : Addr) (a2c : Addr) (ka2c : ClassId) (x1c : Int32) (x2c : Int32) (x3c : Int32) (x4c : Int32) (h0 : Heap) (n0 : Nat) (Z0 : n0 ≤ h0.size) (P0 : Exa Z h0 a1c "java/lang/String") (P1 : Fld Z h0 a1c "java/lang/String" "coder" "B" (.int 0)) (P2 : Fld Z h0 a1c "java/lang/String" "value" "[B" .null) (P3 : Arv Z h0 a2c ka2c .char (3 : Int32) [(.int x1c), (.int x2c), (.int x3c)] (.int 0)) (P4 : Sta Z h0 "java/lang/String" "COMPACT_STRINGS" "Z" (.int x4c)) (P5 : Sta Z h0 "java/lang/StringUTF16" "$assertionsDisabled" "Z" (.int 1)) (P6 : Sta Z h0 "java/lang/StringUTF16" "HI_BYTE_SHIFT" "I" (.int 0)) (P7 : Sta Z h0 "java/lang/StringUTF16" "LO_BYTE_SHIFT" "I" (.int 8)) (g_a1c : n0 ≤ a1c) (u0 : ¬ (x3c < (0 : Int32))) (u1 : ¬ ((65535 : Int32) < x3c)) (u2 : ¬ (x4c = (0 : Int32))) (u3 : ¬ ((255 : Int32) < x1c)) (u4 : ¬ ((255 : Int32) < x2c)) (u5 : (255 : Int32) < x3c) :
  MM l Z Y4 jdk_42_method_3_code 2 none 5 2 9 74 #[(.ref a1c), (.ref a2c)] h0 (Q4_71 Z a1c a2c ka2c x1c x2c x3c x4c h0 n0) := by
 refine own_start (fun m => (mkF m 0 #[.val (.ref a1c), .val (.ref a2c)] [])) (plainFor_of_name pn_java_lang_String) (by simp [entryFrame, mkF, argsToLocals, Value.category]) n0 ?_
 intro p e s m below meth c s₁ Bd hx hby hml hZ hown hnm X0 e0 N0
 refine GoW.sg (mkF m 4 #[.val (.ref a1c), .val (.ref a2c)] [(.ref a2c), (.int 0), (.ref a2c), (.ref a1c)]) (fun t k => XS.aloadN X0.here hx rfl (hb hby d4_0) rfl rfl (XS.aloadN X0.here hx rfl (hb hby d4_1) rfl rfl (XS.iconst X0.here hx rfl (hb hby d4_2) (XS.aloadN X0.here hx rfl (hb hby d4_3) rfl rfl k)))) ?_
 obtain ⟨cl850, Ar850, q850, Sz850, Nn850, Hh850, Gg850⟩ := id P3
 have st850 := X0.arraylength hx (hq_ e0 Ar850.1) (State.isArrayOf_alike hZ.alike Ar850.2.1) (g := (mkF m 4 #[.val (.ref a1c), .val (.ref a2c)] [(.ref a2c), (.int 0), (.ref a2c), (.ref a1c)])) rfl rfl (hb hby d4_4)
 rw [len_of Sz850 Nn850] at st850
 refine GoW.sg (mkF m 5 #[.val (.ref a1c), .val (.ref a2c)] [(.int 3), (.int 0), (.ref a2c), (.ref a1c)]) (fun t k => st850 t k) ?_
 refine GoW.sg (mkF m 6 #[.val (.ref a1c), .val (.ref a2c)] [.null, (.int 3), (.int 0), (.ref a2c), (.ref a1c)]) (fun t k => XS.aconstNull X0.here hx rfl (hb hby d4_5) k) ?_
 obtain ⟨_, T851, L851, X851, hQ851, st851⟩ := own_spec X0 hx hZ (y := Y5) rfl hown (ww hw 18 rfl) (ww hw 19 rfl) (ww hw 13 rfl) (ww hw 21 rfl) (by decide) 0 (a := a1c) (rm5_62 l Z a0 hw a1c a2c ka2c x1c x2c x3c x4c h0 n0 Z0 P0 P1 P2 P3 P4 P5 P6 P7 g_a1c  u0 u1 u2 u3 u4 u5  ) (by decide) (by decide) e0 (by decide) (by decide) (g := (mkF m 6 #[.val (.ref a1c), .val (.ref a2c)] [.null, (.int 3), (.int 0), (.ref a2c), (.ref a1c)])) rfl (by rw [hml]; rfl) (argsL := [(.ref a2c), (.int (0 : Int32)), (.int (3 : Int32)), .null]) (rest := []) (lenOf pd_285bCIILjava2flang2fVoid3b29V rfl) rfl (by show 2 * 0 + _ ≤ _; exact Nat.le_of_eq rfl) (hb hby d4_6)
 obtain ⟨b851_e0, k851_ke0, rfl, N851q, K851, p851_0, p851_1, p851_2, p851_3, hz_b851_e0⟩ := hQ851
 have sz_b851_e0 : h0.size ≤ b851_e0 := Nat.le_trans (Keep.refl h0 [a1c]).1 hz_b851_e0
 have N851 := Fr.app N0 N851q
 have f851_5 := (Keep.refl h0 [a1c]).trans K851 (allS (Or.inl (List.mem_of_getElem? (i := 0) rfl)) all0)
 refine GoW.sg (mkF m 9 #[.val (.ref a1c), .val (.ref a2c)] []) (fun t k => st851 t k) ?_
 refine GoW.retV X851 hx Bd.returns (hb hby d4_9) Bd.notSynchronized ?_ (by decide) (by decide)
 exact ⟨b851_e0, k851_ke0, rfl, N851, f851_5, p851_0, p851_1, p851_2, p851_3, sz_b851_e0⟩
def Q4_72 (Z : State) (a1c : Addr) (a2c : Addr) (ka2c : ClassId) (x1c : Int32) (x2c : Int32) (x3c : Int32) (x4c : Int32) (h0 : Heap) (n0 : Nat) (v : Option Value) (h : Heap) (L : List Loc) : Prop := ∃ e0 : Addr, ∃ ke0 : ClassId, v = none ∧ Fr n0 L ∧ (Keep h0 h [a1c]) ∧ (Exa Z h a1c "java/lang/String") ∧ (Fld Z h a1c "java/lang/String" "coder" "B" (.int 0)) ∧ (Fld Z h a1c "java/lang/String" "value" "[B" (.ref e0)) ∧ (Arv Z h e0 ke0 .byte (3 : Int32) [(.int (lat8 x1c)), (.int (lat8 x2c)), (.int (lat8 x3c))] (.int 0)) ∧ (h0.size ≤ e0)
theorem rm4_72 (l : Launch) (Z : State) (a0 : Array Value) (hw : HW a0 Z) (a1c : Addr) (a2c : Addr) (ka2c : ClassId) (x1c : Int32) (x2c : Int32) (x3c : Int32) (x4c : Int32) (h0 : Heap) (n0 : Nat) (Z0 : n0 ≤ h0.size) (P0 : Exa Z h0 a1c "java/lang/String") (P1 : Fld Z h0 a1c "java/lang/String" "coder" "B" (.int 0)) (P2 : Fld Z h0 a1c "java/lang/String" "value" "[B" .null) (P3 : Arv Z h0 a2c ka2c .char (3 : Int32) [(.int x1c), (.int x2c), (.int x3c)] (.int 0)) (P4 : Sta Z h0 "java/lang/String" "COMPACT_STRINGS" "Z" (.int x4c)) (g_a1c : n0 ≤ a1c) (u0 : ¬ (x4c = (0 : Int32))) (u1 : ¬ ((255 : Int32) < x1c)) (u2 : ¬ ((255 : Int32) < x2c)) (u3 : ¬ ((255 : Int32) < x3c)) :
  MM l Z Y4 jdk_42_method_3_code 2 none 5 2 9 74 #[(.ref a1c), (.ref a2c)] h0 (Q4_72 Z a1c a2c ka2c x1c x2c x3c x4c h0 n0) := by
 refine own_start (fun m => (mkF m 0 #[.val (.ref a1c), .val (.ref a2c)] [])) (plainFor_of_name pn_java_lang_String) (by simp [entryFrame, mkF, argsToLocals, Value.category]) n0 ?_
 intro p e s m below meth c s₁ Bd hx hby hml hZ hown hnm X0 e0 N0
 refine GoW.sg (mkF m 4 #[.val (.ref a1c), .val (.ref a2c)] [(.ref a2c), (.int 0), (.ref a2c), (.ref a1c)]) (fun t k => XS.aloadN X0.here hx rfl (hb hby d4_0) rfl rfl (XS.aloadN X0.here hx rfl (hb hby d4_1) rfl rfl (XS.iconst X0.here hx rfl (hb hby d4_2) (XS.aloadN X0.here hx rfl (hb hby d4_3) rfl rfl k)))) ?_
 obtain ⟨cl854, Ar854, q854, Sz854, Nn854, Hh854, Gg854⟩ := id P3
 have st854 := X0.arraylength hx (hq_ e0 Ar854.1) (State.isArrayOf_alike hZ.alike Ar854.2.1) (g := (mkF m 4 #[.val (.ref a1c), .val (.ref a2c)] [(.ref a2c), (.int 0), (.ref a2c), (.ref a1c)])) rfl rfl (hb hby d4_4)
 rw [len_of Sz854 Nn854] at st854
 refine GoW.sg (mkF m 5 #[.val (.ref a1c), .val (.ref a2c)] [(.int 3), (.int 0), (.ref a2c), (.ref a1c)]) (fun t k => st854 t k) ?_
 refine GoW.sg (mkF m 6 #[.val (.ref a1c), .val (.ref a2c)] [.null, (.int 3), (.int 0), (.ref a2c), (.ref a1c)]) (fun t k => XS.aconstNull X0.here hx rfl (hb hby d4_5) k) ?_
 obtain ⟨_, T855, L855, X855, hQ855, st855⟩ := own_spec X0 hx hZ (y := Y5) rfl hown (ww hw 18 rfl) (ww hw 19 rfl) (ww hw 13 rfl) (ww hw 21 rfl) (by decide) 0 (a := a1c) (rm5_67 l Z a0 hw a1c a2c ka2c x1c x2c x3c x4c h0 n0 Z0 P0 P1 P2 P3 P4 g_a1c  u0 u1 u2 u3  ) (by decide) (by decide) e0 (by decide) (by decide) (g := (mkF m 6 #[.val (.ref a1c), .val (.ref a2c)] [.null, (.int 3), (.int 0), (.ref a2c), (.ref a1c)])) rfl (by rw [hml]; rfl) (argsL := [(.ref a2c), (.int (0 : Int32)), (.int (3 : Int32)), .null]) (rest := []) (lenOf pd_285bCIILjava2flang2fVoid3b29V rfl) rfl (by show 2 * 0 + _ ≤ _; exact Nat.le_of_eq rfl) (hb hby d4_6)
 obtain ⟨b855_e0, k855_ke0, rfl, N855q, K855, p855_0, p855_1, p855_2, p855_3, hz_b855_e0⟩ := hQ855
 have sz_b855_e0 : h0.size ≤ b855_e0 := Nat.le_trans (Keep.refl h0 [a1c]).1 hz_b855_e0
 have N855 := Fr.app N0 N855q
 have f855_2 := (Keep.refl h0 [a1c]).trans K855 (allS (Or.inl (List.mem_of_getElem? (i := 0) rfl)) all0)
 refine GoW.sg (mkF m 9 #[.val (.ref a1c), .val (.ref a2c)] []) (fun t k => st855 t k) ?_
 refine GoW.retV X855 hx Bd.returns (hb hby d4_9) Bd.notSynchronized ?_ (by decide) (by decide)
 exact ⟨b855_e0, k855_ke0, rfl, N855, f855_2, p855_0, p855_1, p855_2, p855_3, sz_b855_e0⟩
def QS3 (Z : State) (a1 : Addr) (c0 : Int32) (c1 : Int32) (c2 : Int32) (h0 : Heap) (n0 : Nat) (v : Option Value) (h : Heap) (L : List Loc) : Prop := v = none ∧ Fr n0 L ∧ Keep h0 h [a1] ∧ Exa Z h a1 "java/lang/String" ∧ Str3 Z h a1 c0 c1 c2
theorem rmS3 (l : Launch) (Z : State) (a0 : Array Value) (hw : HW a0 Z) (a1 a2 : Addr) (k2 : ClassId) (c0 : Int32) (c1 : Int32) (c2 : Int32) (cs : Int32) (h0 : Heap) (n0 : Nat) (Z0 : n0 ≤ h0.size) (PE : Exa Z h0 a1 "java/lang/String") (PV : Fld Z h0 a1 "java/lang/String" "value" "[B" .null) (PK : Fld Z h0 a1 "java/lang/String" "coder" "B" (.int (0 : Int32))) (PR : Arv Z h0 a2 k2 .char (3 : Int32) [(.int c0), (.int c1), (.int c2)] (.int (0 : Int32))) (PC : Sta Z h0 "java/lang/String" "COMPACT_STRINGS" "Z" (.int cs)) (PA : Sta Z h0 "java/lang/StringUTF16" "$assertionsDisabled" "Z" (.int (1 : Int32))) (PH : Sta Z h0 "java/lang/StringUTF16" "HI_BYTE_SHIFT" "I" (.int (0 : Int32))) (PL : Sta Z h0 "java/lang/StringUTF16" "LO_BYTE_SHIFT" "I" (.int (8 : Int32))) (g_a1 : n0 ≤ a1) (ne_a1_a2 : a1 ≠ a2) (lo_c0 : ¬ (c0 < (0 : Int32))) (hi_c0 : ¬ ((65535 : Int32) < c0)) (lo_c1 : ¬ (c1 < (0 : Int32))) (hi_c1 : ¬ ((65535 : Int32) < c1)) (lo_c2 : ¬ (c2 < (0 : Int32))) (hi_c2 : ¬ ((65535 : Int32) < c2)) (ncs : ¬ (cs = (0 : Int32))) :
  MM l Z Y4 jdk_42_method_3_code 2 none 5 2 9 74 #[(.ref a1), (.ref a2)] h0 (QS3 Z a1 c0 c1 c2 h0 n0) := by
  by_cases b0 : (255 : Int32) < c0
  · exact (rm4_69 l Z a0 hw a1 a2 k2 c0 c1 c2 cs h0 n0 Z0 PE PK PV PR PC PA PH PL g_a1  lo_c0 hi_c0 ncs b0).mono (fun _ _ h => h) (fun _ _ _ _ _ h => h) (fun _ _ _ _ _ h => by obtain ⟨v, L, q1, ⟨e0, ke0, xr, xN, xK, xE, xC, xV, xA, _⟩, q3⟩ := h; exact ⟨v, L, q1, ⟨xr, xN, xK, xE, Or.inr ⟨e0, ke0, xV, xC, xA⟩⟩, q3⟩)
  · skip
    by_cases b1 : (255 : Int32) < c1
    · exact (rm4_70 l Z a0 hw a1 a2 k2 c0 c1 c2 cs h0 n0 Z0 PE PK PV PR PC PA PH PL g_a1  lo_c1 hi_c1 ncs b0 b1).mono (fun _ _ h => h) (fun _ _ _ _ _ h => h) (fun _ _ _ _ _ h => by obtain ⟨v, L, q1, ⟨e0, ke0, xr, xN, xK, xE, xC, xV, xA, _⟩, q3⟩ := h; exact ⟨v, L, q1, ⟨xr, xN, xK, xE, Or.inr ⟨e0, ke0, xV, xC, xA⟩⟩, q3⟩)
    · skip
      by_cases b2 : (255 : Int32) < c2
      · exact (rm4_71 l Z a0 hw a1 a2 k2 c0 c1 c2 cs h0 n0 Z0 PE PK PV PR PC PA PH PL g_a1  lo_c2 hi_c2 ncs b0 b1 b2).mono (fun _ _ h => h) (fun _ _ _ _ _ h => h) (fun _ _ _ _ _ h => by obtain ⟨v, L, q1, ⟨e0, ke0, xr, xN, xK, xE, xC, xV, xA, _⟩, q3⟩ := h; exact ⟨v, L, q1, ⟨xr, xN, xK, xE, Or.inr ⟨e0, ke0, xV, xC, xA⟩⟩, q3⟩)
      · skip
        exact (rm4_72 l Z a0 hw a1 a2 k2 c0 c1 c2 cs h0 n0 Z0 PE PK PV PR PC g_a1  ncs b0 b1 b2).mono (fun _ _ h => h) (fun _ _ _ _ _ h => h) (fun _ _ _ _ _ h => by obtain ⟨v, L, q1, ⟨e0, ke0, xr, xN, xK, xE, xC, xV, xA, _⟩, q3⟩ := h; exact ⟨v, L, q1, ⟨xr, xN, xK, xE, Or.inl ⟨e0, ke0, xV, xC, xA, b0, b1, b2⟩⟩, q3⟩)
def NoneQ (h0 : Heap) (n0 : Nat) (v : Option Value) (h : Heap) (L : List Loc) : Prop := v = none ∧ Fr n0 L ∧ h = h0
def Q25_73 (Z : State)  (h0 : Heap) (n0 : Nat) (v : Option Value) (h : Heap) (L : List Loc) : Prop := v = some (.int 0) ∧ Fr n0 L ∧ (h = h0)
theorem rm25_73 (l : Launch) (Z : State) (a0 : Array Value) (hw : HW a0 Z) (h0 : Heap) (n0 : Nat) :
  MM l Z Y25 jdk_41_method_11_code 3 (some .int) 0 0 0 0 #[(.int 0), (.int 1), .null] h0 (Q25_73 Z  h0 n0) := by
 refine own_start (fun m => (mkF m 0 (Sh13 0 1) [])) (plainFor_of_name pn_jdk_internal_util_Preconditions) (by simp [entryFrame, mkF, argsToLocals, Value.category]) n0 ?_
 intro p e s m below meth c s₁ Bd hx hby hml hZ hown hnm X0 e0 N0
 refine GoW.sg (mkF m 17 (Sh13 0 1) [(.int 0)]) (fun t k => XS.iloadN X0.here hx rfl (hb hby d25_0) rfl (XS.ifNo X0.here hx rfl (hb hby d25_1) rfl (by decide) (XS.iloadN X0.here hx rfl (hb hby d25_4) rfl (XS.iloadN X0.here hx rfl (hb hby d25_5) rfl (XS.icmpYes X0.here hx rfl (pc0 := 6) (pc' := 16) rfl (hb hby d25_6) rfl (by decide) (by decide) (by decide) (XS.iloadN X0.here hx rfl (hb hby d25_16) rfl k)))))) ?_
 refine GoW.retI X0 hx Bd.returns (hb hby d25_17) Bd.notSynchronized ?_ (by decide) (by decide)
 rw [e0]
 exact ⟨rfl, N0, rfl⟩
def Q25_75 (Z : State) (a1c : Addr) (h0 : Heap) (n0 : Nat) (v : Option Value) (h : Heap) (L : List Loc) : Prop := v = some (.int 0) ∧ Fr n0 L ∧ (h = h0)
theorem rm25_75 (l : Launch) (Z : State) (a0 : Array Value) (hw : HW a0 Z) (a1c : Addr) (h0 : Heap) (n0 : Nat) :
  MM l Z Y25 jdk_41_method_11_code 3 (some .int) 0 0 0 0 #[(.int 0), (.int 1), (.ref a1c)] h0 (Q25_75 Z a1c h0 n0) := by
 refine own_start (fun m => (mkF m 0 (Sh14 0 1 a1c) [])) (plainFor_of_name pn_jdk_internal_util_Preconditions) (by simp [entryFrame, mkF, argsToLocals, Value.category]) n0 ?_
 intro p e s m below meth c s₁ Bd hx hby hml hZ hown hnm X0 e0 N0
 refine GoW.sg (mkF m 17 (Sh14 0 1 a1c) [(.int 0)]) (fun t k => XS.iloadN X0.here hx rfl (hb hby d25_0) rfl (XS.ifNo X0.here hx rfl (hb hby d25_1) rfl (by decide) (XS.iloadN X0.here hx rfl (hb hby d25_4) rfl (XS.iloadN X0.here hx rfl (hb hby d25_5) rfl (XS.icmpYes X0.here hx rfl (pc0 := 6) (pc' := 16) rfl (hb hby d25_6) rfl (by decide) (by decide) (by decide) (XS.iloadN X0.here hx rfl (hb hby d25_16) rfl k)))))) ?_
 refine GoW.retI X0 hx Bd.returns (hb hby d25_17) Bd.notSynchronized ?_ (by decide) (by decide)
 rw [e0]
 exact ⟨rfl, N0, rfl⟩
def Q24_77 (Z : State)  (h0 : Heap) (n0 : Nat) (v : Option Value) (h : Heap) (L : List Loc) : Prop := v = none ∧ Fr n0 L ∧ (h = h0)
theorem rm24_77 (l : Launch) (Z : State) (a0 : Array Value) (hw : HW a0 Z) (h0 : Heap) (n0 : Nat) (P0 : Sta Z h0 "jdk/internal/util/Preconditions" "SIOOBE_FORMATTER" "Ljava/util/function/BiFunction;" .null) :
  MM l Z Y24 jdk_42_method_155_code 2 none 1 0 0 14 #[(.int 0), (.int 1)] h0 (Q24_77 Z  h0 n0) := by
 refine own_start (fun m => (mkF m 0 #[.val (.int 0), .val (.int 1)] [])) (plainFor_of_name pn_java_lang_String) (by simp [entryFrame, mkF, argsToLocals, Value.category]) n0 ?_
 intro p e s m below meth c s₁ Bd hx hby hml hZ hown hnm X0 e0 N0
 refine GoW.sg (mkF m 2 #[.val (.int 0), .val (.int 1)] [(.int 1), (.int 0)]) (fun t k => XS.iloadN X0.here hx rfl (hb hby d24_0) rfl (XS.iloadN X0.here hx rfl (hb hby d24_1) rfl k)) ?_
 obtain ⟨T866, X866, e866, st866⟩ := getS (host := "") X0 hx hZ hown (ww hw 102 rfl) Via.refl e0 P0 (g := (mkF m 2 #[.val (.int 0), .val (.int 1)] [(.int 1), (.int 0)])) rfl (hb hby d24_2)
 refine GoW.sg (mkF m 5 #[.val (.int 0), .val (.int 1)] [.null, (.int 1), (.int 0)]) (fun t k => st866 t k) ?_
 obtain ⟨_, T867, L867, X867, hQ867, st867⟩ := own_callS X866 hx hZ hown (y := Y25) (ww hw 104 rfl) (ww hw 105 rfl) (ww hw 103 rfl) (ww hw 106 rfl) (by decide) 0 (rm25_73 l Z a0 hw   h0 n0       ) (by decide) (by decide) e866 (by decide) (by decide) (g := (mkF m 5 #[.val (.int 0), .val (.int 1)] [.null, (.int 1), (.int 0)])) rfl (by rw [hml]; rfl) (argsL := [(.int (0 : Int32)), (.int (1 : Int32)), .null]) (rest := []) (lenOf pd_28IILjava2futil2ffunction2fBiFunction3b29I rfl) rfl (by show 2 * 0 + _ ≤ _; exact Nat.le_of_eq rfl) (hb hby d24_5)
 obtain ⟨rfl, N867q, e867⟩ := hQ867
 have N867 := Fr.app N0 N867q
 refine GoW.sg (mkF m 8 #[.val (.int 0), .val (.int 1)] [(.int 0)]) (fun t k => st867 t k) ?_
 refine GoW.sg (mkF m 9 #[.val (.int 0), .val (.int 1)] []) (fun t k => XS.pop X867.here hx rfl (hb hby d24_8) rfl rfl k) ?_
 refine GoW.retV X867 hx Bd.returns (hb hby d24_9) Bd.notSynchronized ?_ (by decide) (by decide)
 rw [e867]
 exact ⟨rfl, N867, rfl⟩
def Q24_78 (Z : State) (a1c : Addr) (h0 : Heap) (n0 : Nat) (v : Option Value) (h : Heap) (L : List Loc) : Prop := v = none ∧ Fr n0 L ∧ (h = h0)
theorem rm24_78 (l : Launch) (Z : State) (a0 : Array Value) (hw : HW a0 Z) (a1c : Addr) (h0 : Heap) (n0 : Nat) (P0 : Sta Z h0 "jdk/internal/util/Preconditions" "SIOOBE_FORMATTER" "Ljava/util/function/BiFunction;" (.ref a1c)) :
  MM l Z Y24 jdk_42_method_155_code 2 none 1 0 0 14 #[(.int 0), (.int 1)] h0 (Q24_78 Z a1c h0 n0) := by
 refine own_start (fun m => (mkF m 0 #[.val (.int 0), .val (.int 1)] [])) (plainFor_of_name pn_java_lang_String) (by simp [entryFrame, mkF, argsToLocals, Value.category]) n0 ?_
 intro p e s m below meth c s₁ Bd hx hby hml hZ hown hnm X0 e0 N0
 refine GoW.sg (mkF m 2 #[.val (.int 0), .val (.int 1)] [(.int 1), (.int 0)]) (fun t k => XS.iloadN X0.here hx rfl (hb hby d24_0) rfl (XS.iloadN X0.here hx rfl (hb hby d24_1) rfl k)) ?_
 obtain ⟨T870, X870, e870, st870⟩ := getS (host := "") X0 hx hZ hown (ww hw 102 rfl) Via.refl e0 P0 (g := (mkF m 2 #[.val (.int 0), .val (.int 1)] [(.int 1), (.int 0)])) rfl (hb hby d24_2)
 refine GoW.sg (mkF m 5 #[.val (.int 0), .val (.int 1)] [(.ref a1c), (.int 1), (.int 0)]) (fun t k => st870 t k) ?_
 obtain ⟨_, T871, L871, X871, hQ871, st871⟩ := own_callS X870 hx hZ hown (y := Y25) (ww hw 104 rfl) (ww hw 105 rfl) (ww hw 103 rfl) (ww hw 106 rfl) (by decide) 0 (rm25_75 l Z a0 hw a1c  h0 n0       ) (by decide) (by decide) e870 (by decide) (by decide) (g := (mkF m 5 #[.val (.int 0), .val (.int 1)] [(.ref a1c), (.int 1), (.int 0)])) rfl (by rw [hml]; rfl) (argsL := [(.int (0 : Int32)), (.int (1 : Int32)), (.ref a1c)]) (rest := []) (lenOf pd_28IILjava2futil2ffunction2fBiFunction3b29I rfl) rfl (by show 2 * 0 + _ ≤ _; exact Nat.le_of_eq rfl) (hb hby d24_5)
 obtain ⟨rfl, N871q, e871⟩ := hQ871
 have N871 := Fr.app N0 N871q
 refine GoW.sg (mkF m 8 #[.val (.int 0), .val (.int 1)] [(.int 0)]) (fun t k => st871 t k) ?_
 refine GoW.sg (mkF m 9 #[.val (.int 0), .val (.int 1)] []) (fun t k => XS.pop X871.here hx rfl (hb hby d24_8) rfl rfl k) ?_
 refine GoW.retV X871 hx Bd.returns (hb hby d24_9) Bd.notSynchronized ?_ (by decide) (by decide)
 rw [e871]
 exact ⟨rfl, N871, rfl⟩
theorem rmCk01 (l : Launch) (Z : State) (a0 : Array Value) (hw : HW a0 Z) (vf : Value) (h0 : Heap) (n0 : Nat) (PF : Sta Z h0 "jdk/internal/util/Preconditions" "SIOOBE_FORMATTER" "Ljava/util/function/BiFunction;" vf) (hvf : Value.isRef vf = true) :
  MM l Z Y24 jdk_42_method_155_code 2 none 1 0 0 14 #[.int 0, .int 1] h0 (NoneQ h0 n0) := by
  rcases ref_cases hvf with rfl | ⟨af, rfl⟩
  · exact (rm24_77 l Z a0 hw   h0 n0  PF   ).mono (fun _ _ h => h) (fun _ _ _ _ _ h => h) (fun _ _ _ _ _ h => h)
  · exact (rm24_78 l Z a0 hw  af h0 n0  PF   ).mono (fun _ _ h => h) (fun _ _ _ _ _ h => h) (fun _ _ _ _ _ h => h)
def Q25_79 (Z : State)  (h0 : Heap) (n0 : Nat) (v : Option Value) (h : Heap) (L : List Loc) : Prop := v = some (.int 0) ∧ Fr n0 L ∧ (h = h0)
theorem rm25_79 (l : Launch) (Z : State) (a0 : Array Value) (hw : HW a0 Z) (h0 : Heap) (n0 : Nat) :
  MM l Z Y25 jdk_41_method_11_code 3 (some .int) 0 0 0 0 #[(.int 0), (.int 2), .null] h0 (Q25_79 Z  h0 n0) := by
 refine own_start (fun m => (mkF m 0 (Sh13 0 2) [])) (plainFor_of_name pn_jdk_internal_util_Preconditions) (by simp [entryFrame, mkF, argsToLocals, Value.category]) n0 ?_
 intro p e s m below meth c s₁ Bd hx hby hml hZ hown hnm X0 e0 N0
 refine GoW.sg (mkF m 17 (Sh13 0 2) [(.int 0)]) (fun t k => XS.iloadN X0.here hx rfl (hb hby d25_0) rfl (XS.ifNo X0.here hx rfl (hb hby d25_1) rfl (by decide) (XS.iloadN X0.here hx rfl (hb hby d25_4) rfl (XS.iloadN X0.here hx rfl (hb hby d25_5) rfl (XS.icmpYes X0.here hx rfl (pc0 := 6) (pc' := 16) rfl (hb hby d25_6) rfl (by decide) (by decide) (by decide) (XS.iloadN X0.here hx rfl (hb hby d25_16) rfl k)))))) ?_
 refine GoW.retI X0 hx Bd.returns (hb hby d25_17) Bd.notSynchronized ?_ (by decide) (by decide)
 rw [e0]
 exact ⟨rfl, N0, rfl⟩
def Q25_81 (Z : State) (a1c : Addr) (h0 : Heap) (n0 : Nat) (v : Option Value) (h : Heap) (L : List Loc) : Prop := v = some (.int 0) ∧ Fr n0 L ∧ (h = h0)
theorem rm25_81 (l : Launch) (Z : State) (a0 : Array Value) (hw : HW a0 Z) (a1c : Addr) (h0 : Heap) (n0 : Nat) :
  MM l Z Y25 jdk_41_method_11_code 3 (some .int) 0 0 0 0 #[(.int 0), (.int 2), (.ref a1c)] h0 (Q25_81 Z a1c h0 n0) := by
 refine own_start (fun m => (mkF m 0 (Sh14 0 2 a1c) [])) (plainFor_of_name pn_jdk_internal_util_Preconditions) (by simp [entryFrame, mkF, argsToLocals, Value.category]) n0 ?_
 intro p e s m below meth c s₁ Bd hx hby hml hZ hown hnm X0 e0 N0
 refine GoW.sg (mkF m 17 (Sh14 0 2 a1c) [(.int 0)]) (fun t k => XS.iloadN X0.here hx rfl (hb hby d25_0) rfl (XS.ifNo X0.here hx rfl (hb hby d25_1) rfl (by decide) (XS.iloadN X0.here hx rfl (hb hby d25_4) rfl (XS.iloadN X0.here hx rfl (hb hby d25_5) rfl (XS.icmpYes X0.here hx rfl (pc0 := 6) (pc' := 16) rfl (hb hby d25_6) rfl (by decide) (by decide) (by decide) (XS.iloadN X0.here hx rfl (hb hby d25_16) rfl k)))))) ?_
 refine GoW.retI X0 hx Bd.returns (hb hby d25_17) Bd.notSynchronized ?_ (by decide) (by decide)
 rw [e0]
 exact ⟨rfl, N0, rfl⟩
def Q24_83 (Z : State)  (h0 : Heap) (n0 : Nat) (v : Option Value) (h : Heap) (L : List Loc) : Prop := v = none ∧ Fr n0 L ∧ (h = h0)
theorem rm24_83 (l : Launch) (Z : State) (a0 : Array Value) (hw : HW a0 Z) (h0 : Heap) (n0 : Nat) (P0 : Sta Z h0 "jdk/internal/util/Preconditions" "SIOOBE_FORMATTER" "Ljava/util/function/BiFunction;" .null) :
  MM l Z Y24 jdk_42_method_155_code 2 none 1 0 0 14 #[(.int 0), (.int 2)] h0 (Q24_83 Z  h0 n0) := by
 refine own_start (fun m => (mkF m 0 #[.val (.int 0), .val (.int 2)] [])) (plainFor_of_name pn_java_lang_String) (by simp [entryFrame, mkF, argsToLocals, Value.category]) n0 ?_
 intro p e s m below meth c s₁ Bd hx hby hml hZ hown hnm X0 e0 N0
 refine GoW.sg (mkF m 2 #[.val (.int 0), .val (.int 2)] [(.int 2), (.int 0)]) (fun t k => XS.iloadN X0.here hx rfl (hb hby d24_0) rfl (XS.iloadN X0.here hx rfl (hb hby d24_1) rfl k)) ?_
 obtain ⟨T882, X882, e882, st882⟩ := getS (host := "") X0 hx hZ hown (ww hw 102 rfl) Via.refl e0 P0 (g := (mkF m 2 #[.val (.int 0), .val (.int 2)] [(.int 2), (.int 0)])) rfl (hb hby d24_2)
 refine GoW.sg (mkF m 5 #[.val (.int 0), .val (.int 2)] [.null, (.int 2), (.int 0)]) (fun t k => st882 t k) ?_
 obtain ⟨_, T883, L883, X883, hQ883, st883⟩ := own_callS X882 hx hZ hown (y := Y25) (ww hw 104 rfl) (ww hw 105 rfl) (ww hw 103 rfl) (ww hw 106 rfl) (by decide) 0 (rm25_79 l Z a0 hw   h0 n0       ) (by decide) (by decide) e882 (by decide) (by decide) (g := (mkF m 5 #[.val (.int 0), .val (.int 2)] [.null, (.int 2), (.int 0)])) rfl (by rw [hml]; rfl) (argsL := [(.int (0 : Int32)), (.int (2 : Int32)), .null]) (rest := []) (lenOf pd_28IILjava2futil2ffunction2fBiFunction3b29I rfl) rfl (by show 2 * 0 + _ ≤ _; exact Nat.le_of_eq rfl) (hb hby d24_5)
 obtain ⟨rfl, N883q, e883⟩ := hQ883
 have N883 := Fr.app N0 N883q
 refine GoW.sg (mkF m 8 #[.val (.int 0), .val (.int 2)] [(.int 0)]) (fun t k => st883 t k) ?_
 refine GoW.sg (mkF m 9 #[.val (.int 0), .val (.int 2)] []) (fun t k => XS.pop X883.here hx rfl (hb hby d24_8) rfl rfl k) ?_
 refine GoW.retV X883 hx Bd.returns (hb hby d24_9) Bd.notSynchronized ?_ (by decide) (by decide)
 rw [e883]
 exact ⟨rfl, N883, rfl⟩
def Q24_84 (Z : State) (a1c : Addr) (h0 : Heap) (n0 : Nat) (v : Option Value) (h : Heap) (L : List Loc) : Prop := v = none ∧ Fr n0 L ∧ (h = h0)
theorem rm24_84 (l : Launch) (Z : State) (a0 : Array Value) (hw : HW a0 Z) (a1c : Addr) (h0 : Heap) (n0 : Nat) (P0 : Sta Z h0 "jdk/internal/util/Preconditions" "SIOOBE_FORMATTER" "Ljava/util/function/BiFunction;" (.ref a1c)) :
  MM l Z Y24 jdk_42_method_155_code 2 none 1 0 0 14 #[(.int 0), (.int 2)] h0 (Q24_84 Z a1c h0 n0) := by
 refine own_start (fun m => (mkF m 0 #[.val (.int 0), .val (.int 2)] [])) (plainFor_of_name pn_java_lang_String) (by simp [entryFrame, mkF, argsToLocals, Value.category]) n0 ?_
 intro p e s m below meth c s₁ Bd hx hby hml hZ hown hnm X0 e0 N0
 refine GoW.sg (mkF m 2 #[.val (.int 0), .val (.int 2)] [(.int 2), (.int 0)]) (fun t k => XS.iloadN X0.here hx rfl (hb hby d24_0) rfl (XS.iloadN X0.here hx rfl (hb hby d24_1) rfl k)) ?_
 obtain ⟨T886, X886, e886, st886⟩ := getS (host := "") X0 hx hZ hown (ww hw 102 rfl) Via.refl e0 P0 (g := (mkF m 2 #[.val (.int 0), .val (.int 2)] [(.int 2), (.int 0)])) rfl (hb hby d24_2)
 refine GoW.sg (mkF m 5 #[.val (.int 0), .val (.int 2)] [(.ref a1c), (.int 2), (.int 0)]) (fun t k => st886 t k) ?_
 obtain ⟨_, T887, L887, X887, hQ887, st887⟩ := own_callS X886 hx hZ hown (y := Y25) (ww hw 104 rfl) (ww hw 105 rfl) (ww hw 103 rfl) (ww hw 106 rfl) (by decide) 0 (rm25_81 l Z a0 hw a1c  h0 n0       ) (by decide) (by decide) e886 (by decide) (by decide) (g := (mkF m 5 #[.val (.int 0), .val (.int 2)] [(.ref a1c), (.int 2), (.int 0)])) rfl (by rw [hml]; rfl) (argsL := [(.int (0 : Int32)), (.int (2 : Int32)), (.ref a1c)]) (rest := []) (lenOf pd_28IILjava2futil2ffunction2fBiFunction3b29I rfl) rfl (by show 2 * 0 + _ ≤ _; exact Nat.le_of_eq rfl) (hb hby d24_5)
 obtain ⟨rfl, N887q, e887⟩ := hQ887
 have N887 := Fr.app N0 N887q
 refine GoW.sg (mkF m 8 #[.val (.int 0), .val (.int 2)] [(.int 0)]) (fun t k => st887 t k) ?_
 refine GoW.sg (mkF m 9 #[.val (.int 0), .val (.int 2)] []) (fun t k => XS.pop X887.here hx rfl (hb hby d24_8) rfl rfl k) ?_
 refine GoW.retV X887 hx Bd.returns (hb hby d24_9) Bd.notSynchronized ?_ (by decide) (by decide)
 rw [e887]
 exact ⟨rfl, N887, rfl⟩
theorem rmCk02 (l : Launch) (Z : State) (a0 : Array Value) (hw : HW a0 Z) (vf : Value) (h0 : Heap) (n0 : Nat) (PF : Sta Z h0 "jdk/internal/util/Preconditions" "SIOOBE_FORMATTER" "Ljava/util/function/BiFunction;" vf) (hvf : Value.isRef vf = true) :
  MM l Z Y24 jdk_42_method_155_code 2 none 1 0 0 14 #[.int 0, .int 2] h0 (NoneQ h0 n0) := by
  rcases ref_cases hvf with rfl | ⟨af, rfl⟩
  · exact (rm24_83 l Z a0 hw   h0 n0  PF   ).mono (fun _ _ h => h) (fun _ _ _ _ _ h => h) (fun _ _ _ _ _ h => h)
  · exact (rm24_84 l Z a0 hw  af h0 n0  PF   ).mono (fun _ _ h => h) (fun _ _ _ _ _ h => h) (fun _ _ _ _ _ h => h)
def Q25_85 (Z : State)  (h0 : Heap) (n0 : Nat) (v : Option Value) (h : Heap) (L : List Loc) : Prop := v = some (.int 1) ∧ Fr n0 L ∧ (h = h0)
theorem rm25_85 (l : Launch) (Z : State) (a0 : Array Value) (hw : HW a0 Z) (h0 : Heap) (n0 : Nat) :
  MM l Z Y25 jdk_41_method_11_code 3 (some .int) 0 0 0 0 #[(.int 1), (.int 2), .null] h0 (Q25_85 Z  h0 n0) := by
 refine own_start (fun m => (mkF m 0 (Sh13 1 2) [])) (plainFor_of_name pn_jdk_internal_util_Preconditions) (by simp [entryFrame, mkF, argsToLocals, Value.category]) n0 ?_
 intro p e s m below meth c s₁ Bd hx hby hml hZ hown hnm X0 e0 N0
 refine GoW.sg (mkF m 17 (Sh13 1 2) [(.int 1)]) (fun t k => XS.iloadN X0.here hx rfl (hb hby d25_0) rfl (XS.ifNo X0.here hx rfl (hb hby d25_1) rfl (by decide) (XS.iloadN X0.here hx rfl (hb hby d25_4) rfl (XS.iloadN X0.here hx rfl (hb hby d25_5) rfl (XS.icmpYes X0.here hx rfl (pc0 := 6) (pc' := 16) rfl (hb hby d25_6) rfl (by decide) (by decide) (by decide) (XS.iloadN X0.here hx rfl (hb hby d25_16) rfl k)))))) ?_
 refine GoW.retI X0 hx Bd.returns (hb hby d25_17) Bd.notSynchronized ?_ (by decide) (by decide)
 rw [e0]
 exact ⟨rfl, N0, rfl⟩
def Q25_87 (Z : State) (a1c : Addr) (h0 : Heap) (n0 : Nat) (v : Option Value) (h : Heap) (L : List Loc) : Prop := v = some (.int 1) ∧ Fr n0 L ∧ (h = h0)
theorem rm25_87 (l : Launch) (Z : State) (a0 : Array Value) (hw : HW a0 Z) (a1c : Addr) (h0 : Heap) (n0 : Nat) :
  MM l Z Y25 jdk_41_method_11_code 3 (some .int) 0 0 0 0 #[(.int 1), (.int 2), (.ref a1c)] h0 (Q25_87 Z a1c h0 n0) := by
 refine own_start (fun m => (mkF m 0 (Sh14 1 2 a1c) [])) (plainFor_of_name pn_jdk_internal_util_Preconditions) (by simp [entryFrame, mkF, argsToLocals, Value.category]) n0 ?_
 intro p e s m below meth c s₁ Bd hx hby hml hZ hown hnm X0 e0 N0
 refine GoW.sg (mkF m 17 (Sh14 1 2 a1c) [(.int 1)]) (fun t k => XS.iloadN X0.here hx rfl (hb hby d25_0) rfl (XS.ifNo X0.here hx rfl (hb hby d25_1) rfl (by decide) (XS.iloadN X0.here hx rfl (hb hby d25_4) rfl (XS.iloadN X0.here hx rfl (hb hby d25_5) rfl (XS.icmpYes X0.here hx rfl (pc0 := 6) (pc' := 16) rfl (hb hby d25_6) rfl (by decide) (by decide) (by decide) (XS.iloadN X0.here hx rfl (hb hby d25_16) rfl k)))))) ?_
 refine GoW.retI X0 hx Bd.returns (hb hby d25_17) Bd.notSynchronized ?_ (by decide) (by decide)
 rw [e0]
 exact ⟨rfl, N0, rfl⟩
def Q24_89 (Z : State)  (h0 : Heap) (n0 : Nat) (v : Option Value) (h : Heap) (L : List Loc) : Prop := v = none ∧ Fr n0 L ∧ (h = h0)
theorem rm24_89 (l : Launch) (Z : State) (a0 : Array Value) (hw : HW a0 Z) (h0 : Heap) (n0 : Nat) (P0 : Sta Z h0 "jdk/internal/util/Preconditions" "SIOOBE_FORMATTER" "Ljava/util/function/BiFunction;" .null) :
  MM l Z Y24 jdk_42_method_155_code 2 none 1 0 0 14 #[(.int 1), (.int 2)] h0 (Q24_89 Z  h0 n0) := by
 refine own_start (fun m => (mkF m 0 #[.val (.int 1), .val (.int 2)] [])) (plainFor_of_name pn_java_lang_String) (by simp [entryFrame, mkF, argsToLocals, Value.category]) n0 ?_
 intro p e s m below meth c s₁ Bd hx hby hml hZ hown hnm X0 e0 N0
 refine GoW.sg (mkF m 2 #[.val (.int 1), .val (.int 2)] [(.int 2), (.int 1)]) (fun t k => XS.iloadN X0.here hx rfl (hb hby d24_0) rfl (XS.iloadN X0.here hx rfl (hb hby d24_1) rfl k)) ?_
 obtain ⟨T898, X898, e898, st898⟩ := getS (host := "") X0 hx hZ hown (ww hw 102 rfl) Via.refl e0 P0 (g := (mkF m 2 #[.val (.int 1), .val (.int 2)] [(.int 2), (.int 1)])) rfl (hb hby d24_2)
 refine GoW.sg (mkF m 5 #[.val (.int 1), .val (.int 2)] [.null, (.int 2), (.int 1)]) (fun t k => st898 t k) ?_
 obtain ⟨_, T899, L899, X899, hQ899, st899⟩ := own_callS X898 hx hZ hown (y := Y25) (ww hw 104 rfl) (ww hw 105 rfl) (ww hw 103 rfl) (ww hw 106 rfl) (by decide) 0 (rm25_85 l Z a0 hw   h0 n0       ) (by decide) (by decide) e898 (by decide) (by decide) (g := (mkF m 5 #[.val (.int 1), .val (.int 2)] [.null, (.int 2), (.int 1)])) rfl (by rw [hml]; rfl) (argsL := [(.int (1 : Int32)), (.int (2 : Int32)), .null]) (rest := []) (lenOf pd_28IILjava2futil2ffunction2fBiFunction3b29I rfl) rfl (by show 2 * 0 + _ ≤ _; exact Nat.le_of_eq rfl) (hb hby d24_5)
 obtain ⟨rfl, N899q, e899⟩ := hQ899
 have N899 := Fr.app N0 N899q
 refine GoW.sg (mkF m 8 #[.val (.int 1), .val (.int 2)] [(.int 1)]) (fun t k => st899 t k) ?_
 refine GoW.sg (mkF m 9 #[.val (.int 1), .val (.int 2)] []) (fun t k => XS.pop X899.here hx rfl (hb hby d24_8) rfl rfl k) ?_
 refine GoW.retV X899 hx Bd.returns (hb hby d24_9) Bd.notSynchronized ?_ (by decide) (by decide)
 rw [e899]
 exact ⟨rfl, N899, rfl⟩
def Q24_90 (Z : State) (a1c : Addr) (h0 : Heap) (n0 : Nat) (v : Option Value) (h : Heap) (L : List Loc) : Prop := v = none ∧ Fr n0 L ∧ (h = h0)
theorem rm24_90 (l : Launch) (Z : State) (a0 : Array Value) (hw : HW a0 Z) (a1c : Addr) (h0 : Heap) (n0 : Nat) (P0 : Sta Z h0 "jdk/internal/util/Preconditions" "SIOOBE_FORMATTER" "Ljava/util/function/BiFunction;" (.ref a1c)) :
  MM l Z Y24 jdk_42_method_155_code 2 none 1 0 0 14 #[(.int 1), (.int 2)] h0 (Q24_90 Z a1c h0 n0) := by
 refine own_start (fun m => (mkF m 0 #[.val (.int 1), .val (.int 2)] [])) (plainFor_of_name pn_java_lang_String) (by simp [entryFrame, mkF, argsToLocals, Value.category]) n0 ?_
 intro p e s m below meth c s₁ Bd hx hby hml hZ hown hnm X0 e0 N0
 refine GoW.sg (mkF m 2 #[.val (.int 1), .val (.int 2)] [(.int 2), (.int 1)]) (fun t k => XS.iloadN X0.here hx rfl (hb hby d24_0) rfl (XS.iloadN X0.here hx rfl (hb hby d24_1) rfl k)) ?_
 obtain ⟨T902, X902, e902, st902⟩ := getS (host := "") X0 hx hZ hown (ww hw 102 rfl) Via.refl e0 P0 (g := (mkF m 2 #[.val (.int 1), .val (.int 2)] [(.int 2), (.int 1)])) rfl (hb hby d24_2)
 refine GoW.sg (mkF m 5 #[.val (.int 1), .val (.int 2)] [(.ref a1c), (.int 2), (.int 1)]) (fun t k => st902 t k) ?_
 obtain ⟨_, T903, L903, X903, hQ903, st903⟩ := own_callS X902 hx hZ hown (y := Y25) (ww hw 104 rfl) (ww hw 105 rfl) (ww hw 103 rfl) (ww hw 106 rfl) (by decide) 0 (rm25_87 l Z a0 hw a1c  h0 n0       ) (by decide) (by decide) e902 (by decide) (by decide) (g := (mkF m 5 #[.val (.int 1), .val (.int 2)] [(.ref a1c), (.int 2), (.int 1)])) rfl (by rw [hml]; rfl) (argsL := [(.int (1 : Int32)), (.int (2 : Int32)), (.ref a1c)]) (rest := []) (lenOf pd_28IILjava2futil2ffunction2fBiFunction3b29I rfl) rfl (by show 2 * 0 + _ ≤ _; exact Nat.le_of_eq rfl) (hb hby d24_5)
 obtain ⟨rfl, N903q, e903⟩ := hQ903
 have N903 := Fr.app N0 N903q
 refine GoW.sg (mkF m 8 #[.val (.int 1), .val (.int 2)] [(.int 1)]) (fun t k => st903 t k) ?_
 refine GoW.sg (mkF m 9 #[.val (.int 1), .val (.int 2)] []) (fun t k => XS.pop X903.here hx rfl (hb hby d24_8) rfl rfl k) ?_
 refine GoW.retV X903 hx Bd.returns (hb hby d24_9) Bd.notSynchronized ?_ (by decide) (by decide)
 rw [e903]
 exact ⟨rfl, N903, rfl⟩
theorem rmCk12 (l : Launch) (Z : State) (a0 : Array Value) (hw : HW a0 Z) (vf : Value) (h0 : Heap) (n0 : Nat) (PF : Sta Z h0 "jdk/internal/util/Preconditions" "SIOOBE_FORMATTER" "Ljava/util/function/BiFunction;" vf) (hvf : Value.isRef vf = true) :
  MM l Z Y24 jdk_42_method_155_code 2 none 1 0 0 14 #[.int 1, .int 2] h0 (NoneQ h0 n0) := by
  rcases ref_cases hvf with rfl | ⟨af, rfl⟩
  · exact (rm24_89 l Z a0 hw   h0 n0  PF   ).mono (fun _ _ h => h) (fun _ _ _ _ _ h => h) (fun _ _ _ _ _ h => h)
  · exact (rm24_90 l Z a0 hw  af h0 n0  PF   ).mono (fun _ _ h => h) (fun _ _ _ _ _ h => h) (fun _ _ _ _ _ h => h)
def Q25_91 (Z : State)  (h0 : Heap) (n0 : Nat) (v : Option Value) (h : Heap) (L : List Loc) : Prop := v = some (.int 0) ∧ Fr n0 L ∧ (h = h0)
theorem rm25_91 (l : Launch) (Z : State) (a0 : Array Value) (hw : HW a0 Z) (h0 : Heap) (n0 : Nat) :
  MM l Z Y25 jdk_41_method_11_code 3 (some .int) 0 0 0 0 #[(.int 0), (.int 3), .null] h0 (Q25_91 Z  h0 n0) := by
 refine own_start (fun m => (mkF m 0 (Sh13 0 3) [])) (plainFor_of_name pn_jdk_internal_util_Preconditions) (by simp [entryFrame, mkF, argsToLocals, Value.category]) n0 ?_
 intro p e s m below meth c s₁ Bd hx hby hml hZ hown hnm X0 e0 N0
 refine GoW.sg (mkF m 17 (Sh13 0 3) [(.int 0)]) (fun t k => XS.iloadN X0.here hx rfl (hb hby d25_0) rfl (XS.ifNo X0.here hx rfl (hb hby d25_1) rfl (by decide) (XS.iloadN X0.here hx rfl (hb hby d25_4) rfl (XS.iloadN X0.here hx rfl (hb hby d25_5) rfl (XS.icmpYes X0.here hx rfl (pc0 := 6) (pc' := 16) rfl (hb hby d25_6) rfl (by decide) (by decide) (by decide) (XS.iloadN X0.here hx rfl (hb hby d25_16) rfl k)))))) ?_
 refine GoW.retI X0 hx Bd.returns (hb hby d25_17) Bd.notSynchronized ?_ (by decide) (by decide)
 rw [e0]
 exact ⟨rfl, N0, rfl⟩
def Q25_93 (Z : State) (a1c : Addr) (h0 : Heap) (n0 : Nat) (v : Option Value) (h : Heap) (L : List Loc) : Prop := v = some (.int 0) ∧ Fr n0 L ∧ (h = h0)
theorem rm25_93 (l : Launch) (Z : State) (a0 : Array Value) (hw : HW a0 Z) (a1c : Addr) (h0 : Heap) (n0 : Nat) :
  MM l Z Y25 jdk_41_method_11_code 3 (some .int) 0 0 0 0 #[(.int 0), (.int 3), (.ref a1c)] h0 (Q25_93 Z a1c h0 n0) := by
 refine own_start (fun m => (mkF m 0 (Sh14 0 3 a1c) [])) (plainFor_of_name pn_jdk_internal_util_Preconditions) (by simp [entryFrame, mkF, argsToLocals, Value.category]) n0 ?_
 intro p e s m below meth c s₁ Bd hx hby hml hZ hown hnm X0 e0 N0
 refine GoW.sg (mkF m 17 (Sh14 0 3 a1c) [(.int 0)]) (fun t k => XS.iloadN X0.here hx rfl (hb hby d25_0) rfl (XS.ifNo X0.here hx rfl (hb hby d25_1) rfl (by decide) (XS.iloadN X0.here hx rfl (hb hby d25_4) rfl (XS.iloadN X0.here hx rfl (hb hby d25_5) rfl (XS.icmpYes X0.here hx rfl (pc0 := 6) (pc' := 16) rfl (hb hby d25_6) rfl (by decide) (by decide) (by decide) (XS.iloadN X0.here hx rfl (hb hby d25_16) rfl k)))))) ?_
 refine GoW.retI X0 hx Bd.returns (hb hby d25_17) Bd.notSynchronized ?_ (by decide) (by decide)
 rw [e0]
 exact ⟨rfl, N0, rfl⟩
def Q24_95 (Z : State)  (h0 : Heap) (n0 : Nat) (v : Option Value) (h : Heap) (L : List Loc) : Prop := v = none ∧ Fr n0 L ∧ (h = h0)
theorem rm24_95 (l : Launch) (Z : State) (a0 : Array Value) (hw : HW a0 Z) (h0 : Heap) (n0 : Nat) (P0 : Sta Z h0 "jdk/internal/util/Preconditions" "SIOOBE_FORMATTER" "Ljava/util/function/BiFunction;" .null) :
  MM l Z Y24 jdk_42_method_155_code 2 none 1 0 0 14 #[(.int 0), (.int 3)] h0 (Q24_95 Z  h0 n0) := by
 refine own_start (fun m => (mkF m 0 #[.val (.int 0), .val (.int 3)] [])) (plainFor_of_name pn_java_lang_String) (by simp [entryFrame, mkF, argsToLocals, Value.category]) n0 ?_
 intro p e s m below meth c s₁ Bd hx hby hml hZ hown hnm X0 e0 N0
 refine GoW.sg (mkF m 2 #[.val (.int 0), .val (.int 3)] [(.int 3), (.int 0)]) (fun t k => XS.iloadN X0.here hx rfl (hb hby d24_0) rfl (XS.iloadN X0.here hx rfl (hb hby d24_1) rfl k)) ?_
 obtain ⟨T914, X914, e914, st914⟩ := getS (host := "") X0 hx hZ hown (ww hw 102 rfl) Via.refl e0 P0 (g := (mkF m 2 #[.val (.int 0), .val (.int 3)] [(.int 3), (.int 0)])) rfl (hb hby d24_2)
 refine GoW.sg (mkF m 5 #[.val (.int 0), .val (.int 3)] [.null, (.int 3), (.int 0)]) (fun t k => st914 t k) ?_
 obtain ⟨_, T915, L915, X915, hQ915, st915⟩ := own_callS X914 hx hZ hown (y := Y25) (ww hw 104 rfl) (ww hw 105 rfl) (ww hw 103 rfl) (ww hw 106 rfl) (by decide) 0 (rm25_91 l Z a0 hw   h0 n0       ) (by decide) (by decide) e914 (by decide) (by decide) (g := (mkF m 5 #[.val (.int 0), .val (.int 3)] [.null, (.int 3), (.int 0)])) rfl (by rw [hml]; rfl) (argsL := [(.int (0 : Int32)), (.int (3 : Int32)), .null]) (rest := []) (lenOf pd_28IILjava2futil2ffunction2fBiFunction3b29I rfl) rfl (by show 2 * 0 + _ ≤ _; exact Nat.le_of_eq rfl) (hb hby d24_5)
 obtain ⟨rfl, N915q, e915⟩ := hQ915
 have N915 := Fr.app N0 N915q
 refine GoW.sg (mkF m 8 #[.val (.int 0), .val (.int 3)] [(.int 0)]) (fun t k => st915 t k) ?_
 refine GoW.sg (mkF m 9 #[.val (.int 0), .val (.int 3)] []) (fun t k => XS.pop X915.here hx rfl (hb hby d24_8) rfl rfl k) ?_
 refine GoW.retV X915 hx Bd.returns (hb hby d24_9) Bd.notSynchronized ?_ (by decide) (by decide)
 rw [e915]
 exact ⟨rfl, N915, rfl⟩
def Q24_96 (Z : State) (a1c : Addr) (h0 : Heap) (n0 : Nat) (v : Option Value) (h : Heap) (L : List Loc) : Prop := v = none ∧ Fr n0 L ∧ (h = h0)
theorem rm24_96 (l : Launch) (Z : State) (a0 : Array Value) (hw : HW a0 Z) (a1c : Addr) (h0 : Heap) (n0 : Nat) (P0 : Sta Z h0 "jdk/internal/util/Preconditions" "SIOOBE_FORMATTER" "Ljava/util/function/BiFunction;" (.ref a1c)) :
  MM l Z Y24 jdk_42_method_155_code 2 none 1 0 0 14 #[(.int 0), (.int 3)] h0 (Q24_96 Z a1c h0 n0) := by
 refine own_start (fun m => (mkF m 0 #[.val (.int 0), .val (.int 3)] [])) (plainFor_of_name pn_java_lang_String) (by simp [entryFrame, mkF, argsToLocals, Value.category]) n0 ?_
 intro p e s m below meth c s₁ Bd hx hby hml hZ hown hnm X0 e0 N0
 refine GoW.sg (mkF m 2 #[.val (.int 0), .val (.int 3)] [(.int 3), (.int 0)]) (fun t k => XS.iloadN X0.here hx rfl (hb hby d24_0) rfl (XS.iloadN X0.here hx rfl (hb hby d24_1) rfl k)) ?_
 obtain ⟨T918, X918, e918, st918⟩ := getS (host := "") X0 hx hZ hown (ww hw 102 rfl) Via.refl e0 P0 (g := (mkF m 2 #[.val (.int 0), .val (.int 3)] [(.int 3), (.int 0)])) rfl (hb hby d24_2)
 refine GoW.sg (mkF m 5 #[.val (.int 0), .val (.int 3)] [(.ref a1c), (.int 3), (.int 0)]) (fun t k => st918 t k) ?_
 obtain ⟨_, T919, L919, X919, hQ919, st919⟩ := own_callS X918 hx hZ hown (y := Y25) (ww hw 104 rfl) (ww hw 105 rfl) (ww hw 103 rfl) (ww hw 106 rfl) (by decide) 0 (rm25_93 l Z a0 hw a1c  h0 n0       ) (by decide) (by decide) e918 (by decide) (by decide) (g := (mkF m 5 #[.val (.int 0), .val (.int 3)] [(.ref a1c), (.int 3), (.int 0)])) rfl (by rw [hml]; rfl) (argsL := [(.int (0 : Int32)), (.int (3 : Int32)), (.ref a1c)]) (rest := []) (lenOf pd_28IILjava2futil2ffunction2fBiFunction3b29I rfl) rfl (by show 2 * 0 + _ ≤ _; exact Nat.le_of_eq rfl) (hb hby d24_5)
 obtain ⟨rfl, N919q, e919⟩ := hQ919
 have N919 := Fr.app N0 N919q
 refine GoW.sg (mkF m 8 #[.val (.int 0), .val (.int 3)] [(.int 0)]) (fun t k => st919 t k) ?_
 refine GoW.sg (mkF m 9 #[.val (.int 0), .val (.int 3)] []) (fun t k => XS.pop X919.here hx rfl (hb hby d24_8) rfl rfl k) ?_
 refine GoW.retV X919 hx Bd.returns (hb hby d24_9) Bd.notSynchronized ?_ (by decide) (by decide)
 rw [e919]
 exact ⟨rfl, N919, rfl⟩
theorem rmCk03 (l : Launch) (Z : State) (a0 : Array Value) (hw : HW a0 Z) (vf : Value) (h0 : Heap) (n0 : Nat) (PF : Sta Z h0 "jdk/internal/util/Preconditions" "SIOOBE_FORMATTER" "Ljava/util/function/BiFunction;" vf) (hvf : Value.isRef vf = true) :
  MM l Z Y24 jdk_42_method_155_code 2 none 1 0 0 14 #[.int 0, .int 3] h0 (NoneQ h0 n0) := by
  rcases ref_cases hvf with rfl | ⟨af, rfl⟩
  · exact (rm24_95 l Z a0 hw   h0 n0  PF   ).mono (fun _ _ h => h) (fun _ _ _ _ _ h => h) (fun _ _ _ _ _ h => h)
  · exact (rm24_96 l Z a0 hw  af h0 n0  PF   ).mono (fun _ _ h => h) (fun _ _ _ _ _ h => h) (fun _ _ _ _ _ h => h)
def Q25_97 (Z : State)  (h0 : Heap) (n0 : Nat) (v : Option Value) (h : Heap) (L : List Loc) : Prop := v = some (.int 1) ∧ Fr n0 L ∧ (h = h0)
theorem rm25_97 (l : Launch) (Z : State) (a0 : Array Value) (hw : HW a0 Z) (h0 : Heap) (n0 : Nat) :
  MM l Z Y25 jdk_41_method_11_code 3 (some .int) 0 0 0 0 #[(.int 1), (.int 3), .null] h0 (Q25_97 Z  h0 n0) := by
 refine own_start (fun m => (mkF m 0 (Sh13 1 3) [])) (plainFor_of_name pn_jdk_internal_util_Preconditions) (by simp [entryFrame, mkF, argsToLocals, Value.category]) n0 ?_
 intro p e s m below meth c s₁ Bd hx hby hml hZ hown hnm X0 e0 N0
 refine GoW.sg (mkF m 17 (Sh13 1 3) [(.int 1)]) (fun t k => XS.iloadN X0.here hx rfl (hb hby d25_0) rfl (XS.ifNo X0.here hx rfl (hb hby d25_1) rfl (by decide) (XS.iloadN X0.here hx rfl (hb hby d25_4) rfl (XS.iloadN X0.here hx rfl (hb hby d25_5) rfl (XS.icmpYes X0.here hx rfl (pc0 := 6) (pc' := 16) rfl (hb hby d25_6) rfl (by decide) (by decide) (by decide) (XS.iloadN X0.here hx rfl (hb hby d25_16) rfl k)))))) ?_
 refine GoW.retI X0 hx Bd.returns (hb hby d25_17) Bd.notSynchronized ?_ (by decide) (by decide)
 rw [e0]
 exact ⟨rfl, N0, rfl⟩
def Q25_99 (Z : State) (a1c : Addr) (h0 : Heap) (n0 : Nat) (v : Option Value) (h : Heap) (L : List Loc) : Prop := v = some (.int 1) ∧ Fr n0 L ∧ (h = h0)
theorem rm25_99 (l : Launch) (Z : State) (a0 : Array Value) (hw : HW a0 Z) (a1c : Addr) (h0 : Heap) (n0 : Nat) :
  MM l Z Y25 jdk_41_method_11_code 3 (some .int) 0 0 0 0 #[(.int 1), (.int 3), (.ref a1c)] h0 (Q25_99 Z a1c h0 n0) := by
 refine own_start (fun m => (mkF m 0 (Sh14 1 3 a1c) [])) (plainFor_of_name pn_jdk_internal_util_Preconditions) (by simp [entryFrame, mkF, argsToLocals, Value.category]) n0 ?_
 intro p e s m below meth c s₁ Bd hx hby hml hZ hown hnm X0 e0 N0
 refine GoW.sg (mkF m 17 (Sh14 1 3 a1c) [(.int 1)]) (fun t k => XS.iloadN X0.here hx rfl (hb hby d25_0) rfl (XS.ifNo X0.here hx rfl (hb hby d25_1) rfl (by decide) (XS.iloadN X0.here hx rfl (hb hby d25_4) rfl (XS.iloadN X0.here hx rfl (hb hby d25_5) rfl (XS.icmpYes X0.here hx rfl (pc0 := 6) (pc' := 16) rfl (hb hby d25_6) rfl (by decide) (by decide) (by decide) (XS.iloadN X0.here hx rfl (hb hby d25_16) rfl k)))))) ?_
 refine GoW.retI X0 hx Bd.returns (hb hby d25_17) Bd.notSynchronized ?_ (by decide) (by decide)
 rw [e0]
 exact ⟨rfl, N0, rfl⟩
def Q24_101 (Z : State)  (h0 : Heap) (n0 : Nat) (v : Option Value) (h : Heap) (L : List Loc) : Prop := v = none ∧ Fr n0 L ∧ (h = h0)
theorem rm24_101 (l : Launch) (Z : State) (a0 : Array Value) (hw : HW a0 Z) (h0 : Heap) (n0 : Nat) (P0 : Sta Z h0 "jdk/internal/util/Preconditions" "SIOOBE_FORMATTER" "Ljava/util/function/BiFunction;" .null) :
  MM l Z Y24 jdk_42_method_155_code 2 none 1 0 0 14 #[(.int 1), (.int 3)] h0 (Q24_101 Z  h0 n0) := by
 refine own_start (fun m => (mkF m 0 #[.val (.int 1), .val (.int 3)] [])) (plainFor_of_name pn_java_lang_String) (by simp [entryFrame, mkF, argsToLocals, Value.category]) n0 ?_
 intro p e s m below meth c s₁ Bd hx hby hml hZ hown hnm X0 e0 N0
 refine GoW.sg (mkF m 2 #[.val (.int 1), .val (.int 3)] [(.int 3), (.int 1)]) (fun t k => XS.iloadN X0.here hx rfl (hb hby d24_0) rfl (XS.iloadN X0.here hx rfl (hb hby d24_1) rfl k)) ?_
 obtain ⟨T930, X930, e930, st930⟩ := getS (host := "") X0 hx hZ hown (ww hw 102 rfl) Via.refl e0 P0 (g := (mkF m 2 #[.val (.int 1), .val (.int 3)] [(.int 3), (.int 1)])) rfl (hb hby d24_2)
 refine GoW.sg (mkF m 5 #[.val (.int 1), .val (.int 3)] [.null, (.int 3), (.int 1)]) (fun t k => st930 t k) ?_
 obtain ⟨_, T931, L931, X931, hQ931, st931⟩ := own_callS X930 hx hZ hown (y := Y25) (ww hw 104 rfl) (ww hw 105 rfl) (ww hw 103 rfl) (ww hw 106 rfl) (by decide) 0 (rm25_97 l Z a0 hw   h0 n0       ) (by decide) (by decide) e930 (by decide) (by decide) (g := (mkF m 5 #[.val (.int 1), .val (.int 3)] [.null, (.int 3), (.int 1)])) rfl (by rw [hml]; rfl) (argsL := [(.int (1 : Int32)), (.int (3 : Int32)), .null]) (rest := []) (lenOf pd_28IILjava2futil2ffunction2fBiFunction3b29I rfl) rfl (by show 2 * 0 + _ ≤ _; exact Nat.le_of_eq rfl) (hb hby d24_5)
 obtain ⟨rfl, N931q, e931⟩ := hQ931
 have N931 := Fr.app N0 N931q
 refine GoW.sg (mkF m 8 #[.val (.int 1), .val (.int 3)] [(.int 1)]) (fun t k => st931 t k) ?_
 refine GoW.sg (mkF m 9 #[.val (.int 1), .val (.int 3)] []) (fun t k => XS.pop X931.here hx rfl (hb hby d24_8) rfl rfl k) ?_
 refine GoW.retV X931 hx Bd.returns (hb hby d24_9) Bd.notSynchronized ?_ (by decide) (by decide)
 rw [e931]
 exact ⟨rfl, N931, rfl⟩
def Q24_102 (Z : State) (a1c : Addr) (h0 : Heap) (n0 : Nat) (v : Option Value) (h : Heap) (L : List Loc) : Prop := v = none ∧ Fr n0 L ∧ (h = h0)
theorem rm24_102 (l : Launch) (Z : State) (a0 : Array Value) (hw : HW a0 Z) (a1c : Addr) (h0 : Heap) (n0 : Nat) (P0 : Sta Z h0 "jdk/internal/util/Preconditions" "SIOOBE_FORMATTER" "Ljava/util/function/BiFunction;" (.ref a1c)) :
  MM l Z Y24 jdk_42_method_155_code 2 none 1 0 0 14 #[(.int 1), (.int 3)] h0 (Q24_102 Z a1c h0 n0) := by
 refine own_start (fun m => (mkF m 0 #[.val (.int 1), .val (.int 3)] [])) (plainFor_of_name pn_java_lang_String) (by simp [entryFrame, mkF, argsToLocals, Value.category]) n0 ?_
 intro p e s m below meth c s₁ Bd hx hby hml hZ hown hnm X0 e0 N0
 refine GoW.sg (mkF m 2 #[.val (.int 1), .val (.int 3)] [(.int 3), (.int 1)]) (fun t k => XS.iloadN X0.here hx rfl (hb hby d24_0) rfl (XS.iloadN X0.here hx rfl (hb hby d24_1) rfl k)) ?_
 obtain ⟨T934, X934, e934, st934⟩ := getS (host := "") X0 hx hZ hown (ww hw 102 rfl) Via.refl e0 P0 (g := (mkF m 2 #[.val (.int 1), .val (.int 3)] [(.int 3), (.int 1)])) rfl (hb hby d24_2)
 refine GoW.sg (mkF m 5 #[.val (.int 1), .val (.int 3)] [(.ref a1c), (.int 3), (.int 1)]) (fun t k => st934 t k) ?_
 obtain ⟨_, T935, L935, X935, hQ935, st935⟩ := own_callS X934 hx hZ hown (y := Y25) (ww hw 104 rfl) (ww hw 105 rfl) (ww hw 103 rfl) (ww hw 106 rfl) (by decide) 0 (rm25_99 l Z a0 hw a1c  h0 n0       ) (by decide) (by decide) e934 (by decide) (by decide) (g := (mkF m 5 #[.val (.int 1), .val (.int 3)] [(.ref a1c), (.int 3), (.int 1)])) rfl (by rw [hml]; rfl) (argsL := [(.int (1 : Int32)), (.int (3 : Int32)), (.ref a1c)]) (rest := []) (lenOf pd_28IILjava2futil2ffunction2fBiFunction3b29I rfl) rfl (by show 2 * 0 + _ ≤ _; exact Nat.le_of_eq rfl) (hb hby d24_5)
 obtain ⟨rfl, N935q, e935⟩ := hQ935
 have N935 := Fr.app N0 N935q
 refine GoW.sg (mkF m 8 #[.val (.int 1), .val (.int 3)] [(.int 1)]) (fun t k => st935 t k) ?_
 refine GoW.sg (mkF m 9 #[.val (.int 1), .val (.int 3)] []) (fun t k => XS.pop X935.here hx rfl (hb hby d24_8) rfl rfl k) ?_
 refine GoW.retV X935 hx Bd.returns (hb hby d24_9) Bd.notSynchronized ?_ (by decide) (by decide)
 rw [e935]
 exact ⟨rfl, N935, rfl⟩
theorem rmCk13 (l : Launch) (Z : State) (a0 : Array Value) (hw : HW a0 Z) (vf : Value) (h0 : Heap) (n0 : Nat) (PF : Sta Z h0 "jdk/internal/util/Preconditions" "SIOOBE_FORMATTER" "Ljava/util/function/BiFunction;" vf) (hvf : Value.isRef vf = true) :
  MM l Z Y24 jdk_42_method_155_code 2 none 1 0 0 14 #[.int 1, .int 3] h0 (NoneQ h0 n0) := by
  rcases ref_cases hvf with rfl | ⟨af, rfl⟩
  · exact (rm24_101 l Z a0 hw   h0 n0  PF   ).mono (fun _ _ h => h) (fun _ _ _ _ _ h => h) (fun _ _ _ _ _ h => h)
  · exact (rm24_102 l Z a0 hw  af h0 n0  PF   ).mono (fun _ _ h => h) (fun _ _ _ _ _ h => h) (fun _ _ _ _ _ h => h)
def Q25_103 (Z : State)  (h0 : Heap) (n0 : Nat) (v : Option Value) (h : Heap) (L : List Loc) : Prop := v = some (.int 2) ∧ Fr n0 L ∧ (h = h0)
theorem rm25_103 (l : Launch) (Z : State) (a0 : Array Value) (hw : HW a0 Z) (h0 : Heap) (n0 : Nat) :
  MM l Z Y25 jdk_41_method_11_code 3 (some .int) 0 0 0 0 #[(.int 2), (.int 3), .null] h0 (Q25_103 Z  h0 n0) := by
 refine own_start (fun m => (mkF m 0 (Sh13 2 3) [])) (plainFor_of_name pn_jdk_internal_util_Preconditions) (by simp [entryFrame, mkF, argsToLocals, Value.category]) n0 ?_
 intro p e s m below meth c s₁ Bd hx hby hml hZ hown hnm X0 e0 N0
 refine GoW.sg (mkF m 17 (Sh13 2 3) [(.int 2)]) (fun t k => XS.iloadN X0.here hx rfl (hb hby d25_0) rfl (XS.ifNo X0.here hx rfl (hb hby d25_1) rfl (by decide) (XS.iloadN X0.here hx rfl (hb hby d25_4) rfl (XS.iloadN X0.here hx rfl (hb hby d25_5) rfl (XS.icmpYes X0.here hx rfl (pc0 := 6) (pc' := 16) rfl (hb hby d25_6) rfl (by decide) (by decide) (by decide) (XS.iloadN X0.here hx rfl (hb hby d25_16) rfl k)))))) ?_
 refine GoW.retI X0 hx Bd.returns (hb hby d25_17) Bd.notSynchronized ?_ (by decide) (by decide)
 rw [e0]
 exact ⟨rfl, N0, rfl⟩
def Q25_105 (Z : State) (a1c : Addr) (h0 : Heap) (n0 : Nat) (v : Option Value) (h : Heap) (L : List Loc) : Prop := v = some (.int 2) ∧ Fr n0 L ∧ (h = h0)
theorem rm25_105 (l : Launch) (Z : State) (a0 : Array Value) (hw : HW a0 Z) (a1c : Addr) (h0 : Heap) (n0 : Nat) :
  MM l Z Y25 jdk_41_method_11_code 3 (some .int) 0 0 0 0 #[(.int 2), (.int 3), (.ref a1c)] h0 (Q25_105 Z a1c h0 n0) := by
 refine own_start (fun m => (mkF m 0 (Sh14 2 3 a1c) [])) (plainFor_of_name pn_jdk_internal_util_Preconditions) (by simp [entryFrame, mkF, argsToLocals, Value.category]) n0 ?_
 intro p e s m below meth c s₁ Bd hx hby hml hZ hown hnm X0 e0 N0
 refine GoW.sg (mkF m 17 (Sh14 2 3 a1c) [(.int 2)]) (fun t k => XS.iloadN X0.here hx rfl (hb hby d25_0) rfl (XS.ifNo X0.here hx rfl (hb hby d25_1) rfl (by decide) (XS.iloadN X0.here hx rfl (hb hby d25_4) rfl (XS.iloadN X0.here hx rfl (hb hby d25_5) rfl (XS.icmpYes X0.here hx rfl (pc0 := 6) (pc' := 16) rfl (hb hby d25_6) rfl (by decide) (by decide) (by decide) (XS.iloadN X0.here hx rfl (hb hby d25_16) rfl k)))))) ?_
 refine GoW.retI X0 hx Bd.returns (hb hby d25_17) Bd.notSynchronized ?_ (by decide) (by decide)
 rw [e0]
 exact ⟨rfl, N0, rfl⟩
def Q24_107 (Z : State)  (h0 : Heap) (n0 : Nat) (v : Option Value) (h : Heap) (L : List Loc) : Prop := v = none ∧ Fr n0 L ∧ (h = h0)
theorem rm24_107 (l : Launch) (Z : State) (a0 : Array Value) (hw : HW a0 Z) (h0 : Heap) (n0 : Nat) (P0 : Sta Z h0 "jdk/internal/util/Preconditions" "SIOOBE_FORMATTER" "Ljava/util/function/BiFunction;" .null) :
  MM l Z Y24 jdk_42_method_155_code 2 none 1 0 0 14 #[(.int 2), (.int 3)] h0 (Q24_107 Z  h0 n0) := by
 refine own_start (fun m => (mkF m 0 #[.val (.int 2), .val (.int 3)] [])) (plainFor_of_name pn_java_lang_String) (by simp [entryFrame, mkF, argsToLocals, Value.category]) n0 ?_
 intro p e s m below meth c s₁ Bd hx hby hml hZ hown hnm X0 e0 N0
 refine GoW.sg (mkF m 2 #[.val (.int 2), .val (.int 3)] [(.int 3), (.int 2)]) (fun t k => XS.iloadN X0.here hx rfl (hb hby d24_0) rfl (XS.iloadN X0.here hx rfl (hb hby d24_1) rfl k)) ?_
 obtain ⟨T946, X946, e946, st946⟩ := getS (host := "") X0 hx hZ hown (ww hw 102 rfl) Via.refl e0 P0 (g := (mkF m 2 #[.val (.int 2), .val (.int 3)] [(.int 3), (.int 2)])) rfl (hb hby d24_2)
 refine GoW.sg (mkF m 5 #[.val (.int 2), .val (.int 3)] [.null, (.int 3), (.int 2)]) (fun t k => st946 t k) ?_
 obtain ⟨_, T947, L947, X947, hQ947, st947⟩ := own_callS X946 hx hZ hown (y := Y25) (ww hw 104 rfl) (ww hw 105 rfl) (ww hw 103 rfl) (ww hw 106 rfl) (by decide) 0 (rm25_103 l Z a0 hw   h0 n0       ) (by decide) (by decide) e946 (by decide) (by decide) (g := (mkF m 5 #[.val (.int 2), .val (.int 3)] [.null, (.int 3), (.int 2)])) rfl (by rw [hml]; rfl) (argsL := [(.int (2 : Int32)), (.int (3 : Int32)), .null]) (rest := []) (lenOf pd_28IILjava2futil2ffunction2fBiFunction3b29I rfl) rfl (by show 2 * 0 + _ ≤ _; exact Nat.le_of_eq rfl) (hb hby d24_5)
 obtain ⟨rfl, N947q, e947⟩ := hQ947
 have N947 := Fr.app N0 N947q
 refine GoW.sg (mkF m 8 #[.val (.int 2), .val (.int 3)] [(.int 2)]) (fun t k => st947 t k) ?_
 refine GoW.sg (mkF m 9 #[.val (.int 2), .val (.int 3)] []) (fun t k => XS.pop X947.here hx rfl (hb hby d24_8) rfl rfl k) ?_
 refine GoW.retV X947 hx Bd.returns (hb hby d24_9) Bd.notSynchronized ?_ (by decide) (by decide)
 rw [e947]
 exact ⟨rfl, N947, rfl⟩
def Q24_108 (Z : State) (a1c : Addr) (h0 : Heap) (n0 : Nat) (v : Option Value) (h : Heap) (L : List Loc) : Prop := v = none ∧ Fr n0 L ∧ (h = h0)
theorem rm24_108 (l : Launch) (Z : State) (a0 : Array Value) (hw : HW a0 Z) (a1c : Addr) (h0 : Heap) (n0 : Nat) (P0 : Sta Z h0 "jdk/internal/util/Preconditions" "SIOOBE_FORMATTER" "Ljava/util/function/BiFunction;" (.ref a1c)) :
  MM l Z Y24 jdk_42_method_155_code 2 none 1 0 0 14 #[(.int 2), (.int 3)] h0 (Q24_108 Z a1c h0 n0) := by
 refine own_start (fun m => (mkF m 0 #[.val (.int 2), .val (.int 3)] [])) (plainFor_of_name pn_java_lang_String) (by simp [entryFrame, mkF, argsToLocals, Value.category]) n0 ?_
 intro p e s m below meth c s₁ Bd hx hby hml hZ hown hnm X0 e0 N0
 refine GoW.sg (mkF m 2 #[.val (.int 2), .val (.int 3)] [(.int 3), (.int 2)]) (fun t k => XS.iloadN X0.here hx rfl (hb hby d24_0) rfl (XS.iloadN X0.here hx rfl (hb hby d24_1) rfl k)) ?_
 obtain ⟨T950, X950, e950, st950⟩ := getS (host := "") X0 hx hZ hown (ww hw 102 rfl) Via.refl e0 P0 (g := (mkF m 2 #[.val (.int 2), .val (.int 3)] [(.int 3), (.int 2)])) rfl (hb hby d24_2)
 refine GoW.sg (mkF m 5 #[.val (.int 2), .val (.int 3)] [(.ref a1c), (.int 3), (.int 2)]) (fun t k => st950 t k) ?_
 obtain ⟨_, T951, L951, X951, hQ951, st951⟩ := own_callS X950 hx hZ hown (y := Y25) (ww hw 104 rfl) (ww hw 105 rfl) (ww hw 103 rfl) (ww hw 106 rfl) (by decide) 0 (rm25_105 l Z a0 hw a1c  h0 n0       ) (by decide) (by decide) e950 (by decide) (by decide) (g := (mkF m 5 #[.val (.int 2), .val (.int 3)] [(.ref a1c), (.int 3), (.int 2)])) rfl (by rw [hml]; rfl) (argsL := [(.int (2 : Int32)), (.int (3 : Int32)), (.ref a1c)]) (rest := []) (lenOf pd_28IILjava2futil2ffunction2fBiFunction3b29I rfl) rfl (by show 2 * 0 + _ ≤ _; exact Nat.le_of_eq rfl) (hb hby d24_5)
 obtain ⟨rfl, N951q, e951⟩ := hQ951
 have N951 := Fr.app N0 N951q
 refine GoW.sg (mkF m 8 #[.val (.int 2), .val (.int 3)] [(.int 2)]) (fun t k => st951 t k) ?_
 refine GoW.sg (mkF m 9 #[.val (.int 2), .val (.int 3)] []) (fun t k => XS.pop X951.here hx rfl (hb hby d24_8) rfl rfl k) ?_
 refine GoW.retV X951 hx Bd.returns (hb hby d24_9) Bd.notSynchronized ?_ (by decide) (by decide)
 rw [e951]
 exact ⟨rfl, N951, rfl⟩
theorem rmCk23 (l : Launch) (Z : State) (a0 : Array Value) (hw : HW a0 Z) (vf : Value) (h0 : Heap) (n0 : Nat) (PF : Sta Z h0 "jdk/internal/util/Preconditions" "SIOOBE_FORMATTER" "Ljava/util/function/BiFunction;" vf) (hvf : Value.isRef vf = true) :
  MM l Z Y24 jdk_42_method_155_code 2 none 1 0 0 14 #[.int 2, .int 3] h0 (NoneQ h0 n0) := by
  rcases ref_cases hvf with rfl | ⟨af, rfl⟩
  · exact (rm24_107 l Z a0 hw   h0 n0  PF   ).mono (fun _ _ h => h) (fun _ _ _ _ _ h => h) (fun _ _ _ _ _ h => h)
  · exact (rm24_108 l Z a0 hw  af h0 n0  PF   ).mono (fun _ _ h => h) (fun _ _ _ _ _ h => h) (fun _ _ _ _ _ h => h)
def Q9_109 (Z : State) (a1c : Addr) (x1c : Int32) (h0 : Heap) (n0 : Nat) (v : Option Value) (h : Heap) (L : List Loc) : Prop := v = some (.int 0) ∧ Fr n0 L ∧ (h = h0)
theorem rm9_109 (l : Launch) (Z : State) (a0 : Array Value) (hw : HW a0 Z) (a1c : Addr) (x1c : Int32) (h0 : Heap) (n0 : Nat) (P0 : Fld Z h0 a1c "java/lang/String" "coder" "B" (.int 0)) (P1 : Sta Z h0 "java/lang/String" "COMPACT_STRINGS" "Z" (.int x1c)) (u0 : ¬ (x1c = (0 : Int32))) :
  MM l Z Y9 jdk_42_method_152_code 1 (some .byte) 0 0 0 0 #[(.ref a1c)] h0 (Q9_109 Z a1c x1c h0 n0) := by
 refine own_start (fun m => (mkF m 0 #[.val (.ref a1c)] [])) (plainFor_of_name pn_java_lang_String) (by simp [entryFrame, mkF, argsToLocals, Value.category]) n0 ?_
 intro p e s m below meth c s₁ Bd hx hby hml hZ hown hnm X0 e0 N0
 obtain ⟨T956, X956, e956, st956⟩ := getS (host := "") X0 hx hZ hown (ww hw 47 rfl) Via.refl e0 P1 (g := (mkF m 0 #[.val (.ref a1c)] [])) rfl (hb hby d9_0)
 refine GoW.sg (mkF m 3 #[.val (.ref a1c)] [(.int x1c)]) (fun t k => st956 t k) ?_
 refine GoW.sg (mkF m 7 #[.val (.ref a1c)] [(.ref a1c)]) (fun t k => XS.ifNo X956.here hx rfl (hb hby d9_3) rfl ((if0 _ _).trans (feq u0).1) (XS.aloadN X956.here hx rfl (hb hby d9_6) rfl rfl k)) ?_
 obtain ⟨T957, X957, e957, st957⟩ := getF X956 hx hZ hown (host := "") (Or.inl (ww hw 32 rfl)) Via.refl e956 P0 (g := (mkF m 7 #[.val (.ref a1c)] [(.ref a1c)])) rfl rfl (hb hby d9_7)
 refine GoW.sg (mkF m 10 #[.val (.ref a1c)] [(.int 0)]) (fun t k => st957 t k) ?_
 refine GoW.sg (mkF m 14 #[.val (.ref a1c)] [(.int 0)]) (fun t k => XS.goto X957.here hx rfl (pc0 := 10) (pc' := 14) rfl (hb hby d9_10) (by decide) (by decide) k) ?_
 refine GoW.retN X957 hx (t := .byte) Bd.returns (by simp) (hb hby d9_14) Bd.notSynchronized ?_ (by decide) (by decide)
 rw [e957]
 exact ⟨rfl, N0, rfl⟩
def Q8_111 (Z : State) (a1c : Addr) (a2c : Addr) (ka2c : ClassId) (x1c : Int32) (h0 : Heap) (n0 : Nat) (v : Option Value) (h : Heap) (L : List Loc) : Prop := v = some (.int 0) ∧ Fr n0 L ∧ (h = h0)
theorem rm8_111 (l : Launch) (Z : State) (a0 : Array Value) (hw : HW a0 Z) (a1c : Addr) (a2c : Addr) (ka2c : ClassId) (x1c : Int32) (h0 : Heap) (n0 : Nat) (P0 : Exa Z h0 a1c "java/lang/String") (P1 : Fld Z h0 a1c "java/lang/String" "coder" "B" (.int 0)) (P2 : Fld Z h0 a1c "java/lang/String" "value" "[B" (.ref a2c)) (P3 : Arv Z h0 a2c ka2c .byte (0 : Int32) [] (.int 0)) (P4 : Sta Z h0 "java/lang/String" "COMPACT_STRINGS" "Z" (.int x1c)) (u0 : ¬ (x1c = (0 : Int32))) :
  MM l Z Y8 jdk_42_method_54_code 1 (some .int) 1 0 0 13 #[(.ref a1c)] h0 (Q8_111 Z a1c a2c ka2c x1c h0 n0) := by
 refine own_start (fun m => (mkF m 0 #[.val (.ref a1c)] [])) (plainFor_of_name pn_java_lang_String) (by simp [entryFrame, mkF, argsToLocals, Value.category]) n0 ?_
 intro p e s m below meth c s₁ Bd hx hby hml hZ hown hnm X0 e0 N0
 refine GoW.sg (mkF m 1 #[.val (.ref a1c)] [(.ref a1c)]) (fun t k => XS.aloadN X0.here hx rfl (hb hby d8_0) rfl rfl k) ?_
 obtain ⟨T965, X965, e965, st965⟩ := getF X0 hx hZ hown (host := "") (Or.inl (ww hw 31 rfl)) Via.refl e0 P2 (g := (mkF m 1 #[.val (.ref a1c)] [(.ref a1c)])) rfl rfl (hb hby d8_1)
 refine GoW.sg (mkF m 4 #[.val (.ref a1c)] [(.ref a2c)]) (fun t k => st965 t k) ?_
 obtain ⟨cl966, Ar966, q966, Sz966, Nn966, Hh966, Gg966⟩ := id P3
 have st966 := X965.arraylength hx (hq_ e965 Ar966.1) (State.isArrayOf_alike hZ.alike Ar966.2.1) (g := (mkF m 4 #[.val (.ref a1c)] [(.ref a2c)])) rfl rfl (hb hby d8_4)
 rw [len_of Sz966 Nn966] at st966
 refine GoW.sg (mkF m 5 #[.val (.ref a1c)] [(.int 0)]) (fun t k => st966 t k) ?_
 refine GoW.sg (mkF m 6 #[.val (.ref a1c)] [(.ref a1c), (.int 0)]) (fun t k => XS.aloadN X965.here hx rfl (hb hby d8_5) rfl rfl k) ?_
 obtain ⟨_, T967, L967, X967, hQ967, st967⟩ := own_virt X965 hx hZ (y := Y9) hown (ww hw 42 rfl) (ww hw 43 rfl) (ww hw 45 rfl) (ww hw 44 rfl) (ww hw 46 rfl) (ww hw 13 rfl) (by decide) 1 (a := a1c) (rm9_109 l Z a0 hw a1c x1c h0 n0  P1 P4   u0  ) (by decide) (by decide) e965 P0 (by decide) (by decide) (g := (mkF m 6 #[.val (.ref a1c)] [(.ref a1c), (.int 0)])) rfl (by rw [hml]; rfl) (argsL := []) (rest := [(.int (0 : Int32))]) (lenOf pd_2829B rfl) rfl (by show 2 * 0 + _ ≤ _; exact Nat.le_of_eq rfl) (hb hby d8_6)
 obtain ⟨rfl, N967q, e967⟩ := hQ967
 have N967 := Fr.app N0 N967q
 refine GoW.sg (mkF m 9 #[.val (.ref a1c)] [(.int 0), (.int 0)]) (fun t k => st967 t k) ?_
 refine GoW.st (fun t k => XS.ishr X967.here hx rfl (hb hby d8_9) rfl k) ?_
 rw [show ((0 : Int32) >>> ((0 : Int32) &&& 31)) = (0 : Int32) from by decide]
 show GoW p e below s (Q8_111 Z a1c a2c ka2c x1c h0 n0) 0 0 (T967.setTop (mkF m 10 #[.val (.ref a1c)] [(.int 0)]))
 refine GoW.retI X967 hx Bd.returns (hb hby d8_10) Bd.notSynchronized ?_ (by decide) (by decide)
 rw [e967]
 exact ⟨rfl, N967, rfl⟩
theorem rmLen0 (l : Launch) (Z : State) (a0 : Array Value) (hw : HW a0 Z) (a1 : Addr)  (cs : Int32) (h0 : Heap) (n0 : Nat) (PE : Exa Z h0 a1 "java/lang/String") (hS : Str0 Z h0 a1 ) (PC : Sta Z h0 "java/lang/String" "COMPACT_STRINGS" "Z" (.int cs)) (ncs : ¬ (cs = (0 : Int32))) :
  MM l Z Y8 jdk_42_method_54_code 1 (some .int) 1 0 0 13 #[(.ref a1)] h0 (PureQ (.int (0 : Int32)) h0 n0) := by
  obtain ⟨b, kb, PV, PK, PB⟩ := hS
  exact (rm8_111 l Z a0 hw a1 b kb cs h0 n0  PE PK PV PB PC   ncs).mono (fun _ _ h => h) (fun _ _ _ _ _ h => h) (fun _ _ _ _ _ h => h)
def Q9_113 (Z : State) (a1c : Addr) (x1c : Int32) (h0 : Heap) (n0 : Nat) (v : Option Value) (h : Heap) (L : List Loc) : Prop := v = some (.int 1) ∧ Fr n0 L ∧ (h = h0)
theorem rm9_113 (l : Launch) (Z : State) (a0 : Array Value) (hw : HW a0 Z) (a1c : Addr) (x1c : Int32) (h0 : Heap) (n0 : Nat) (P0 : Fld Z h0 a1c "java/lang/String" "coder" "B" (.int 1)) (P1 : Sta Z h0 "java/lang/String" "COMPACT_STRINGS" "Z" (.int x1c)) (u0 : ¬ (x1c = (0 : Int32))) :
  MM l Z Y9 jdk_42_method_152_code 1 (some .byte) 0 0 0 0 #[(.ref a1c)] h0 (Q9_113 Z a1c x1c h0 n0) := by
 refine own_start (fun m => (mkF m 0 #[.val (.ref a1c)] [])) (plainFor_of_name pn_java_lang_String) (by simp [entryFrame, mkF, argsToLocals, Value.category]) n0 ?_
 intro p e s m below meth c s₁ Bd hx hby hml hZ hown hnm X0 e0 N0
 obtain ⟨T980, X980, e980, st980⟩ := getS (host := "") X0 hx hZ hown (ww hw 47 rfl) Via.refl e0 P1 (g := (mkF m 0 #[.val (.ref a1c)] [])) rfl (hb hby d9_0)
 refine GoW.sg (mkF m 3 #[.val (.ref a1c)] [(.int x1c)]) (fun t k => st980 t k) ?_
 refine GoW.sg (mkF m 7 #[.val (.ref a1c)] [(.ref a1c)]) (fun t k => XS.ifNo X980.here hx rfl (hb hby d9_3) rfl ((if0 _ _).trans (feq u0).1) (XS.aloadN X980.here hx rfl (hb hby d9_6) rfl rfl k)) ?_
 obtain ⟨T981, X981, e981, st981⟩ := getF X980 hx hZ hown (host := "") (Or.inl (ww hw 32 rfl)) Via.refl e980 P0 (g := (mkF m 7 #[.val (.ref a1c)] [(.ref a1c)])) rfl rfl (hb hby d9_7)
 refine GoW.sg (mkF m 10 #[.val (.ref a1c)] [(.int 1)]) (fun t k => st981 t k) ?_
 refine GoW.sg (mkF m 14 #[.val (.ref a1c)] [(.int 1)]) (fun t k => XS.goto X981.here hx rfl (pc0 := 10) (pc' := 14) rfl (hb hby d9_10) (by decide) (by decide) k) ?_
 refine GoW.retN X981 hx (t := .byte) Bd.returns (by simp) (hb hby d9_14) Bd.notSynchronized ?_ (by decide) (by decide)
 rw [e981]
 exact ⟨rfl, N0, rfl⟩
def Q8_115 (Z : State) (a1c : Addr) (a2c : Addr) (ka2c : ClassId) (x1c : Int32) (x2c : Int32) (h0 : Heap) (n0 : Nat) (v : Option Value) (h : Heap) (L : List Loc) : Prop := v = some (.int 1) ∧ Fr n0 L ∧ (h = h0)
theorem rm8_115 (l : Launch) (Z : State) (a0 : Array Value) (hw : HW a0 Z) (a1c : Addr) (a2c : Addr) (ka2c : ClassId) (x1c : Int32) (x2c : Int32) (h0 : Heap) (n0 : Nat) (P0 : Exa Z h0 a1c "java/lang/String") (P1 : Fld Z h0 a1c "java/lang/String" "coder" "B" (.int 0)) (P2 : Fld Z h0 a1c "java/lang/String" "value" "[B" (.ref a2c)) (P3 : Arv Z h0 a2c ka2c .byte (1 : Int32) [(.int x1c)] (.int 0)) (P4 : Sta Z h0 "java/lang/String" "COMPACT_STRINGS" "Z" (.int x2c)) (u0 : ¬ (x2c = (0 : Int32))) :
  MM l Z Y8 jdk_42_method_54_code 1 (some .int) 1 0 0 13 #[(.ref a1c)] h0 (Q8_115 Z a1c a2c ka2c x1c x2c h0 n0) := by
 refine own_start (fun m => (mkF m 0 #[.val (.ref a1c)] [])) (plainFor_of_name pn_java_lang_String) (by simp [entryFrame, mkF, argsToLocals, Value.category]) n0 ?_
 intro p e s m below meth c s₁ Bd hx hby hml hZ hown hnm X0 e0 N0
 refine GoW.sg (mkF m 1 #[.val (.ref a1c)] [(.ref a1c)]) (fun t k => XS.aloadN X0.here hx rfl (hb hby d8_0) rfl rfl k) ?_
 obtain ⟨T989, X989, e989, st989⟩ := getF X0 hx hZ hown (host := "") (Or.inl (ww hw 31 rfl)) Via.refl e0 P2 (g := (mkF m 1 #[.val (.ref a1c)] [(.ref a1c)])) rfl rfl (hb hby d8_1)
 refine GoW.sg (mkF m 4 #[.val (.ref a1c)] [(.ref a2c)]) (fun t k => st989 t k) ?_
 obtain ⟨cl990, Ar990, q990, Sz990, Nn990, Hh990, Gg990⟩ := id P3
 have st990 := X989.arraylength hx (hq_ e989 Ar990.1) (State.isArrayOf_alike hZ.alike Ar990.2.1) (g := (mkF m 4 #[.val (.ref a1c)] [(.ref a2c)])) rfl rfl (hb hby d8_4)
 rw [len_of Sz990 Nn990] at st990
 refine GoW.sg (mkF m 5 #[.val (.ref a1c)] [(.int 1)]) (fun t k => st990 t k) ?_
 refine GoW.sg (mkF m 6 #[.val (.ref a1c)] [(.ref a1c), (.int 1)]) (fun t k => XS.aloadN X989.here hx rfl (hb hby d8_5) rfl rfl k) ?_
 obtain ⟨_, T991, L991, X991, hQ991, st991⟩ := own_virt X989 hx hZ (y := Y9) hown (ww hw 42 rfl) (ww hw 43 rfl) (ww hw 45 rfl) (ww hw 44 rfl) (ww hw 46 rfl) (ww hw 13 rfl) (by decide) 1 (a := a1c) (rm9_109 l Z a0 hw a1c x2c h0 n0  P1 P4   u0  ) (by decide) (by decide) e989 P0 (by decide) (by decide) (g := (mkF m 6 #[.val (.ref a1c)] [(.ref a1c), (.int 1)])) rfl (by rw [hml]; rfl) (argsL := []) (rest := [(.int (1 : Int32))]) (lenOf pd_2829B rfl) rfl (by show 2 * 0 + _ ≤ _; exact Nat.le_of_eq rfl) (hb hby d8_6)
 obtain ⟨rfl, N991q, e991⟩ := hQ991
 have N991 := Fr.app N0 N991q
 refine GoW.sg (mkF m 9 #[.val (.ref a1c)] [(.int 0), (.int 1)]) (fun t k => st991 t k) ?_
 refine GoW.st (fun t k => XS.ishr X991.here hx rfl (hb hby d8_9) rfl k) ?_
 rw [show ((1 : Int32) >>> ((0 : Int32) &&& 31)) = (1 : Int32) from by decide]
 show GoW p e below s (Q8_115 Z a1c a2c ka2c x1c x2c h0 n0) 0 0 (T991.setTop (mkF m 10 #[.val (.ref a1c)] [(.int 1)]))
 refine GoW.retI X991 hx Bd.returns (hb hby d8_10) Bd.notSynchronized ?_ (by decide) (by decide)
 rw [e991]
 exact ⟨rfl, N991, rfl⟩
def Q8_116 (Z : State) (a1c : Addr) (a2c : Addr) (ka2c : ClassId) (x1c : Int32) (x2c : Int32) (x3c : Int32) (h0 : Heap) (n0 : Nat) (v : Option Value) (h : Heap) (L : List Loc) : Prop := v = some (.int 1) ∧ Fr n0 L ∧ (h = h0)
theorem rm8_116 (l : Launch) (Z : State) (a0 : Array Value) (hw : HW a0 Z) (a1c : Addr) (a2c : Addr) (ka2c : ClassId) (x1c : Int32) (x2c : Int32) (x3c : Int32) (h0 : Heap) (n0 : Nat) (P0 : Exa Z h0 a1c "java/lang/String") (P1 : Fld Z h0 a1c "java/lang/String" "coder" "B" (.int 1)) (P2 : Fld Z h0 a1c "java/lang/String" "value" "[B" (.ref a2c)) (P3 : Arv Z h0 a2c ka2c .byte (2 : Int32) [(.int x1c), (.int x2c)] (.int 0)) (P4 : Sta Z h0 "java/lang/String" "COMPACT_STRINGS" "Z" (.int x3c)) (u0 : ¬ (x3c = (0 : Int32))) :
  MM l Z Y8 jdk_42_method_54_code 1 (some .int) 1 0 0 13 #[(.ref a1c)] h0 (Q8_116 Z a1c a2c ka2c x1c x2c x3c h0 n0) := by
 refine own_start (fun m => (mkF m 0 #[.val (.ref a1c)] [])) (plainFor_of_name pn_java_lang_String) (by simp [entryFrame, mkF, argsToLocals, Value.category]) n0 ?_
 intro p e s m below meth c s₁ Bd hx hby hml hZ hown hnm X0 e0 N0
 refine GoW.sg (mkF m 1 #[.val (.ref a1c)] [(.ref a1c)]) (fun t k => XS.aloadN X0.here hx rfl (hb hby d8_0) rfl rfl k) ?_
 obtain ⟨T995, X995, e995, st995⟩ := getF X0 hx hZ hown (host := "") (Or.inl (ww hw 31 rfl)) Via.refl e0 P2 (g := (mkF m 1 #[.val (.ref a1c)] [(.ref a1c)])) rfl rfl (hb hby d8_1)
 refine GoW.sg (mkF m 4 #[.val (.ref a1c)] [(.ref a2c)]) (fun t k => st995 t k) ?_
 obtain ⟨cl996, Ar996, q996, Sz996, Nn996, Hh996, Gg996⟩ := id P3
 have st996 := X995.arraylength hx (hq_ e995 Ar996.1) (State.isArrayOf_alike hZ.alike Ar996.2.1) (g := (mkF m 4 #[.val (.ref a1c)] [(.ref a2c)])) rfl rfl (hb hby d8_4)
 rw [len_of Sz996 Nn996] at st996
 refine GoW.sg (mkF m 5 #[.val (.ref a1c)] [(.int 2)]) (fun t k => st996 t k) ?_
 refine GoW.sg (mkF m 6 #[.val (.ref a1c)] [(.ref a1c), (.int 2)]) (fun t k => XS.aloadN X995.here hx rfl (hb hby d8_5) rfl rfl k) ?_
 obtain ⟨_, T997, L997, X997, hQ997, st997⟩ := own_virt X995 hx hZ (y := Y9) hown (ww hw 42 rfl) (ww hw 43 rfl) (ww hw 45 rfl) (ww hw 44 rfl) (ww hw 46 rfl) (ww hw 13 rfl) (by decide) 1 (a := a1c) (rm9_113 l Z a0 hw a1c x3c h0 n0  P1 P4   u0  ) (by decide) (by decide) e995 P0 (by decide) (by decide) (g := (mkF m 6 #[.val (.ref a1c)] [(.ref a1c), (.int 2)])) rfl (by rw [hml]; rfl) (argsL := []) (rest := [(.int (2 : Int32))]) (lenOf pd_2829B rfl) rfl (by show 2 * 0 + _ ≤ _; exact Nat.le_of_eq rfl) (hb hby d8_6)
 obtain ⟨rfl, N997q, e997⟩ := hQ997
 have N997 := Fr.app N0 N997q
 refine GoW.sg (mkF m 9 #[.val (.ref a1c)] [(.int 1), (.int 2)]) (fun t k => st997 t k) ?_
 refine GoW.st (fun t k => XS.ishr X997.here hx rfl (hb hby d8_9) rfl k) ?_
 rw [show ((2 : Int32) >>> ((1 : Int32) &&& 31)) = (1 : Int32) from by decide]
 show GoW p e below s (Q8_116 Z a1c a2c ka2c x1c x2c x3c h0 n0) 0 0 (T997.setTop (mkF m 10 #[.val (.ref a1c)] [(.int 1)]))
 refine GoW.retI X997 hx Bd.returns (hb hby d8_10) Bd.notSynchronized ?_ (by decide) (by decide)
 rw [e997]
 exact ⟨rfl, N997, rfl⟩
theorem rmLen1 (l : Launch) (Z : State) (a0 : Array Value) (hw : HW a0 Z) (a1 : Addr) (c0 : Int32) (cs : Int32) (h0 : Heap) (n0 : Nat) (PE : Exa Z h0 a1 "java/lang/String") (hS : Str1 Z h0 a1 c0) (PC : Sta Z h0 "java/lang/String" "COMPACT_STRINGS" "Z" (.int cs)) (ncs : ¬ (cs = (0 : Int32))) :
  MM l Z Y8 jdk_42_method_54_code 1 (some .int) 1 0 0 13 #[(.ref a1)] h0 (PureQ (.int (1 : Int32)) h0 n0) := by
  rcases hS with ⟨b, kb, PV, PK, PB, b0⟩ | ⟨b, kb, PV, PK, PB⟩
  · exact (rm8_115 l Z a0 hw a1 b kb (lat8 c0) cs h0 n0  PE PK PV PB PC   ncs).mono (fun _ _ h => h) (fun _ _ _ _ _ h => h) (fun _ _ _ _ _ h => h)
  · exact (rm8_116 l Z a0 hw a1 b kb (lo8 c0) (hi8 c0) cs h0 n0  PE PK PV PB PC   ncs).mono (fun _ _ h => h) (fun _ _ _ _ _ h => h) (fun _ _ _ _ _ h => h)
def Q20_117 (Z : State) (a1c : Addr) (x1c : Int32) (h0 : Heap) (n0 : Nat) (v : Option Value) (h : Heap) (L : List Loc) : Prop := v = some (.int 1) ∧ Fr n0 L ∧ (h = h0)
theorem rm20_117 (l : Launch) (Z : State) (a0 : Array Value) (hw : HW a0 Z) (a1c : Addr) (x1c : Int32) (h0 : Heap) (n0 : Nat) (P0 : Fld Z h0 a1c "java/lang/String" "coder" "B" (.int 0)) (P1 : Sta Z h0 "java/lang/String" "COMPACT_STRINGS" "Z" (.int x1c)) (u0 : ¬ (x1c = (0 : Int32))) :
  MM l Z Y20 jdk_42_method_154_code 1 (some .boolean) 0 0 0 0 #[(.ref a1c)] h0 (Q20_117 Z a1c x1c h0 n0) := by
 refine own_start (fun m => (mkF m 0 #[.val (.ref a1c)] [])) (plainFor_of_name pn_java_lang_String) (by simp [entryFrame, mkF, argsToLocals, Value.category]) n0 ?_
 intro p e s m below meth c s₁ Bd hx hby hml hZ hown hnm X0 e0 N0
 obtain ⟨T1000, X1000, e1000, st1000⟩ := getS (host := "") X0 hx hZ hown (ww hw 47 rfl) Via.refl e0 P1 (g := (mkF m 0 #[.val (.ref a1c)] [])) rfl (hb hby d20_0)
 refine GoW.sg (mkF m 3 #[.val (.ref a1c)] [(.int x1c)]) (fun t k => st1000 t k) ?_
 refine GoW.sg (mkF m 7 #[.val (.ref a1c)] [(.ref a1c)]) (fun t k => XS.ifNo X1000.here hx rfl (hb hby d20_3) rfl ((if0 _ _).trans (feq u0).1) (XS.aloadN X1000.here hx rfl (hb hby d20_6) rfl rfl k)) ?_
 obtain ⟨T1001, X1001, e1001, st1001⟩ := getF X1000 hx hZ hown (host := "") (Or.inl (ww hw 32 rfl)) Via.refl e1000 P0 (g := (mkF m 7 #[.val (.ref a1c)] [(.ref a1c)])) rfl rfl (hb hby d20_7)
 refine GoW.sg (mkF m 10 #[.val (.ref a1c)] [(.int 0)]) (fun t k => st1001 t k) ?_
 refine GoW.sg (mkF m 18 #[.val (.ref a1c)] [(.int 1)]) (fun t k => XS.ifNo X1001.here hx rfl (hb hby d20_10) rfl (by decide) (XS.iconst X1001.here hx rfl (hb hby d20_13) (XS.goto X1001.here hx rfl (pc0 := 14) (pc' := 18) rfl (hb hby d20_14) (by decide) (by decide) k))) ?_
 refine GoW.retN X1001 hx (t := .boolean) Bd.returns (by simp) (hb hby d20_18) Bd.notSynchronized ?_ (by decide) (by decide)
 rw [e1001]
 exact ⟨rfl, N0, rfl⟩
def Q26_118 (Z : State) (a1c : Addr) (ka1c : ClassId) (x1c : Int32) (x2c : Value) (h0 : Heap) (n0 : Nat) (v : Option Value) (h : Heap) (L : List Loc) : Prop := v = some (.int (nar .char (x1c &&& (255 : Int32)).toUInt32.toUInt16.toUInt32.toInt32)) ∧ Fr n0 L ∧ (h = h0)
theorem rm26_118 (l : Launch) (Z : State) (a0 : Array Value) (hw : HW a0 Z) (a1c : Addr) (ka1c : ClassId) (x1c : Int32) (x2c : Value) (h0 : Heap) (n0 : Nat) (P0 : Arv Z h0 a1c ka1c .byte (1 : Int32) [(.int x1c)] (.int 0)) (P1 : Sta Z h0 "jdk/internal/util/Preconditions" "SIOOBE_FORMATTER" "Ljava/util/function/BiFunction;" x2c) (u0 : Value.isRef x2c = true) :
  MM l Z Y26 jdk_43_method_2_code 2 (some .char) 2 0 0 27 #[(.ref a1c), (.int 0)] h0 (Q26_118 Z a1c ka1c x1c x2c h0 n0) := by
 refine own_start (fun m => (mkF m 0 #[.val (.ref a1c), .val (.int 0)] [])) (plainFor_of_name pn_java_lang_StringLatin1) (by simp [entryFrame, mkF, argsToLocals, Value.category]) n0 ?_
 intro p e s m below meth c s₁ Bd hx hby hml hZ hown hnm X0 e0 N0
 refine GoW.sg (mkF m 2 #[.val (.ref a1c), .val (.int 0)] [(.ref a1c), (.int 0)]) (fun t k => XS.iloadN X0.here hx rfl (hb hby d26_0) rfl (XS.aloadN X0.here hx rfl (hb hby d26_1) rfl rfl k)) ?_
 obtain ⟨cl1007, Ar1007, q1007, Sz1007, Nn1007, Hh1007, Gg1007⟩ := id P0
 have st1007 := X0.arraylength hx (hq_ e0 Ar1007.1) (State.isArrayOf_alike hZ.alike Ar1007.2.1) (g := (mkF m 2 #[.val (.ref a1c), .val (.int 0)] [(.ref a1c), (.int 0)])) rfl rfl (hb hby d26_2)
 rw [len_of Sz1007 Nn1007] at st1007
 refine GoW.sg (mkF m 3 #[.val (.ref a1c), .val (.int 0)] [(.int 1), (.int 0)]) (fun t k => st1007 t k) ?_
 obtain ⟨_, T1008, L1008, X1008, hQ1008, st1008⟩ := own_callS X0 hx hZ hown (y := Y24) (ww hw 111 rfl) (ww hw 100 rfl) (ww hw 13 rfl) (ww hw 101 rfl) (by decide) 0 (rmCk01 l Z a0 hw x2c h0 n0 P1 u0) (by decide) (by decide) e0 (by decide) (by decide) (g := (mkF m 3 #[.val (.ref a1c), .val (.int 0)] [(.int 1), (.int 0)])) rfl (by rw [hml]; rfl) (argsL := [(.int (0 : Int32)), (.int (1 : Int32))]) (rest := []) (lenOf pd_28II29V rfl) rfl (by show 2 * 0 + _ ≤ _; exact Nat.le_of_eq rfl) (hb hby d26_3)
 obtain ⟨rfl, N1008q, e1008⟩ := hQ1008
 have N1008 := Fr.app N0 N1008q
 refine GoW.sg (mkF m 6 #[.val (.ref a1c), .val (.int 0)] []) (fun t k => st1008 t k) ?_
 refine GoW.sg (mkF m 8 #[.val (.ref a1c), .val (.int 0)] [(.int 0), (.ref a1c)]) (fun t k => XS.aloadN X1008.here hx rfl (hb hby d26_6) rfl rfl (XS.iloadN X1008.here hx rfl (hb hby d26_7) rfl k)) ?_
 obtain ⟨cl1009, Ar1009, q1009, Sz1009, Nn1009, Hh1009, Gg1009⟩ := id P0
 have hin1009 : ¬ ((0 : Int32) < 0 ∨ cl1009.slots.size ≤ ((0 : Int32)).toNatClampNeg) := inb_of Sz1009 ⟨by decide, by decide⟩
 refine GoW.sg (mkF m 9 #[.val (.ref a1c), .val (.int 0)] [(.int x1c)]) (fun t k => X1008.baloadBytes hx (j := (0 : Int32)) (v := (.int x1c)) (hq_ e1008 Ar1009.1) (State.isArrayOf_alike hZ.alike Ar1009.2.1) Ar1009.2.2 hin1009 (Hh1009.at hin1009 rfl) (g := (mkF m 8 #[.val (.ref a1c), .val (.int 0)] [(.int 0), (.ref a1c)])) rfl rfl (hb hby d26_8) t k) ?_
 refine GoW.sg (mkF m 14 #[.val (.ref a1c), .val (.int 0)] [(.int (x1c &&& (255 : Int32)).toUInt32.toUInt16.toUInt32.toInt32)]) (fun t k => XS.sipush X1008.here hx rfl (hb hby d26_9) (XS.iand X1008.here hx rfl (hb hby d26_12) rfl (XS.i2c X1008.here hx rfl (hb hby d26_13) rfl k))) ?_
 refine GoW.retN X1008 hx (t := .char) Bd.returns (by simp) (hb hby d26_14) Bd.notSynchronized ?_ (by decide) (by decide)
 rw [e1008]
 exact ⟨rfl, N1008, rfl⟩
def Q20_120 (Z : State) (a1c : Addr) (x1c : Int32) (h0 : Heap) (n0 : Nat) (v : Option Value) (h : Heap) (L : List Loc) : Prop := v = some (.int 0) ∧ Fr n0 L ∧ (h = h0)
theorem rm20_120 (l : Launch) (Z : State) (a0 : Array Value) (hw : HW a0 Z) (a1c : Addr) (x1c : Int32) (h0 : Heap) (n0 : Nat) (P0 : Fld Z h0 a1c "java/lang/String" "coder" "B" (.int 1)) (P1 : Sta Z h0 "java/lang/String" "COMPACT_STRINGS" "Z" (.int x1c)) (u0 : ¬ (x1c = (0 : Int32))) :
  MM l Z Y20 jdk_42_method_154_code 1 (some .boolean) 0 0 0 0 #[(.ref a1c)] h0 (Q20_120 Z a1c x1c h0 n0) := by
 refine own_start (fun m => (mkF m 0 #[.val (.ref a1c)] [])) (plainFor_of_name pn_java_lang_String) (by simp [entryFrame, mkF, argsToLocals, Value.category]) n0 ?_
 intro p e s m below meth c s₁ Bd hx hby hml hZ hown hnm X0 e0 N0
 obtain ⟨T1021, X1021, e1021, st1021⟩ := getS (host := "") X0 hx hZ hown (ww hw 47 rfl) Via.refl e0 P1 (g := (mkF m 0 #[.val (.ref a1c)] [])) rfl (hb hby d20_0)
 refine GoW.sg (mkF m 3 #[.val (.ref a1c)] [(.int x1c)]) (fun t k => st1021 t k) ?_
 refine GoW.sg (mkF m 7 #[.val (.ref a1c)] [(.ref a1c)]) (fun t k => XS.ifNo X1021.here hx rfl (hb hby d20_3) rfl ((if0 _ _).trans (feq u0).1) (XS.aloadN X1021.here hx rfl (hb hby d20_6) rfl rfl k)) ?_
 obtain ⟨T1022, X1022, e1022, st1022⟩ := getF X1021 hx hZ hown (host := "") (Or.inl (ww hw 32 rfl)) Via.refl e1021 P0 (g := (mkF m 7 #[.val (.ref a1c)] [(.ref a1c)])) rfl rfl (hb hby d20_7)
 refine GoW.sg (mkF m 10 #[.val (.ref a1c)] [(.int 1)]) (fun t k => st1022 t k) ?_
 refine GoW.sg (mkF m 18 #[.val (.ref a1c)] [(.int 0)]) (fun t k => XS.ifYes X1022.here hx rfl (pc0 := 10) (pc' := 17) rfl (hb hby d20_10) rfl (by decide) (by decide) (by decide) (XS.iconst X1022.here hx rfl (hb hby d20_17) k)) ?_
 refine GoW.retN X1022 hx (t := .boolean) Bd.returns (by simp) (hb hby d20_18) Bd.notSynchronized ?_ (by decide) (by decide)
 rw [e1022]
 exact ⟨rfl, N0, rfl⟩
def Q23_121 (Z : State) (a1c : Addr) (ka1c : ClassId) (x1c : Int32) (x2c : Int32) (h0 : Heap) (n0 : Nat) (v : Option Value) (h : Heap) (L : List Loc) : Prop := v = some (.int 1) ∧ Fr n0 L ∧ (h = h0)
theorem rm23_121 (l : Launch) (Z : State) (a0 : Array Value) (hw : HW a0 Z) (a1c : Addr) (ka1c : ClassId) (x1c : Int32) (x2c : Int32) (h0 : Heap) (n0 : Nat) (P0 : Arv Z h0 a1c ka1c .byte (2 : Int32) [(.int x1c), (.int x2c)] (.int 0)) :
  MM l Z Y23 jdk_52_method_6_code 1 (some .int) 0 0 0 0 #[(.ref a1c)] h0 (Q23_121 Z a1c ka1c x1c x2c h0 n0) := by
 refine own_start (fun m => (mkF m 0 #[.val (.ref a1c)] [])) (plainFor_of_name pn_java_lang_StringUTF16) (by simp [entryFrame, mkF, argsToLocals, Value.category]) n0 ?_
 intro p e s m below meth c s₁ Bd hx hby hml hZ hown hnm X0 e0 N0
 refine GoW.sg (mkF m 1 #[.val (.ref a1c)] [(.ref a1c)]) (fun t k => XS.aloadN X0.here hx rfl (hb hby d23_0) rfl rfl k) ?_
 obtain ⟨cl1026, Ar1026, q1026, Sz1026, Nn1026, Hh1026, Gg1026⟩ := id P0
 have st1026 := X0.arraylength hx (hq_ e0 Ar1026.1) (State.isArrayOf_alike hZ.alike Ar1026.2.1) (g := (mkF m 1 #[.val (.ref a1c)] [(.ref a1c)])) rfl rfl (hb hby d23_1)
 rw [len_of Sz1026 Nn1026] at st1026
 refine GoW.sg (mkF m 2 #[.val (.ref a1c)] [(.int 2)]) (fun t k => st1026 t k) ?_
 refine GoW.sg (mkF m 3 #[.val (.ref a1c)] [(.int 1), (.int 2)]) (fun t k => XS.iconst X0.here hx rfl (hb hby d23_2) k) ?_
 refine GoW.st (fun t k => XS.ishr X0.here hx rfl (hb hby d23_3) rfl k) ?_
 rw [show ((2 : Int32) >>> ((1 : Int32) &&& 31)) = (1 : Int32) from by decide]
 show GoW p e below s (Q23_121 Z a1c ka1c x1c x2c h0 n0) 0 0 (s₁.setTop (mkF m 4 #[.val (.ref a1c)] [(.int 1)]))
 refine GoW.retI X0 hx Bd.returns (hb hby d23_4) Bd.notSynchronized ?_ (by decide) (by decide)
 rw [e0]
 exact ⟨rfl, N0, rfl⟩
def Q22_122 (Z : State) (a1c : Addr) (ka1c : ClassId) (x1c : Int32) (x2c : Int32) (x3c : Value) (h0 : Heap) (n0 : Nat) (v : Option Value) (h : Heap) (L : List Loc) : Prop := v = none ∧ Fr n0 L ∧ (h = h0)
theorem rm22_122 (l : Launch) (Z : State) (a0 : Array Value) (hw : HW a0 Z) (a1c : Addr) (ka1c : ClassId) (x1c : Int32) (x2c : Int32) (x3c : Value) (h0 : Heap) (n0 : Nat) (P0 : Arv Z h0 a1c ka1c .byte (2 : Int32) [(.int x1c), (.int x2c)] (.int 0)) (P1 : Sta Z h0 "jdk/internal/util/Preconditions" "SIOOBE_FORMATTER" "Ljava/util/function/BiFunction;" x3c) (u0 : Value.isRef x3c = true) :
  MM l Z Y22 jdk_52_method_91_code 2 none 2 0 0 27 #[(.int 0), (.ref a1c)] h0 (Q22_122 Z a1c ka1c x1c x2c x3c h0 n0) := by
 refine own_start (fun m => (mkF m 0 #[.val (.int 0), .val (.ref a1c)] [])) (plainFor_of_name pn_java_lang_StringUTF16) (by simp [entryFrame, mkF, argsToLocals, Value.category]) n0 ?_
 intro p e s m below meth c s₁ Bd hx hby hml hZ hown hnm X0 e0 N0
 refine GoW.sg (mkF m 2 #[.val (.int 0), .val (.ref a1c)] [(.ref a1c), (.int 0)]) (fun t k => XS.iloadN X0.here hx rfl (hb hby d22_0) rfl (XS.aloadN X0.here hx rfl (hb hby d22_1) rfl rfl k)) ?_
 obtain ⟨_, T1030, L1030, X1030, hQ1030, st1030⟩ := own_callS X0 hx hZ hown (y := Y23) (ww hw 96 rfl) (ww hw 97 rfl) (ww hw 50 rfl) (ww hw 98 rfl) (by decide) 1 (rm23_121 l Z a0 hw a1c ka1c x1c x2c h0 n0  P0     ) (by decide) (by decide) e0 (by decide) (by decide) (g := (mkF m 2 #[.val (.int 0), .val (.ref a1c)] [(.ref a1c), (.int 0)])) rfl (by rw [hml]; rfl) (argsL := [(.ref a1c)]) (rest := [(.int (0 : Int32))]) (lenOf pd_285bB29I rfl) rfl (by show 2 * 0 + _ ≤ _; exact Nat.le_of_eq rfl) (hb hby d22_2)
 obtain ⟨rfl, N1030q, e1030⟩ := hQ1030
 have N1030 := Fr.app N0 N1030q
 refine GoW.sg (mkF m 5 #[.val (.int 0), .val (.ref a1c)] [(.int 1), (.int 0)]) (fun t k => st1030 t k) ?_
 obtain ⟨_, T1031, L1031, X1031, hQ1031, st1031⟩ := own_callS X1030 hx hZ hown (y := Y24) (ww hw 99 rfl) (ww hw 100 rfl) (ww hw 13 rfl) (ww hw 101 rfl) (by decide) 0 (rmCk01 l Z a0 hw x3c h0 n0 P1 u0) (by decide) (by decide) e1030 (by decide) (by decide) (g := (mkF m 5 #[.val (.int 0), .val (.ref a1c)] [(.int 1), (.int 0)])) rfl (by rw [hml]; rfl) (argsL := [(.int (0 : Int32)), (.int (1 : Int32))]) (rest := []) (lenOf pd_28II29V rfl) rfl (by show 2 * 0 + _ ≤ _; exact Nat.le_of_eq rfl) (hb hby d22_5)
 obtain ⟨rfl, N1031q, e1031⟩ := hQ1031
 have N1031 := Fr.app N1030 N1031q
 refine GoW.sg (mkF m 8 #[.val (.int 0), .val (.ref a1c)] []) (fun t k => st1031 t k) ?_
 refine GoW.retV X1031 hx Bd.returns (hb hby d22_8) Bd.notSynchronized ?_ (by decide) (by decide)
 rw [e1031]
 exact ⟨rfl, N1031, rfl⟩
def Q21_123 (Z : State) (a1c : Addr) (ka1c : ClassId) (x1c : Int32) (x2c : Int32) (x3c : Value) (h0 : Heap) (n0 : Nat) (v : Option Value) (h : Heap) (L : List Loc) : Prop := v = some (.int (nar .char (nar .char (((x1c &&& (255 : Int32)) <<< ((0 : Int32) &&& 31)) ||| ((x2c &&& (255 : Int32)) <<< ((8 : Int32) &&& 31))).toUInt32.toUInt16.toUInt32.toInt32))) ∧ Fr n0 L ∧ (h = h0)
theorem rm21_123 (l : Launch) (Z : State) (a0 : Array Value) (hw : HW a0 Z) (a1c : Addr) (ka1c : ClassId) (x1c : Int32) (x2c : Int32) (x3c : Value) (h0 : Heap) (n0 : Nat) (P0 : Arv Z h0 a1c ka1c .byte (2 : Int32) [(.int x1c), (.int x2c)] (.int 0)) (P1 : Sta Z h0 "java/lang/StringUTF16" "$assertionsDisabled" "Z" (.int 1)) (P2 : Sta Z h0 "java/lang/StringUTF16" "HI_BYTE_SHIFT" "I" (.int 0)) (P3 : Sta Z h0 "java/lang/StringUTF16" "LO_BYTE_SHIFT" "I" (.int 8)) (P4 : Sta Z h0 "jdk/internal/util/Preconditions" "SIOOBE_FORMATTER" "Ljava/util/function/BiFunction;" x3c) (u0 : Value.isRef x3c = true) :
  MM l Z Y21 jdk_52_method_83_code 2 (some .char) 3 0 0 40 #[(.ref a1c), (.int 0)] h0 (Q21_123 Z a1c ka1c x1c x2c x3c h0 n0) := by
 refine own_start (fun m => (mkF m 0 #[.val (.ref a1c), .val (.int 0)] [])) (plainFor_of_name pn_java_lang_StringUTF16) (by simp [entryFrame, mkF, argsToLocals, Value.category]) n0 ?_
 intro p e s m below meth c s₁ Bd hx hby hml hZ hown hnm X0 e0 N0
 refine GoW.sg (mkF m 2 #[.val (.ref a1c), .val (.int 0)] [(.ref a1c), (.int 0)]) (fun t k => XS.iloadN X0.here hx rfl (hb hby d21_0) rfl (XS.aloadN X0.here hx rfl (hb hby d21_1) rfl rfl k)) ?_
 obtain ⟨_, T1042, L1042, X1042, hQ1042, st1042⟩ := own_callS X0 hx hZ hown (y := Y22) (ww hw 93 rfl) (ww hw 94 rfl) (ww hw 50 rfl) (ww hw 95 rfl) (by decide) 0 (rm22_122 l Z a0 hw a1c ka1c x1c x2c x3c h0 n0  P0 P4   u0  ) (by decide) (by decide) e0 (by decide) (by decide) (g := (mkF m 2 #[.val (.ref a1c), .val (.int 0)] [(.ref a1c), (.int 0)])) rfl (by rw [hml]; rfl) (argsL := [(.int (0 : Int32)), (.ref a1c)]) (rest := []) (lenOf pd_28I5bB29V rfl) rfl (by show 2 * 0 + _ ≤ _; exact Nat.le_of_eq rfl) (hb hby d21_2)
 obtain ⟨rfl, N1042q, e1042⟩ := hQ1042
 have N1042 := Fr.app N0 N1042q
 refine GoW.sg (mkF m 5 #[.val (.ref a1c), .val (.int 0)] []) (fun t k => st1042 t k) ?_
 refine GoW.sg (mkF m 7 #[.val (.ref a1c), .val (.int 0)] [(.int 0), (.ref a1c)]) (fun t k => XS.aloadN X1042.here hx rfl (hb hby d21_5) rfl rfl (XS.iloadN X1042.here hx rfl (hb hby d21_6) rfl k)) ?_
 obtain ⟨_, T1048, L1048, X1048, hQ1048, st1048⟩ := own_callS X1042 hx hZ hown (y := Y17) (ww hw 74 rfl) (ww hw 75 rfl) (ww hw 50 rfl) (ww hw 76 rfl) (by decide) 0 (rm17_6 l Z a0 hw a1c ka1c x1c x2c h0 n0  P0 P1 P2 P3     ) (by decide) (by decide) e1042 (by decide) (by decide) (g := (mkF m 7 #[.val (.ref a1c), .val (.int 0)] [(.int 0), (.ref a1c)])) rfl (by rw [hml]; rfl) (argsL := [(.ref a1c), (.int (0 : Int32))]) (rest := []) (lenOf pd_285bBI29C rfl) rfl (by show 2 * 0 + _ ≤ _; exact Nat.le_of_eq rfl) (hb hby d21_7)
 obtain ⟨rfl, N1048q, e1048⟩ := hQ1048
 have N1048 := Fr.app N1042 N1048q
 refine GoW.sg (mkF m 10 #[.val (.ref a1c), .val (.int 0)] [(.int (nar .char (((x1c &&& (255 : Int32)) <<< ((0 : Int32) &&& 31)) ||| ((x2c &&& (255 : Int32)) <<< ((8 : Int32) &&& 31))).toUInt32.toUInt16.toUInt32.toInt32))]) (fun t k => st1048 t k) ?_
 refine GoW.retN X1048 hx (t := .char) Bd.returns (by simp) (hb hby d21_10) Bd.notSynchronized ?_ (by decide) (by decide)
 rw [e1048]
 exact ⟨rfl, N1048, rfl⟩
def Q19_125 (Z : State) (a1c : Addr) (a2c : Addr) (ka2c : ClassId) (x1c : Int32) (x2c : Int32) (x3c : Value) (h0 : Heap) (n0 : Nat) (v : Option Value) (h : Heap) (L : List Loc) : Prop := v = some (.int (nar .char (nar .char (x1c &&& (255 : Int32)).toUInt32.toUInt16.toUInt32.toInt32))) ∧ Fr n0 L ∧ (h = h0)
theorem rm19_125 (l : Launch) (Z : State) (a0 : Array Value) (hw : HW a0 Z) (a1c : Addr) (a2c : Addr) (ka2c : ClassId) (x1c : Int32) (x2c : Int32) (x3c : Value) (h0 : Heap) (n0 : Nat) (P0 : Exa Z h0 a1c "java/lang/String") (P1 : Fld Z h0 a1c "java/lang/String" "coder" "B" (.int 0)) (P2 : Fld Z h0 a1c "java/lang/String" "value" "[B" (.ref a2c)) (P3 : Arv Z h0 a2c ka2c .byte (1 : Int32) [(.int x1c)] (.int 0)) (P4 : Sta Z h0 "java/lang/String" "COMPACT_STRINGS" "Z" (.int x2c)) (P5 : Sta Z h0 "jdk/internal/util/Preconditions" "SIOOBE_FORMATTER" "Ljava/util/function/BiFunction;" x3c) (u0 : ¬ (x2c = (0 : Int32))) (u1 : Value.isRef x3c = true) :
  MM l Z Y19 jdk_42_method_56_code 2 (some .char) 4 0 0 53 #[(.ref a1c), (.int 0)] h0 (Q19_125 Z a1c a2c ka2c x1c x2c x3c h0 n0) := by
 refine own_start (fun m => (mkF m 0 #[.val (.ref a1c), .val (.int 0)] [])) (plainFor_of_name pn_java_lang_String) (by simp [entryFrame, mkF, argsToLocals, Value.category]) n0 ?_
 intro p e s m below meth c s₁ Bd hx hby hml hZ hown hnm X0 e0 N0
 refine GoW.sg (mkF m 1 #[.val (.ref a1c), .val (.int 0)] [(.ref a1c)]) (fun t k => XS.aloadN X0.here hx rfl (hb hby d19_0) rfl rfl k) ?_
 obtain ⟨_, T1056, L1056, X1056, hQ1056, st1056⟩ := own_virt X0 hx hZ (y := Y20) hown (ww hw 85 rfl) (ww hw 86 rfl) (ww hw 88 rfl) (ww hw 87 rfl) (ww hw 89 rfl) (ww hw 13 rfl) (by decide) 0 (a := a1c) (rm20_117 l Z a0 hw a1c x2c h0 n0  P1 P4   u0  ) (by decide) (by decide) e0 P0 (by decide) (by decide) (g := (mkF m 1 #[.val (.ref a1c), .val (.int 0)] [(.ref a1c)])) rfl (by rw [hml]; rfl) (argsL := []) (rest := []) (lenOf pd_2829Z rfl) rfl (by show 2 * 0 + _ ≤ _; exact Nat.le_of_eq rfl) (hb hby d19_1)
 obtain ⟨rfl, N1056q, e1056⟩ := hQ1056
 have N1056 := Fr.app N0 N1056q
 refine GoW.sg (mkF m 4 #[.val (.ref a1c), .val (.int 0)] [(.int 1)]) (fun t k => st1056 t k) ?_
 refine GoW.sg (mkF m 8 #[.val (.ref a1c), .val (.int 0)] [(.ref a1c)]) (fun t k => XS.ifNo X1056.here hx rfl (hb hby d19_4) rfl (by decide) (XS.aloadN X1056.here hx rfl (hb hby d19_7) rfl rfl k)) ?_
 obtain ⟨T1057, X1057, e1057, st1057⟩ := getF X1056 hx hZ hown (host := "") (Or.inl (ww hw 31 rfl)) Via.refl e1056 P2 (g := (mkF m 8 #[.val (.ref a1c), .val (.int 0)] [(.ref a1c)])) rfl rfl (hb hby d19_8)
 refine GoW.sg (mkF m 11 #[.val (.ref a1c), .val (.int 0)] [(.ref a2c)]) (fun t k => st1057 t k) ?_
 refine GoW.sg (mkF m 12 #[.val (.ref a1c), .val (.int 0)] [(.int 0), (.ref a2c)]) (fun t k => XS.iloadN X1057.here hx rfl (hb hby d19_11) rfl k) ?_
 obtain ⟨_, T1058, L1058, X1058, hQ1058, st1058⟩ := own_callS X1057 hx hZ hown (y := Y26) (ww hw 107 rfl) (ww hw 108 rfl) (ww hw 109 rfl) (ww hw 110 rfl) (by decide) 0 (rm26_118 l Z a0 hw a2c ka2c x1c x3c h0 n0  P3 P5   u1  ) (by decide) (by decide) e1057 (by decide) (by decide) (g := (mkF m 12 #[.val (.ref a1c), .val (.int 0)] [(.int 0), (.ref a2c)])) rfl (by rw [hml]; rfl) (argsL := [(.ref a2c), (.int (0 : Int32))]) (rest := []) (lenOf pd_285bBI29C rfl) rfl (by show 2 * 0 + _ ≤ _; exact Nat.le_of_eq rfl) (hb hby d19_12)
 obtain ⟨rfl, N1058q, e1058⟩ := hQ1058
 have N1058 := Fr.app N1056 N1058q
 refine GoW.sg (mkF m 15 #[.val (.ref a1c), .val (.int 0)] [(.int (nar .char (x1c &&& (255 : Int32)).toUInt32.toUInt16.toUInt32.toInt32))]) (fun t k => st1058 t k) ?_
 refine GoW.retN X1058 hx (t := .char) Bd.returns (by simp) (hb hby d19_15) Bd.notSynchronized ?_ (by decide) (by decide)
 rw [e1058]
 exact ⟨rfl, N1058, rfl⟩
def Q19_126 (Z : State) (a1c : Addr) (a2c : Addr) (ka2c : ClassId) (x1c : Int32) (x2c : Int32) (x3c : Int32) (x4c : Value) (h0 : Heap) (n0 : Nat) (v : Option Value) (h : Heap) (L : List Loc) : Prop := v = some (.int (nar .char (nar .char (nar .char (((x1c &&& (255 : Int32)) <<< ((0 : Int32) &&& 31)) ||| ((x2c &&& (255 : Int32)) <<< ((8 : Int32) &&& 31))).toUInt32.toUInt16.toUInt32.toInt32)))) ∧ Fr n0 L ∧ (h = h0)
theorem rm19_126 (l : Launch) (Z : State) (a0 : Array Value) (hw : HW a0 Z) (a1c : Addr) (a2c : Addr) (ka2c : ClassId) (x1c : Int32) (x2c : Int32) (x3c : Int32) (x4c : Value) (h0 : Heap) (n0 : Nat) (P0 : Exa Z h0 a1c "java/lang/String") (P1 : Fld Z h0 a1c "java/lang/String" "coder" "B" (.int 1)) (P2 : Fld Z h0 a1c "java/lang/String" "value" "[B" (.ref a2c)) (P3 : Arv Z h0 a2c ka2c .byte (2 : Int32) [(.int x1c), (.int x2c)] (.int 0)) (P4 : Sta Z h0 "java/lang/String" "COMPACT_STRINGS" "Z" (.int x3c)) (P5 : Sta Z h0 "java/lang/StringUTF16" "$assertionsDisabled" "Z" (.int 1)) (P6 : Sta Z h0 "java/lang/StringUTF16" "HI_BYTE_SHIFT" "I" (.int 0)) (P7 : Sta Z h0 "java/lang/StringUTF16" "LO_BYTE_SHIFT" "I" (.int 8)) (P8 : Sta Z h0 "jdk/internal/util/Preconditions" "SIOOBE_FORMATTER" "Ljava/util/function/BiFunction;" x4c) (u0 : ¬ (x3c = (0 : Int32))) (u1 : Value.isRef x4c = true) :
  MM l Z Y19 jdk_42_method_56_code 2 (some .char) 4 0 0 53 #[(.ref a1c), (.int 0)] h0 (Q19_126 Z a1c a2c ka2c x1c x2c x3c x4c h0 n0) := by
 refine own_start (fun m => (mkF m 0 #[.val (.ref a1c), .val (.int 0)] [])) (plainFor_of_name pn_java_lang_String) (by simp [entryFrame, mkF, argsToLocals, Value.category]) n0 ?_
 intro p e s m below meth c s₁ Bd hx hby hml hZ hown hnm X0 e0 N0
 refine GoW.sg (mkF m 1 #[.val (.ref a1c), .val (.int 0)] [(.ref a1c)]) (fun t k => XS.aloadN X0.here hx rfl (hb hby d19_0) rfl rfl k) ?_
 obtain ⟨_, T1062, L1062, X1062, hQ1062, st1062⟩ := own_virt X0 hx hZ (y := Y20) hown (ww hw 85 rfl) (ww hw 86 rfl) (ww hw 88 rfl) (ww hw 87 rfl) (ww hw 89 rfl) (ww hw 13 rfl) (by decide) 0 (a := a1c) (rm20_120 l Z a0 hw a1c x3c h0 n0  P1 P4   u0  ) (by decide) (by decide) e0 P0 (by decide) (by decide) (g := (mkF m 1 #[.val (.ref a1c), .val (.int 0)] [(.ref a1c)])) rfl (by rw [hml]; rfl) (argsL := []) (rest := []) (lenOf pd_2829Z rfl) rfl (by show 2 * 0 + _ ≤ _; exact Nat.le_of_eq rfl) (hb hby d19_1)
 obtain ⟨rfl, N1062q, e1062⟩ := hQ1062
 have N1062 := Fr.app N0 N1062q
 refine GoW.sg (mkF m 4 #[.val (.ref a1c), .val (.int 0)] [(.int 0)]) (fun t k => st1062 t k) ?_
 refine GoW.sg (mkF m 17 #[.val (.ref a1c), .val (.int 0)] [(.ref a1c)]) (fun t k => XS.ifYes X1062.here hx rfl (pc0 := 4) (pc' := 16) rfl (hb hby d19_4) rfl (by decide) (by decide) (by decide) (XS.aloadN X1062.here hx rfl (hb hby d19_16) rfl rfl k)) ?_
 obtain ⟨T1063, X1063, e1063, st1063⟩ := getF X1062 hx hZ hown (host := "") (Or.inl (ww hw 31 rfl)) Via.refl e1062 P2 (g := (mkF m 17 #[.val (.ref a1c), .val (.int 0)] [(.ref a1c)])) rfl rfl (hb hby d19_17)
 refine GoW.sg (mkF m 20 #[.val (.ref a1c), .val (.int 0)] [(.ref a2c)]) (fun t k => st1063 t k) ?_
 refine GoW.sg (mkF m 21 #[.val (.ref a1c), .val (.int 0)] [(.int 0), (.ref a2c)]) (fun t k => XS.iloadN X1063.here hx rfl (hb hby d19_20) rfl k) ?_
 obtain ⟨_, T1064, L1064, X1064, hQ1064, st1064⟩ := own_callS X1063 hx hZ hown (y := Y21) (ww hw 90 rfl) (ww hw 91 rfl) (ww hw 50 rfl) (ww hw 92 rfl) (by decide) 0 (rm21_123 l Z a0 hw a2c ka2c x1c x2c x4c h0 n0  P3 P5 P6 P7 P8   u1  ) (by decide) (by decide) e1063 (by decide) (by decide) (g := (mkF m 21 #[.val (.ref a1c), .val (.int 0)] [(.int 0), (.ref a2c)])) rfl (by rw [hml]; rfl) (argsL := [(.ref a2c), (.int (0 : Int32))]) (rest := []) (lenOf pd_285bBI29C rfl) rfl (by show 2 * 0 + _ ≤ _; exact Nat.le_of_eq rfl) (hb hby d19_21)
 obtain ⟨rfl, N1064q, e1064⟩ := hQ1064
 have N1064 := Fr.app N1062 N1064q
 refine GoW.sg (mkF m 24 #[.val (.ref a1c), .val (.int 0)] [(.int (nar .char (nar .char (((x1c &&& (255 : Int32)) <<< ((0 : Int32) &&& 31)) ||| ((x2c &&& (255 : Int32)) <<< ((8 : Int32) &&& 31))).toUInt32.toUInt16.toUInt32.toInt32)))]) (fun t k => st1064 t k) ?_
 refine GoW.retN X1064 hx (t := .char) Bd.returns (by simp) (hb hby d19_24) Bd.notSynchronized ?_ (by decide) (by decide)
 rw [e1064]
 exact ⟨rfl, N1064, rfl⟩
theorem rmCh10 (l : Launch) (Z : State) (a0 : Array Value) (hw : HW a0 Z) (a1 : Addr) (c0 : Int32) (cs : Int32) (vf : Value) (h0 : Heap) (n0 : Nat) (PE : Exa Z h0 a1 "java/lang/String") (hS : Str1 Z h0 a1 c0) (PC : Sta Z h0 "java/lang/String" "COMPACT_STRINGS" "Z" (.int cs)) (PA : Sta Z h0 "java/lang/StringUTF16" "$assertionsDisabled" "Z" (.int (1 : Int32))) (PH : Sta Z h0 "java/lang/StringUTF16" "HI_BYTE_SHIFT" "I" (.int (0 : Int32))) (PL : Sta Z h0 "java/lang/StringUTF16" "LO_BYTE_SHIFT" "I" (.int (8 : Int32))) (PF : Sta Z h0 "jdk/internal/util/Preconditions" "SIOOBE_FORMATTER" "Ljava/util/function/BiFunction;" vf) (hvf : vf.isRef = true) (lo_c0 : ¬ (c0 < (0 : Int32))) (hi_c0 : ¬ ((65535 : Int32) < c0)) (ncs : ¬ (cs = (0 : Int32))) :
  MM l Z Y19 jdk_42_method_56_code 2 (some .char) 4 0 0 53 #[(.ref a1), (.int (0 : Int32))] h0 (PureQ (.int c0) h0 n0) := by
  rcases hS with ⟨b, kb, PV, PK, PB, b0⟩ | ⟨b, kb, PV, PK, PB⟩
  · exact (rm19_125 l Z a0 hw a1 b kb (lat8 c0) cs vf h0 n0  PE PK PV PB PC PF   ncs hvf).mono (fun _ _ h => h) (fun _ _ _ _ _ h => h) (fun _ _ _ _ _ h => by obtain ⟨v, L, q1, ⟨q2, q3⟩, q4⟩ := h; refine ⟨v, L, q1, ⟨q2.trans ?_, q3⟩, q4⟩; simp only [own_lat c0 lo_c0 b0, own_nc c0 lo_c0 hi_c0])
  · exact (rm19_126 l Z a0 hw a1 b kb (lo8 c0) (hi8 c0) cs vf h0 n0  PE PK PV PB PC PA PH PL PF   ncs hvf).mono (fun _ _ h => h) (fun _ _ _ _ _ h => h) (fun _ _ _ _ _ h => by obtain ⟨v, L, q1, ⟨q2, q3⟩, q4⟩ := h; refine ⟨v, L, q1, ⟨q2.trans ?_, q3⟩, q4⟩; simp only [own_join c0 lo_c0 hi_c0, own_nc c0 lo_c0 hi_c0])
def Q8_129 (Z : State) (a1c : Addr) (a2c : Addr) (ka2c : ClassId) (x1c : Int32) (x2c : Int32) (x3c : Int32) (h0 : Heap) (n0 : Nat) (v : Option Value) (h : Heap) (L : List Loc) : Prop := v = some (.int 2) ∧ Fr n0 L ∧ (h = h0)
theorem rm8_129 (l : Launch) (Z : State) (a0 : Array Value) (hw : HW a0 Z) (a1c : Addr) (a2c : Addr) (ka2c : ClassId) (x1c : Int32) (x2c : Int32) (x3c : Int32) (h0 : Heap) (n0 : Nat) (P0 : Exa Z h0 a1c "java/lang/String") (P1 : Fld Z h0 a1c "java/lang/String" "coder" "B" (.int 0)) (P2 : Fld Z h0 a1c "java/lang/String" "value" "[B" (.ref a2c)) (P3 : Arv Z h0 a2c ka2c .byte (2 : Int32) [(.int x1c), (.int x2c)] (.int 0)) (P4 : Sta Z h0 "java/lang/String" "COMPACT_STRINGS" "Z" (.int x3c)) (u0 : ¬ (x3c = (0 : Int32))) :
  MM l Z Y8 jdk_42_method_54_code 1 (some .int) 1 0 0 13 #[(.ref a1c)] h0 (Q8_129 Z a1c a2c ka2c x1c x2c x3c h0 n0) := by
 refine own_start (fun m => (mkF m 0 #[.val (.ref a1c)] [])) (plainFor_of_name pn_java_lang_String) (by simp [entryFrame, mkF, argsToLocals, Value.category]) n0 ?_
 intro p e s m below meth c s₁ Bd hx hby hml hZ hown hnm X0 e0 N0
 refine GoW.sg (mkF m 1 #[.val (.ref a1c)] [(.ref a1c)]) (fun t k => XS.aloadN X0.here hx rfl (hb hby d8_0) rfl rfl k) ?_
 obtain ⟨T1084, X1084, e1084, st1084⟩ := getF X0 hx hZ hown (host := "") (Or.inl (ww hw 31 rfl)) Via.refl e0 P2 (g := (mkF m 1 #[.val (.ref a1c)] [(.ref a1c)])) rfl rfl (hb hby d8_1)
 refine GoW.sg (mkF m 4 #[.val (.ref a1c)] [(.ref a2c)]) (fun t k => st1084 t k) ?_
 obtain ⟨cl1085, Ar1085, q1085, Sz1085, Nn1085, Hh1085, Gg1085⟩ := id P3
 have st1085 := X1084.arraylength hx (hq_ e1084 Ar1085.1) (State.isArrayOf_alike hZ.alike Ar1085.2.1) (g := (mkF m 4 #[.val (.ref a1c)] [(.ref a2c)])) rfl rfl (hb hby d8_4)
 rw [len_of Sz1085 Nn1085] at st1085
 refine GoW.sg (mkF m 5 #[.val (.ref a1c)] [(.int 2)]) (fun t k => st1085 t k) ?_
 refine GoW.sg (mkF m 6 #[.val (.ref a1c)] [(.ref a1c), (.int 2)]) (fun t k => XS.aloadN X1084.here hx rfl (hb hby d8_5) rfl rfl k) ?_
 obtain ⟨_, T1086, L1086, X1086, hQ1086, st1086⟩ := own_virt X1084 hx hZ (y := Y9) hown (ww hw 42 rfl) (ww hw 43 rfl) (ww hw 45 rfl) (ww hw 44 rfl) (ww hw 46 rfl) (ww hw 13 rfl) (by decide) 1 (a := a1c) (rm9_109 l Z a0 hw a1c x3c h0 n0  P1 P4   u0  ) (by decide) (by decide) e1084 P0 (by decide) (by decide) (g := (mkF m 6 #[.val (.ref a1c)] [(.ref a1c), (.int 2)])) rfl (by rw [hml]; rfl) (argsL := []) (rest := [(.int (2 : Int32))]) (lenOf pd_2829B rfl) rfl (by show 2 * 0 + _ ≤ _; exact Nat.le_of_eq rfl) (hb hby d8_6)
 obtain ⟨rfl, N1086q, e1086⟩ := hQ1086
 have N1086 := Fr.app N0 N1086q
 refine GoW.sg (mkF m 9 #[.val (.ref a1c)] [(.int 0), (.int 2)]) (fun t k => st1086 t k) ?_
 refine GoW.st (fun t k => XS.ishr X1086.here hx rfl (hb hby d8_9) rfl k) ?_
 rw [show ((2 : Int32) >>> ((0 : Int32) &&& 31)) = (2 : Int32) from by decide]
 show GoW p e below s (Q8_129 Z a1c a2c ka2c x1c x2c x3c h0 n0) 0 0 (T1086.setTop (mkF m 10 #[.val (.ref a1c)] [(.int 2)]))
 refine GoW.retI X1086 hx Bd.returns (hb hby d8_10) Bd.notSynchronized ?_ (by decide) (by decide)
 rw [e1086]
 exact ⟨rfl, N1086, rfl⟩
def Q8_130 (Z : State) (a1c : Addr) (a2c : Addr) (ka2c : ClassId) (x1c : Int32) (x2c : Int32) (x3c : Int32) (x4c : Int32) (x5c : Int32) (h0 : Heap) (n0 : Nat) (v : Option Value) (h : Heap) (L : List Loc) : Prop := v = some (.int 2) ∧ Fr n0 L ∧ (h = h0)
theorem rm8_130 (l : Launch) (Z : State) (a0 : Array Value) (hw : HW a0 Z) (a1c : Addr) (a2c : Addr) (ka2c : ClassId) (x1c : Int32) (x2c : Int32) (x3c : Int32) (x4c : Int32) (x5c : Int32) (h0 : Heap) (n0 : Nat) (P0 : Exa Z h0 a1c "java/lang/String") (P1 : Fld Z h0 a1c "java/lang/String" "coder" "B" (.int 1)) (P2 : Fld Z h0 a1c "java/lang/String" "value" "[B" (.ref a2c)) (P3 : Arv Z h0 a2c ka2c .byte (4 : Int32) [(.int x1c), (.int x2c), (.int x3c), (.int x4c)] (.int 0)) (P4 : Sta Z h0 "java/lang/String" "COMPACT_STRINGS" "Z" (.int x5c)) (u0 : ¬ (x5c = (0 : Int32))) :
  MM l Z Y8 jdk_42_method_54_code 1 (some .int) 1 0 0 13 #[(.ref a1c)] h0 (Q8_130 Z a1c a2c ka2c x1c x2c x3c x4c x5c h0 n0) := by
 refine own_start (fun m => (mkF m 0 #[.val (.ref a1c)] [])) (plainFor_of_name pn_java_lang_String) (by simp [entryFrame, mkF, argsToLocals, Value.category]) n0 ?_
 intro p e s m below meth c s₁ Bd hx hby hml hZ hown hnm X0 e0 N0
 refine GoW.sg (mkF m 1 #[.val (.ref a1c)] [(.ref a1c)]) (fun t k => XS.aloadN X0.here hx rfl (hb hby d8_0) rfl rfl k) ?_
 obtain ⟨T1090, X1090, e1090, st1090⟩ := getF X0 hx hZ hown (host := "") (Or.inl (ww hw 31 rfl)) Via.refl e0 P2 (g := (mkF m 1 #[.val (.ref a1c)] [(.ref a1c)])) rfl rfl (hb hby d8_1)
 refine GoW.sg (mkF m 4 #[.val (.ref a1c)] [(.ref a2c)]) (fun t k => st1090 t k) ?_
 obtain ⟨cl1091, Ar1091, q1091, Sz1091, Nn1091, Hh1091, Gg1091⟩ := id P3
 have st1091 := X1090.arraylength hx (hq_ e1090 Ar1091.1) (State.isArrayOf_alike hZ.alike Ar1091.2.1) (g := (mkF m 4 #[.val (.ref a1c)] [(.ref a2c)])) rfl rfl (hb hby d8_4)
 rw [len_of Sz1091 Nn1091] at st1091
 refine GoW.sg (mkF m 5 #[.val (.ref a1c)] [(.int 4)]) (fun t k => st1091 t k) ?_
 refine GoW.sg (mkF m 6 #[.val (.ref a1c)] [(.ref a1c), (.int 4)]) (fun t k => XS.aloadN X1090.here hx rfl (hb hby d8_5) rfl rfl k) ?_
 obtain ⟨_, T1092, L1092, X1092, hQ1092, st1092⟩ := own_virt X1090 hx hZ (y := Y9) hown (ww hw 42 rfl) (ww hw 43 rfl) (ww hw 45 rfl) (ww hw 44 rfl) (ww hw 46 rfl) (ww hw 13 rfl) (by decide) 1 (a := a1c) (rm9_113 l Z a0 hw a1c x5c h0 n0  P1 P4   u0  ) (by decide) (by decide) e1090 P0 (by decide) (by decide) (g := (mkF m 6 #[.val (.ref a1c)] [(.ref a1c), (.int 4)])) rfl (by rw [hml]; rfl) (argsL := []) (rest := [(.int (4 : Int32))]) (lenOf pd_2829B rfl) rfl (by show 2 * 0 + _ ≤ _; exact Nat.le_of_eq rfl) (hb hby d8_6)
 obtain ⟨rfl, N1092q, e1092⟩ := hQ1092
 have N1092 := Fr.app N0 N1092q
 refine GoW.sg (mkF m 9 #[.val (.ref a1c)] [(.int 1), (.int 4)]) (fun t k => st1092 t k) ?_
 refine GoW.st (fun t k => XS.ishr X1092.here hx rfl (hb hby d8_9) rfl k) ?_
 rw [show ((4 : Int32) >>> ((1 : Int32) &&& 31)) = (2 : Int32) from by decide]
 show GoW p e below s (Q8_130 Z a1c a2c ka2c x1c x2c x3c x4c x5c h0 n0) 0 0 (T1092.setTop (mkF m 10 #[.val (.ref a1c)] [(.int 2)]))
 refine GoW.retI X1092 hx Bd.returns (hb hby d8_10) Bd.notSynchronized ?_ (by decide) (by decide)
 rw [e1092]
 exact ⟨rfl, N1092, rfl⟩
theorem rmLen2 (l : Launch) (Z : State) (a0 : Array Value) (hw : HW a0 Z) (a1 : Addr) (c0 : Int32) (c1 : Int32) (cs : Int32) (h0 : Heap) (n0 : Nat) (PE : Exa Z h0 a1 "java/lang/String") (hS : Str2 Z h0 a1 c0 c1) (PC : Sta Z h0 "java/lang/String" "COMPACT_STRINGS" "Z" (.int cs)) (ncs : ¬ (cs = (0 : Int32))) :
  MM l Z Y8 jdk_42_method_54_code 1 (some .int) 1 0 0 13 #[(.ref a1)] h0 (PureQ (.int (2 : Int32)) h0 n0) := by
  rcases hS with ⟨b, kb, PV, PK, PB, b0, b1⟩ | ⟨b, kb, PV, PK, PB⟩
  · exact (rm8_129 l Z a0 hw a1 b kb (lat8 c0) (lat8 c1) cs h0 n0  PE PK PV PB PC   ncs).mono (fun _ _ h => h) (fun _ _ _ _ _ h => h) (fun _ _ _ _ _ h => h)
  · exact (rm8_130 l Z a0 hw a1 b kb (lo8 c0) (hi8 c0) (lo8 c1) (hi8 c1) cs h0 n0  PE PK PV PB PC   ncs).mono (fun _ _ h => h) (fun _ _ _ _ _ h => h) (fun _ _ _ _ _ h => h)
def Q26_131 (Z : State) (a1c : Addr) (ka1c : ClassId) (x1c : Int32) (x2c : Int32) (x3c : Value) (h0 : Heap) (n0 : Nat) (v : Option Value) (h : Heap) (L : List Loc) : Prop := v = some (.int (nar .char (x1c &&& (255 : Int32)).toUInt32.toUInt16.toUInt32.toInt32)) ∧ Fr n0 L ∧ (h = h0)
theorem rm26_131 (l : Launch) (Z : State) (a0 : Array Value) (hw : HW a0 Z) (a1c : Addr) (ka1c : ClassId) (x1c : Int32) (x2c : Int32) (x3c : Value) (h0 : Heap) (n0 : Nat) (P0 : Arv Z h0 a1c ka1c .byte (2 : Int32) [(.int x1c), (.int x2c)] (.int 0)) (P1 : Sta Z h0 "jdk/internal/util/Preconditions" "SIOOBE_FORMATTER" "Ljava/util/function/BiFunction;" x3c) (u0 : Value.isRef x3c = true) :
  MM l Z Y26 jdk_43_method_2_code 2 (some .char) 2 0 0 27 #[(.ref a1c), (.int 0)] h0 (Q26_131 Z a1c ka1c x1c x2c x3c h0 n0) := by
 refine own_start (fun m => (mkF m 0 #[.val (.ref a1c), .val (.int 0)] [])) (plainFor_of_name pn_java_lang_StringLatin1) (by simp [entryFrame, mkF, argsToLocals, Value.category]) n0 ?_
 intro p e s m below meth c s₁ Bd hx hby hml hZ hown hnm X0 e0 N0
 refine GoW.sg (mkF m 2 #[.val (.ref a1c), .val (.int 0)] [(.ref a1c), (.int 0)]) (fun t k => XS.iloadN X0.here hx rfl (hb hby d26_0) rfl (XS.aloadN X0.here hx rfl (hb hby d26_1) rfl rfl k)) ?_
 obtain ⟨cl1100, Ar1100, q1100, Sz1100, Nn1100, Hh1100, Gg1100⟩ := id P0
 have st1100 := X0.arraylength hx (hq_ e0 Ar1100.1) (State.isArrayOf_alike hZ.alike Ar1100.2.1) (g := (mkF m 2 #[.val (.ref a1c), .val (.int 0)] [(.ref a1c), (.int 0)])) rfl rfl (hb hby d26_2)
 rw [len_of Sz1100 Nn1100] at st1100
 refine GoW.sg (mkF m 3 #[.val (.ref a1c), .val (.int 0)] [(.int 2), (.int 0)]) (fun t k => st1100 t k) ?_
 obtain ⟨_, T1101, L1101, X1101, hQ1101, st1101⟩ := own_callS X0 hx hZ hown (y := Y24) (ww hw 111 rfl) (ww hw 100 rfl) (ww hw 13 rfl) (ww hw 101 rfl) (by decide) 0 (rmCk02 l Z a0 hw x3c h0 n0 P1 u0) (by decide) (by decide) e0 (by decide) (by decide) (g := (mkF m 3 #[.val (.ref a1c), .val (.int 0)] [(.int 2), (.int 0)])) rfl (by rw [hml]; rfl) (argsL := [(.int (0 : Int32)), (.int (2 : Int32))]) (rest := []) (lenOf pd_28II29V rfl) rfl (by show 2 * 0 + _ ≤ _; exact Nat.le_of_eq rfl) (hb hby d26_3)
 obtain ⟨rfl, N1101q, e1101⟩ := hQ1101
 have N1101 := Fr.app N0 N1101q
 refine GoW.sg (mkF m 6 #[.val (.ref a1c), .val (.int 0)] []) (fun t k => st1101 t k) ?_
 refine GoW.sg (mkF m 8 #[.val (.ref a1c), .val (.int 0)] [(.int 0), (.ref a1c)]) (fun t k => XS.aloadN X1101.here hx rfl (hb hby d26_6) rfl rfl (XS.iloadN X1101.here hx rfl (hb hby d26_7) rfl k)) ?_
 obtain ⟨cl1102, Ar1102, q1102, Sz1102, Nn1102, Hh1102, Gg1102⟩ := id P0
 have hin1102 : ¬ ((0 : Int32) < 0 ∨ cl1102.slots.size ≤ ((0 : Int32)).toNatClampNeg) := inb_of Sz1102 ⟨by decide, by decide⟩
 refine GoW.sg (mkF m 9 #[.val (.ref a1c), .val (.int 0)] [(.int x1c)]) (fun t k => X1101.baloadBytes hx (j := (0 : Int32)) (v := (.int x1c)) (hq_ e1101 Ar1102.1) (State.isArrayOf_alike hZ.alike Ar1102.2.1) Ar1102.2.2 hin1102 (Hh1102.at hin1102 rfl) (g := (mkF m 8 #[.val (.ref a1c), .val (.int 0)] [(.int 0), (.ref a1c)])) rfl rfl (hb hby d26_8) t k) ?_
 refine GoW.sg (mkF m 14 #[.val (.ref a1c), .val (.int 0)] [(.int (x1c &&& (255 : Int32)).toUInt32.toUInt16.toUInt32.toInt32)]) (fun t k => XS.sipush X1101.here hx rfl (hb hby d26_9) (XS.iand X1101.here hx rfl (hb hby d26_12) rfl (XS.i2c X1101.here hx rfl (hb hby d26_13) rfl k))) ?_
 refine GoW.retN X1101 hx (t := .char) Bd.returns (by simp) (hb hby d26_14) Bd.notSynchronized ?_ (by decide) (by decide)
 rw [e1101]
 exact ⟨rfl, N1101, rfl⟩
def Q23_133 (Z : State) (a1c : Addr) (ka1c : ClassId) (x1c : Int32) (x2c : Int32) (x3c : Int32) (x4c : Int32) (h0 : Heap) (n0 : Nat) (v : Option Value) (h : Heap) (L : List Loc) : Prop := v = some (.int 2) ∧ Fr n0 L ∧ (h = h0)
theorem rm23_133 (l : Launch) (Z : State) (a0 : Array Value) (hw : HW a0 Z) (a1c : Addr) (ka1c : ClassId) (x1c : Int32) (x2c : Int32) (x3c : Int32) (x4c : Int32) (h0 : Heap) (n0 : Nat) (P0 : Arv Z h0 a1c ka1c .byte (4 : Int32) [(.int x1c), (.int x2c), (.int x3c), (.int x4c)] (.int 0)) :
  MM l Z Y23 jdk_52_method_6_code 1 (some .int) 0 0 0 0 #[(.ref a1c)] h0 (Q23_133 Z a1c ka1c x1c x2c x3c x4c h0 n0) := by
 refine own_start (fun m => (mkF m 0 #[.val (.ref a1c)] [])) (plainFor_of_name pn_java_lang_StringUTF16) (by simp [entryFrame, mkF, argsToLocals, Value.category]) n0 ?_
 intro p e s m below meth c s₁ Bd hx hby hml hZ hown hnm X0 e0 N0
 refine GoW.sg (mkF m 1 #[.val (.ref a1c)] [(.ref a1c)]) (fun t k => XS.aloadN X0.here hx rfl (hb hby d23_0) rfl rfl k) ?_
 obtain ⟨cl1117, Ar1117, q1117, Sz1117, Nn1117, Hh1117, Gg1117⟩ := id P0
 have st1117 := X0.arraylength hx (hq_ e0 Ar1117.1) (State.isArrayOf_alike hZ.alike Ar1117.2.1) (g := (mkF m 1 #[.val (.ref a1c)] [(.ref a1c)])) rfl rfl (hb hby d23_1)
 rw [len_of Sz1117 Nn1117] at st1117
 refine GoW.sg (mkF m 2 #[.val (.ref a1c)] [(.int 4)]) (fun t k => st1117 t k) ?_
 refine GoW.sg (mkF m 3 #[.val (.ref a1c)] [(.int 1), (.int 4)]) (fun t k => XS.iconst X0.here hx rfl (hb hby d23_2) k) ?_
 refine GoW.st (fun t k => XS.ishr X0.here hx rfl (hb hby d23_3) rfl k) ?_
 rw [show ((4 : Int32) >>> ((1 : Int32) &&& 31)) = (2 : Int32) from by decide]
 show GoW p e below s (Q23_133 Z a1c ka1c x1c x2c x3c x4c h0 n0) 0 0 (s₁.setTop (mkF m 4 #[.val (.ref a1c)] [(.int 2)]))
 refine GoW.retI X0 hx Bd.returns (hb hby d23_4) Bd.notSynchronized ?_ (by decide) (by decide)
 rw [e0]
 exact ⟨rfl, N0, rfl⟩
def Q22_134 (Z : State) (a1c : Addr) (ka1c : ClassId) (x1c : Int32) (x2c : Int32) (x3c : Int32) (x4c : Int32) (x5c : Value) (h0 : Heap) (n0 : Nat) (v : Option Value) (h : Heap) (L : List Loc) : Prop := v = none ∧ Fr n0 L ∧ (h = h0)
theorem rm22_134 (l : Launch) (Z : State) (a0 : Array Value) (hw : HW a0 Z) (a1c : Addr) (ka1c : ClassId) (x1c : Int32) (x2c : Int32) (x3c : Int32) (x4c : Int32) (x5c : Value) (h0 : Heap) (n0 : Nat) (P0 : Arv Z h0 a1c ka1c .byte (4 : Int32) [(.int x1c), (.int x2c), (.int x3c), (.int x4c)] (.int 0)) (P1 : Sta Z h0 "jdk/internal/util/Preconditions" "SIOOBE_FORMATTER" "Ljava/util/function/BiFunction;" x5c) (u0 : Value.isRef x5c = true) :
  MM l Z Y22 jdk_52_method_91_code 2 none 2 0 0 27 #[(.int 0), (.ref a1c)] h0 (Q22_134 Z a1c ka1c x1c x2c x3c x4c x5c h0 n0) := by
 refine own_start (fun m => (mkF m 0 #[.val (.int 0), .val (.ref a1c)] [])) (plainFor_of_name pn_java_lang_StringUTF16) (by simp [entryFrame, mkF, argsToLocals, Value.category]) n0 ?_
 intro p e s m below meth c s₁ Bd hx hby hml hZ hown hnm X0 e0 N0
 refine GoW.sg (mkF m 2 #[.val (.int 0), .val (.ref a1c)] [(.ref a1c), (.int 0)]) (fun t k => XS.iloadN X0.here hx rfl (hb hby d22_0) rfl (XS.aloadN X0.here hx rfl (hb hby d22_1) rfl rfl k)) ?_
 obtain ⟨_, T1121, L1121, X1121, hQ1121, st1121⟩ := own_callS X0 hx hZ hown (y := Y23) (ww hw 96 rfl) (ww hw 97 rfl) (ww hw 50 rfl) (ww hw 98 rfl) (by decide) 1 (rm23_133 l Z a0 hw a1c ka1c x1c x2c x3c x4c h0 n0  P0     ) (by decide) (by decide) e0 (by decide) (by decide) (g := (mkF m 2 #[.val (.int 0), .val (.ref a1c)] [(.ref a1c), (.int 0)])) rfl (by rw [hml]; rfl) (argsL := [(.ref a1c)]) (rest := [(.int (0 : Int32))]) (lenOf pd_285bB29I rfl) rfl (by show 2 * 0 + _ ≤ _; exact Nat.le_of_eq rfl) (hb hby d22_2)
 obtain ⟨rfl, N1121q, e1121⟩ := hQ1121
 have N1121 := Fr.app N0 N1121q
 refine GoW.sg (mkF m 5 #[.val (.int 0), .val (.ref a1c)] [(.int 2), (.int 0)]) (fun t k => st1121 t k) ?_
 obtain ⟨_, T1122, L1122, X1122, hQ1122, st1122⟩ := own_callS X1121 hx hZ hown (y := Y24) (ww hw 99 rfl) (ww hw 100 rfl) (ww hw 13 rfl) (ww hw 101 rfl) (by decide) 0 (rmCk02 l Z a0 hw x5c h0 n0 P1 u0) (by decide) (by decide) e1121 (by decide) (by decide) (g := (mkF m 5 #[.val (.int 0), .val (.ref a1c)] [(.int 2), (.int 0)])) rfl (by rw [hml]; rfl) (argsL := [(.int (0 : Int32)), (.int (2 : Int32))]) (rest := []) (lenOf pd_28II29V rfl) rfl (by show 2 * 0 + _ ≤ _; exact Nat.le_of_eq rfl) (hb hby d22_5)
 obtain ⟨rfl, N1122q, e1122⟩ := hQ1122
 have N1122 := Fr.app N1121 N1122q
 refine GoW.sg (mkF m 8 #[.val (.int 0), .val (.ref a1c)] []) (fun t k => st1122 t k) ?_
 refine GoW.retV X1122 hx Bd.returns (hb hby d22_8) Bd.notSynchronized ?_ (by decide) (by decide)
 rw [e1122]
 exact ⟨rfl, N1122, rfl⟩
def Q21_135 (Z : State) (a1c : Addr) (ka1c : ClassId) (x1c : Int32) (x2c : Int32) (x3c : Int32) (x4c : Int32) (x5c : Value) (h0 : Heap) (n0 : Nat) (v : Option Value) (h : Heap) (L : List Loc) : Prop := v = some (.int (nar .char (nar .char (((x1c &&& (255 : Int32)) <<< ((0 : Int32) &&& 31)) ||| ((x2c &&& (255 : Int32)) <<< ((8 : Int32) &&& 31))).toUInt32.toUInt16.toUInt32.toInt32))) ∧ Fr n0 L ∧ (h = h0)
theorem rm21_135 (l : Launch) (Z : State) (a0 : Array Value) (hw : HW a0 Z) (a1c : Addr) (ka1c : ClassId) (x1c : Int32) (x2c : Int32) (x3c : Int32) (x4c : Int32) (x5c : Value) (h0 : Heap) (n0 : Nat) (P0 : Arv Z h0 a1c ka1c .byte (4 : Int32) [(.int x1c), (.int x2c), (.int x3c), (.int x4c)] (.int 0)) (P1 : Sta Z h0 "java/lang/StringUTF16" "$assertionsDisabled" "Z" (.int 1)) (P2 : Sta Z h0 "java/lang/StringUTF16" "HI_BYTE_SHIFT" "I" (.int 0)) (P3 : Sta Z h0 "java/lang/StringUTF16" "LO_BYTE_SHIFT" "I" (.int 8)) (P4 : Sta Z h0 "jdk/internal/util/Preconditions" "SIOOBE_FORMATTER" "Ljava/util/function/BiFunction;" x5c) (u0 : Value.isRef x5c = true) :
  MM l Z Y21 jdk_52_method_83_code 2 (some .char) 3 0 0 40 #[(.ref a1c), (.int 0)] h0 (Q21_135 Z a1c ka1c x1c x2c x3c x4c x5c h0 n0) := by
 refine own_start (fun m => (mkF m 0 #[.val (.ref a1c), .val (.int 0)] [])) (plainFor_of_name pn_java_lang_StringUTF16) (by simp [entryFrame, mkF, argsToLocals, Value.category]) n0 ?_
 intro p e s m below meth c s₁ Bd hx hby hml hZ hown hnm X0 e0 N0
 refine GoW.sg (mkF m 2 #[.val (.ref a1c), .val (.int 0)] [(.ref a1c), (.int 0)]) (fun t k => XS.iloadN X0.here hx rfl (hb hby d21_0) rfl (XS.aloadN X0.here hx rfl (hb hby d21_1) rfl rfl k)) ?_
 obtain ⟨_, T1133, L1133, X1133, hQ1133, st1133⟩ := own_callS X0 hx hZ hown (y := Y22) (ww hw 93 rfl) (ww hw 94 rfl) (ww hw 50 rfl) (ww hw 95 rfl) (by decide) 0 (rm22_134 l Z a0 hw a1c ka1c x1c x2c x3c x4c x5c h0 n0  P0 P4   u0  ) (by decide) (by decide) e0 (by decide) (by decide) (g := (mkF m 2 #[.val (.ref a1c), .val (.int 0)] [(.ref a1c), (.int 0)])) rfl (by rw [hml]; rfl) (argsL := [(.int (0 : Int32)), (.ref a1c)]) (rest := []) (lenOf pd_28I5bB29V rfl) rfl (by show 2 * 0 + _ ≤ _; exact Nat.le_of_eq rfl) (hb hby d21_2)
 obtain ⟨rfl, N1133q, e1133⟩ := hQ1133
 have N1133 := Fr.app N0 N1133q
 refine GoW.sg (mkF m 5 #[.val (.ref a1c), .val (.int 0)] []) (fun t k => st1133 t k) ?_
 refine GoW.sg (mkF m 7 #[.val (.ref a1c), .val (.int 0)] [(.int 0), (.ref a1c)]) (fun t k => XS.aloadN X1133.here hx rfl (hb hby d21_5) rfl rfl (XS.iloadN X1133.here hx rfl (hb hby d21_6) rfl k)) ?_
 obtain ⟨_, T1139, L1139, X1139, hQ1139, st1139⟩ := own_callS X1133 hx hZ hown (y := Y17) (ww hw 74 rfl) (ww hw 75 rfl) (ww hw 50 rfl) (ww hw 76 rfl) (by decide) 0 (rm17_24 l Z a0 hw a1c ka1c x1c x2c x3c x4c h0 n0  P0 P1 P2 P3     ) (by decide) (by decide) e1133 (by decide) (by decide) (g := (mkF m 7 #[.val (.ref a1c), .val (.int 0)] [(.int 0), (.ref a1c)])) rfl (by rw [hml]; rfl) (argsL := [(.ref a1c), (.int (0 : Int32))]) (rest := []) (lenOf pd_285bBI29C rfl) rfl (by show 2 * 0 + _ ≤ _; exact Nat.le_of_eq rfl) (hb hby d21_7)
 obtain ⟨rfl, N1139q, e1139⟩ := hQ1139
 have N1139 := Fr.app N1133 N1139q
 refine GoW.sg (mkF m 10 #[.val (.ref a1c), .val (.int 0)] [(.int (nar .char (((x1c &&& (255 : Int32)) <<< ((0 : Int32) &&& 31)) ||| ((x2c &&& (255 : Int32)) <<< ((8 : Int32) &&& 31))).toUInt32.toUInt16.toUInt32.toInt32))]) (fun t k => st1139 t k) ?_
 refine GoW.retN X1139 hx (t := .char) Bd.returns (by simp) (hb hby d21_10) Bd.notSynchronized ?_ (by decide) (by decide)
 rw [e1139]
 exact ⟨rfl, N1139, rfl⟩
def Q19_137 (Z : State) (a1c : Addr) (a2c : Addr) (ka2c : ClassId) (x1c : Int32) (x2c : Int32) (x3c : Int32) (x4c : Value) (h0 : Heap) (n0 : Nat) (v : Option Value) (h : Heap) (L : List Loc) : Prop := v = some (.int (nar .char (nar .char (x1c &&& (255 : Int32)).toUInt32.toUInt16.toUInt32.toInt32))) ∧ Fr n0 L ∧ (h = h0)
theorem rm19_137 (l : Launch) (Z : State) (a0 : Array Value) (hw : HW a0 Z) (a1c : Addr) (a2c : Addr) (ka2c : ClassId) (x1c : Int32) (x2c : Int32) (x3c : Int32) (x4c : Value) (h0 : Heap) (n0 : Nat) (P0 : Exa Z h0 a1c "java/lang/String") (P1 : Fld Z h0 a1c "java/lang/String" "coder" "B" (.int 0)) (P2 : Fld Z h0 a1c "java/lang/String" "value" "[B" (.ref a2c)) (P3 : Arv Z h0 a2c ka2c .byte (2 : Int32) [(.int x1c), (.int x2c)] (.int 0)) (P4 : Sta Z h0 "java/lang/String" "COMPACT_STRINGS" "Z" (.int x3c)) (P5 : Sta Z h0 "jdk/internal/util/Preconditions" "SIOOBE_FORMATTER" "Ljava/util/function/BiFunction;" x4c) (u0 : ¬ (x3c = (0 : Int32))) (u1 : Value.isRef x4c = true) :
  MM l Z Y19 jdk_42_method_56_code 2 (some .char) 4 0 0 53 #[(.ref a1c), (.int 0)] h0 (Q19_137 Z a1c a2c ka2c x1c x2c x3c x4c h0 n0) := by
 refine own_start (fun m => (mkF m 0 #[.val (.ref a1c), .val (.int 0)] [])) (plainFor_of_name pn_java_lang_String) (by simp [entryFrame, mkF, argsToLocals, Value.category]) n0 ?_
 intro p e s m below meth c s₁ Bd hx hby hml hZ hown hnm X0 e0 N0
 refine GoW.sg (mkF m 1 #[.val (.ref a1c), .val (.int 0)] [(.ref a1c)]) (fun t k => XS.aloadN X0.here hx rfl (hb hby d19_0) rfl rfl k) ?_
 obtain ⟨_, T1147, L1147, X1147, hQ1147, st1147⟩ := own_virt X0 hx hZ (y := Y20) hown (ww hw 85 rfl) (ww hw 86 rfl) (ww hw 88 rfl) (ww hw 87 rfl) (ww hw 89 rfl) (ww hw 13 rfl) (by decide) 0 (a := a1c) (rm20_117 l Z a0 hw a1c x3c h0 n0  P1 P4   u0  ) (by decide) (by decide) e0 P0 (by decide) (by decide) (g := (mkF m 1 #[.val (.ref a1c), .val (.int 0)] [(.ref a1c)])) rfl (by rw [hml]; rfl) (argsL := []) (rest := []) (lenOf pd_2829Z rfl) rfl (by show 2 * 0 + _ ≤ _; exact Nat.le_of_eq rfl) (hb hby d19_1)
 obtain ⟨rfl, N1147q, e1147⟩ := hQ1147
 have N1147 := Fr.app N0 N1147q
 refine GoW.sg (mkF m 4 #[.val (.ref a1c), .val (.int 0)] [(.int 1)]) (fun t k => st1147 t k) ?_
 refine GoW.sg (mkF m 8 #[.val (.ref a1c), .val (.int 0)] [(.ref a1c)]) (fun t k => XS.ifNo X1147.here hx rfl (hb hby d19_4) rfl (by decide) (XS.aloadN X1147.here hx rfl (hb hby d19_7) rfl rfl k)) ?_
 obtain ⟨T1148, X1148, e1148, st1148⟩ := getF X1147 hx hZ hown (host := "") (Or.inl (ww hw 31 rfl)) Via.refl e1147 P2 (g := (mkF m 8 #[.val (.ref a1c), .val (.int 0)] [(.ref a1c)])) rfl rfl (hb hby d19_8)
 refine GoW.sg (mkF m 11 #[.val (.ref a1c), .val (.int 0)] [(.ref a2c)]) (fun t k => st1148 t k) ?_
 refine GoW.sg (mkF m 12 #[.val (.ref a1c), .val (.int 0)] [(.int 0), (.ref a2c)]) (fun t k => XS.iloadN X1148.here hx rfl (hb hby d19_11) rfl k) ?_
 obtain ⟨_, T1149, L1149, X1149, hQ1149, st1149⟩ := own_callS X1148 hx hZ hown (y := Y26) (ww hw 107 rfl) (ww hw 108 rfl) (ww hw 109 rfl) (ww hw 110 rfl) (by decide) 0 (rm26_131 l Z a0 hw a2c ka2c x1c x2c x4c h0 n0  P3 P5   u1  ) (by decide) (by decide) e1148 (by decide) (by decide) (g := (mkF m 12 #[.val (.ref a1c), .val (.int 0)] [(.int 0), (.ref a2c)])) rfl (by rw [hml]; rfl) (argsL := [(.ref a2c), (.int (0 : Int32))]) (rest := []) (lenOf pd_285bBI29C rfl) rfl (by show 2 * 0 + _ ≤ _; exact Nat.le_of_eq rfl) (hb hby d19_12)
 obtain ⟨rfl, N1149q, e1149⟩ := hQ1149
 have N1149 := Fr.app N1147 N1149q
 refine GoW.sg (mkF m 15 #[.val (.ref a1c), .val (.int 0)] [(.int (nar .char (x1c &&& (255 : Int32)).toUInt32.toUInt16.toUInt32.toInt32))]) (fun t k => st1149 t k) ?_
 refine GoW.retN X1149 hx (t := .char) Bd.returns (by simp) (hb hby d19_15) Bd.notSynchronized ?_ (by decide) (by decide)
 rw [e1149]
 exact ⟨rfl, N1149, rfl⟩
def Q19_138 (Z : State) (a1c : Addr) (a2c : Addr) (ka2c : ClassId) (x1c : Int32) (x2c : Int32) (x3c : Int32) (x4c : Int32) (x5c : Int32) (x6c : Value) (h0 : Heap) (n0 : Nat) (v : Option Value) (h : Heap) (L : List Loc) : Prop := v = some (.int (nar .char (nar .char (nar .char (((x1c &&& (255 : Int32)) <<< ((0 : Int32) &&& 31)) ||| ((x2c &&& (255 : Int32)) <<< ((8 : Int32) &&& 31))).toUInt32.toUInt16.toUInt32.toInt32)))) ∧ Fr n0 L ∧ (h = h0)
theorem rm19_138 (l : Launch) (Z : State) (a0 : Array Value) (hw : HW a0 Z) (a1c : Addr) (a2c : Addr) (ka2c : ClassId) (x1c : Int32) (x2c : Int32) (x3c : Int32) (x4c : Int32) (x5c : Int32) (x6c : Value) (h0 : Heap) (n0 : Nat) (P0 : Exa Z h0 a1c "java/lang/String") (P1 : Fld Z h0 a1c "java/lang/String" "coder" "B" (.int 1)) (P2 : Fld Z h0 a1c "java/lang/String" "value" "[B" (.ref a2c)) (P3 : Arv Z h0 a2c ka2c .byte (4 : Int32) [(.int x1c), (.int x2c), (.int x3c), (.int x4c)] (.int 0)) (P4 : Sta Z h0 "java/lang/String" "COMPACT_STRINGS" "Z" (.int x5c)) (P5 : Sta Z h0 "java/lang/StringUTF16" "$assertionsDisabled" "Z" (.int 1)) (P6 : Sta Z h0 "java/lang/StringUTF16" "HI_BYTE_SHIFT" "I" (.int 0)) (P7 : Sta Z h0 "java/lang/StringUTF16" "LO_BYTE_SHIFT" "I" (.int 8)) (P8 : Sta Z h0 "jdk/internal/util/Preconditions" "SIOOBE_FORMATTER" "Ljava/util/function/BiFunction;" x6c) (u0 : ¬ (x5c = (0 : Int32))) (u1 : Value.isRef x6c = true) :
  MM l Z Y19 jdk_42_method_56_code 2 (some .char) 4 0 0 53 #[(.ref a1c), (.int 0)] h0 (Q19_138 Z a1c a2c ka2c x1c x2c x3c x4c x5c x6c h0 n0) := by
 refine own_start (fun m => (mkF m 0 #[.val (.ref a1c), .val (.int 0)] [])) (plainFor_of_name pn_java_lang_String) (by simp [entryFrame, mkF, argsToLocals, Value.category]) n0 ?_
 intro p e s m below meth c s₁ Bd hx hby hml hZ hown hnm X0 e0 N0
 refine GoW.sg (mkF m 1 #[.val (.ref a1c), .val (.int 0)] [(.ref a1c)]) (fun t k => XS.aloadN X0.here hx rfl (hb hby d19_0) rfl rfl k) ?_
 obtain ⟨_, T1153, L1153, X1153, hQ1153, st1153⟩ := own_virt X0 hx hZ (y := Y20) hown (ww hw 85 rfl) (ww hw 86 rfl) (ww hw 88 rfl) (ww hw 87 rfl) (ww hw 89 rfl) (ww hw 13 rfl) (by decide) 0 (a := a1c) (rm20_120 l Z a0 hw a1c x5c h0 n0  P1 P4   u0  ) (by decide) (by decide) e0 P0 (by decide) (by decide) (g := (mkF m 1 #[.val (.ref a1c), .val (.int 0)] [(.ref a1c)])) rfl (by rw [hml]; rfl) (argsL := []) (rest := []) (lenOf pd_2829Z rfl) rfl (by show 2 * 0 + _ ≤ _; exact Nat.le_of_eq rfl) (hb hby d19_1)
 obtain ⟨rfl, N1153q, e1153⟩ := hQ1153
 have N1153 := Fr.app N0 N1153q
 refine GoW.sg (mkF m 4 #[.val (.ref a1c), .val (.int 0)] [(.int 0)]) (fun t k => st1153 t k) ?_
 refine GoW.sg (mkF m 17 #[.val (.ref a1c), .val (.int 0)] [(.ref a1c)]) (fun t k => XS.ifYes X1153.here hx rfl (pc0 := 4) (pc' := 16) rfl (hb hby d19_4) rfl (by decide) (by decide) (by decide) (XS.aloadN X1153.here hx rfl (hb hby d19_16) rfl rfl k)) ?_
 obtain ⟨T1154, X1154, e1154, st1154⟩ := getF X1153 hx hZ hown (host := "") (Or.inl (ww hw 31 rfl)) Via.refl e1153 P2 (g := (mkF m 17 #[.val (.ref a1c), .val (.int 0)] [(.ref a1c)])) rfl rfl (hb hby d19_17)
 refine GoW.sg (mkF m 20 #[.val (.ref a1c), .val (.int 0)] [(.ref a2c)]) (fun t k => st1154 t k) ?_
 refine GoW.sg (mkF m 21 #[.val (.ref a1c), .val (.int 0)] [(.int 0), (.ref a2c)]) (fun t k => XS.iloadN X1154.here hx rfl (hb hby d19_20) rfl k) ?_
 obtain ⟨_, T1155, L1155, X1155, hQ1155, st1155⟩ := own_callS X1154 hx hZ hown (y := Y21) (ww hw 90 rfl) (ww hw 91 rfl) (ww hw 50 rfl) (ww hw 92 rfl) (by decide) 0 (rm21_135 l Z a0 hw a2c ka2c x1c x2c x3c x4c x6c h0 n0  P3 P5 P6 P7 P8   u1  ) (by decide) (by decide) e1154 (by decide) (by decide) (g := (mkF m 21 #[.val (.ref a1c), .val (.int 0)] [(.int 0), (.ref a2c)])) rfl (by rw [hml]; rfl) (argsL := [(.ref a2c), (.int (0 : Int32))]) (rest := []) (lenOf pd_285bBI29C rfl) rfl (by show 2 * 0 + _ ≤ _; exact Nat.le_of_eq rfl) (hb hby d19_21)
 obtain ⟨rfl, N1155q, e1155⟩ := hQ1155
 have N1155 := Fr.app N1153 N1155q
 refine GoW.sg (mkF m 24 #[.val (.ref a1c), .val (.int 0)] [(.int (nar .char (nar .char (((x1c &&& (255 : Int32)) <<< ((0 : Int32) &&& 31)) ||| ((x2c &&& (255 : Int32)) <<< ((8 : Int32) &&& 31))).toUInt32.toUInt16.toUInt32.toInt32)))]) (fun t k => st1155 t k) ?_
 refine GoW.retN X1155 hx (t := .char) Bd.returns (by simp) (hb hby d19_24) Bd.notSynchronized ?_ (by decide) (by decide)
 rw [e1155]
 exact ⟨rfl, N1155, rfl⟩
theorem rmCh20 (l : Launch) (Z : State) (a0 : Array Value) (hw : HW a0 Z) (a1 : Addr) (c0 : Int32) (c1 : Int32) (cs : Int32) (vf : Value) (h0 : Heap) (n0 : Nat) (PE : Exa Z h0 a1 "java/lang/String") (hS : Str2 Z h0 a1 c0 c1) (PC : Sta Z h0 "java/lang/String" "COMPACT_STRINGS" "Z" (.int cs)) (PA : Sta Z h0 "java/lang/StringUTF16" "$assertionsDisabled" "Z" (.int (1 : Int32))) (PH : Sta Z h0 "java/lang/StringUTF16" "HI_BYTE_SHIFT" "I" (.int (0 : Int32))) (PL : Sta Z h0 "java/lang/StringUTF16" "LO_BYTE_SHIFT" "I" (.int (8 : Int32))) (PF : Sta Z h0 "jdk/internal/util/Preconditions" "SIOOBE_FORMATTER" "Ljava/util/function/BiFunction;" vf) (hvf : vf.isRef = true) (lo_c0 : ¬ (c0 < (0 : Int32))) (hi_c0 : ¬ ((65535 : Int32) < c0)) (lo_c1 : ¬ (c1 < (0 : Int32))) (hi_c1 : ¬ ((65535 : Int32) < c1)) (ncs : ¬ (cs = (0 : Int32))) :
  MM l Z Y19 jdk_42_method_56_code 2 (some .char) 4 0 0 53 #[(.ref a1), (.int (0 : Int32))] h0 (PureQ (.int c0) h0 n0) := by
  rcases hS with ⟨b, kb, PV, PK, PB, b0, b1⟩ | ⟨b, kb, PV, PK, PB⟩
  · exact (rm19_137 l Z a0 hw a1 b kb (lat8 c0) (lat8 c1) cs vf h0 n0  PE PK PV PB PC PF   ncs hvf).mono (fun _ _ h => h) (fun _ _ _ _ _ h => h) (fun _ _ _ _ _ h => by obtain ⟨v, L, q1, ⟨q2, q3⟩, q4⟩ := h; refine ⟨v, L, q1, ⟨q2.trans ?_, q3⟩, q4⟩; simp only [own_lat c0 lo_c0 b0, own_nc c0 lo_c0 hi_c0])
  · exact (rm19_138 l Z a0 hw a1 b kb (lo8 c0) (hi8 c0) (lo8 c1) (hi8 c1) cs vf h0 n0  PE PK PV PB PC PA PH PL PF   ncs hvf).mono (fun _ _ h => h) (fun _ _ _ _ _ h => h) (fun _ _ _ _ _ h => by obtain ⟨v, L, q1, ⟨q2, q3⟩, q4⟩ := h; refine ⟨v, L, q1, ⟨q2.trans ?_, q3⟩, q4⟩; simp only [own_join c0 lo_c0 hi_c0, own_nc c0 lo_c0 hi_c0])
def Q26_139 (Z : State) (a1c : Addr) (ka1c : ClassId) (x1c : Int32) (x2c : Int32) (x3c : Value) (h0 : Heap) (n0 : Nat) (v : Option Value) (h : Heap) (L : List Loc) : Prop := v = some (.int (nar .char (x2c &&& (255 : Int32)).toUInt32.toUInt16.toUInt32.toInt32)) ∧ Fr n0 L ∧ (h = h0)
theorem rm26_139 (l : Launch) (Z : State) (a0 : Array Value) (hw : HW a0 Z) (a1c : Addr) (ka1c : ClassId) (x1c : Int32) (x2c : Int32) (x3c : Value) (h0 : Heap) (n0 : Nat) (P0 : Arv Z h0 a1c ka1c .byte (2 : Int32) [(.int x1c), (.int x2c)] (.int 0)) (P1 : Sta Z h0 "jdk/internal/util/Preconditions" "SIOOBE_FORMATTER" "Ljava/util/function/BiFunction;" x3c) (u0 : Value.isRef x3c = true) :
  MM l Z Y26 jdk_43_method_2_code 2 (some .char) 2 0 0 27 #[(.ref a1c), (.int 1)] h0 (Q26_139 Z a1c ka1c x1c x2c x3c h0 n0) := by
 refine own_start (fun m => (mkF m 0 #[.val (.ref a1c), .val (.int 1)] [])) (plainFor_of_name pn_java_lang_StringLatin1) (by simp [entryFrame, mkF, argsToLocals, Value.category]) n0 ?_
 intro p e s m below meth c s₁ Bd hx hby hml hZ hown hnm X0 e0 N0
 refine GoW.sg (mkF m 2 #[.val (.ref a1c), .val (.int 1)] [(.ref a1c), (.int 1)]) (fun t k => XS.iloadN X0.here hx rfl (hb hby d26_0) rfl (XS.aloadN X0.here hx rfl (hb hby d26_1) rfl rfl k)) ?_
 obtain ⟨cl1161, Ar1161, q1161, Sz1161, Nn1161, Hh1161, Gg1161⟩ := id P0
 have st1161 := X0.arraylength hx (hq_ e0 Ar1161.1) (State.isArrayOf_alike hZ.alike Ar1161.2.1) (g := (mkF m 2 #[.val (.ref a1c), .val (.int 1)] [(.ref a1c), (.int 1)])) rfl rfl (hb hby d26_2)
 rw [len_of Sz1161 Nn1161] at st1161
 refine GoW.sg (mkF m 3 #[.val (.ref a1c), .val (.int 1)] [(.int 2), (.int 1)]) (fun t k => st1161 t k) ?_
 obtain ⟨_, T1162, L1162, X1162, hQ1162, st1162⟩ := own_callS X0 hx hZ hown (y := Y24) (ww hw 111 rfl) (ww hw 100 rfl) (ww hw 13 rfl) (ww hw 101 rfl) (by decide) 0 (rmCk12 l Z a0 hw x3c h0 n0 P1 u0) (by decide) (by decide) e0 (by decide) (by decide) (g := (mkF m 3 #[.val (.ref a1c), .val (.int 1)] [(.int 2), (.int 1)])) rfl (by rw [hml]; rfl) (argsL := [(.int (1 : Int32)), (.int (2 : Int32))]) (rest := []) (lenOf pd_28II29V rfl) rfl (by show 2 * 0 + _ ≤ _; exact Nat.le_of_eq rfl) (hb hby d26_3)
 obtain ⟨rfl, N1162q, e1162⟩ := hQ1162
 have N1162 := Fr.app N0 N1162q
 refine GoW.sg (mkF m 6 #[.val (.ref a1c), .val (.int 1)] []) (fun t k => st1162 t k) ?_
 refine GoW.sg (mkF m 8 #[.val (.ref a1c), .val (.int 1)] [(.int 1), (.ref a1c)]) (fun t k => XS.aloadN X1162.here hx rfl (hb hby d26_6) rfl rfl (XS.iloadN X1162.here hx rfl (hb hby d26_7) rfl k)) ?_
 obtain ⟨cl1163, Ar1163, q1163, Sz1163, Nn1163, Hh1163, Gg1163⟩ := id P0
 have hin1163 : ¬ ((1 : Int32) < 0 ∨ cl1163.slots.size ≤ ((1 : Int32)).toNatClampNeg) := inb_of Sz1163 ⟨by decide, by decide⟩
 refine GoW.sg (mkF m 9 #[.val (.ref a1c), .val (.int 1)] [(.int x2c)]) (fun t k => X1162.baloadBytes hx (j := (1 : Int32)) (v := (.int x2c)) (hq_ e1162 Ar1163.1) (State.isArrayOf_alike hZ.alike Ar1163.2.1) Ar1163.2.2 hin1163 (Hh1163.at hin1163 rfl) (g := (mkF m 8 #[.val (.ref a1c), .val (.int 1)] [(.int 1), (.ref a1c)])) rfl rfl (hb hby d26_8) t k) ?_
 refine GoW.sg (mkF m 14 #[.val (.ref a1c), .val (.int 1)] [(.int (x2c &&& (255 : Int32)).toUInt32.toUInt16.toUInt32.toInt32)]) (fun t k => XS.sipush X1162.here hx rfl (hb hby d26_9) (XS.iand X1162.here hx rfl (hb hby d26_12) rfl (XS.i2c X1162.here hx rfl (hb hby d26_13) rfl k))) ?_
 refine GoW.retN X1162 hx (t := .char) Bd.returns (by simp) (hb hby d26_14) Bd.notSynchronized ?_ (by decide) (by decide)
 rw [e1162]
 exact ⟨rfl, N1162, rfl⟩
def Q22_141 (Z : State) (a1c : Addr) (ka1c : ClassId) (x1c : Int32) (x2c : Int32) (x3c : Int32) (x4c : Int32) (x5c : Value) (h0 : Heap) (n0 : Nat) (v : Option Value) (h : Heap) (L : List Loc) : Prop := v = none ∧ Fr n0 L ∧ (h = h0)
theorem rm22_141 (l : Launch) (Z : State) (a0 : Array Value) (hw : HW a0 Z) (a1c : Addr) (ka1c : ClassId) (x1c : Int32) (x2c : Int32) (x3c : Int32) (x4c : Int32) (x5c : Value) (h0 : Heap) (n0 : Nat) (P0 : Arv Z h0 a1c ka1c .byte (4 : Int32) [(.int x1c), (.int x2c), (.int x3c), (.int x4c)] (.int 0)) (P1 : Sta Z h0 "jdk/internal/util/Preconditions" "SIOOBE_FORMATTER" "Ljava/util/function/BiFunction;" x5c) (u0 : Value.isRef x5c = true) :
  MM l Z Y22 jdk_52_method_91_code 2 none 2 0 0 27 #[(.int 1), (.ref a1c)] h0 (Q22_141 Z a1c ka1c x1c x2c x3c x4c x5c h0 n0) := by
 refine own_start (fun m => (mkF m 0 #[.val (.int 1), .val (.ref a1c)] [])) (plainFor_of_name pn_java_lang_StringUTF16) (by simp [entryFrame, mkF, argsToLocals, Value.category]) n0 ?_
 intro p e s m below meth c s₁ Bd hx hby hml hZ hown hnm X0 e0 N0
 refine GoW.sg (mkF m 2 #[.val (.int 1), .val (.ref a1c)] [(.ref a1c), (.int 1)]) (fun t k => XS.iloadN X0.here hx rfl (hb hby d22_0) rfl (XS.aloadN X0.here hx rfl (hb hby d22_1) rfl rfl k)) ?_
 obtain ⟨_, T1175, L1175, X1175, hQ1175, st1175⟩ := own_callS X0 hx hZ hown (y := Y23) (ww hw 96 rfl) (ww hw 97 rfl) (ww hw 50 rfl) (ww hw 98 rfl) (by decide) 1 (rm23_133 l Z a0 hw a1c ka1c x1c x2c x3c x4c h0 n0  P0     ) (by decide) (by decide) e0 (by decide) (by decide) (g := (mkF m 2 #[.val (.int 1), .val (.ref a1c)] [(.ref a1c), (.int 1)])) rfl (by rw [hml]; rfl) (argsL := [(.ref a1c)]) (rest := [(.int (1 : Int32))]) (lenOf pd_285bB29I rfl) rfl (by show 2 * 0 + _ ≤ _; exact Nat.le_of_eq rfl) (hb hby d22_2)
 obtain ⟨rfl, N1175q, e1175⟩ := hQ1175
 have N1175 := Fr.app N0 N1175q
 refine GoW.sg (mkF m 5 #[.val (.int 1), .val (.ref a1c)] [(.int 2), (.int 1)]) (fun t k => st1175 t k) ?_
 obtain ⟨_, T1176, L1176, X1176, hQ1176, st1176⟩ := own_callS X1175 hx hZ hown (y := Y24) (ww hw 99 rfl) (ww hw 100 rfl) (ww hw 13 rfl) (ww hw 101 rfl) (by decide) 0 (rmCk12 l Z a0 hw x5c h0 n0 P1 u0) (by decide) (by decide) e1175 (by decide) (by decide) (g := (mkF m 5 #[.val (.int 1), .val (.ref a1c)] [(.int 2), (.int 1)])) rfl (by rw [hml]; rfl) (argsL := [(.int (1 : Int32)), (.int (2 : Int32))]) (rest := []) (lenOf pd_28II29V rfl) rfl (by show 2 * 0 + _ ≤ _; exact Nat.le_of_eq rfl) (hb hby d22_5)
 obtain ⟨rfl, N1176q, e1176⟩ := hQ1176
 have N1176 := Fr.app N1175 N1176q
 refine GoW.sg (mkF m 8 #[.val (.int 1), .val (.ref a1c)] []) (fun t k => st1176 t k) ?_
 refine GoW.retV X1176 hx Bd.returns (hb hby d22_8) Bd.notSynchronized ?_ (by decide) (by decide)
 rw [e1176]
 exact ⟨rfl, N1176, rfl⟩
def Q21_142 (Z : State) (a1c : Addr) (ka1c : ClassId) (x1c : Int32) (x2c : Int32) (x3c : Int32) (x4c : Int32) (x5c : Value) (h0 : Heap) (n0 : Nat) (v : Option Value) (h : Heap) (L : List Loc) : Prop := v = some (.int (nar .char (nar .char (((x3c &&& (255 : Int32)) <<< ((0 : Int32) &&& 31)) ||| ((x4c &&& (255 : Int32)) <<< ((8 : Int32) &&& 31))).toUInt32.toUInt16.toUInt32.toInt32))) ∧ Fr n0 L ∧ (h = h0)
theorem rm21_142 (l : Launch) (Z : State) (a0 : Array Value) (hw : HW a0 Z) (a1c : Addr) (ka1c : ClassId) (x1c : Int32) (x2c : Int32) (x3c : Int32) (x4c : Int32) (x5c : Value) (h0 : Heap) (n0 : Nat) (P0 : Arv Z h0 a1c ka1c .byte (4 : Int32) [(.int x1c), (.int x2c), (.int x3c), (.int x4c)] (.int 0)) (P1 : Sta Z h0 "java/lang/StringUTF16" "$assertionsDisabled" "Z" (.int 1)) (P2 : Sta Z h0 "java/lang/StringUTF16" "HI_BYTE_SHIFT" "I" (.int 0)) (P3 : Sta Z h0 "java/lang/StringUTF16" "LO_BYTE_SHIFT" "I" (.int 8)) (P4 : Sta Z h0 "jdk/internal/util/Preconditions" "SIOOBE_FORMATTER" "Ljava/util/function/BiFunction;" x5c) (u0 : Value.isRef x5c = true) :
  MM l Z Y21 jdk_52_method_83_code 2 (some .char) 3 0 0 40 #[(.ref a1c), (.int 1)] h0 (Q21_142 Z a1c ka1c x1c x2c x3c x4c x5c h0 n0) := by
 refine own_start (fun m => (mkF m 0 #[.val (.ref a1c), .val (.int 1)] [])) (plainFor_of_name pn_java_lang_StringUTF16) (by simp [entryFrame, mkF, argsToLocals, Value.category]) n0 ?_
 intro p e s m below meth c s₁ Bd hx hby hml hZ hown hnm X0 e0 N0
 refine GoW.sg (mkF m 2 #[.val (.ref a1c), .val (.int 1)] [(.ref a1c), (.int 1)]) (fun t k => XS.iloadN X0.here hx rfl (hb hby d21_0) rfl (XS.aloadN X0.here hx rfl (hb hby d21_1) rfl rfl k)) ?_
 obtain ⟨_, T1186, L1186, X1186, hQ1186, st1186⟩ := own_callS X0 hx hZ hown (y := Y22) (ww hw 93 rfl) (ww hw 94 rfl) (ww hw 50 rfl) (ww hw 95 rfl) (by decide) 0 (rm22_141 l Z a0 hw a1c ka1c x1c x2c x3c x4c x5c h0 n0  P0 P4   u0  ) (by decide) (by decide) e0 (by decide) (by decide) (g := (mkF m 2 #[.val (.ref a1c), .val (.int 1)] [(.ref a1c), (.int 1)])) rfl (by rw [hml]; rfl) (argsL := [(.int (1 : Int32)), (.ref a1c)]) (rest := []) (lenOf pd_28I5bB29V rfl) rfl (by show 2 * 0 + _ ≤ _; exact Nat.le_of_eq rfl) (hb hby d21_2)
 obtain ⟨rfl, N1186q, e1186⟩ := hQ1186
 have N1186 := Fr.app N0 N1186q
 refine GoW.sg (mkF m 5 #[.val (.ref a1c), .val (.int 1)] []) (fun t k => st1186 t k) ?_
 refine GoW.sg (mkF m 7 #[.val (.ref a1c), .val (.int 1)] [(.int 1), (.ref a1c)]) (fun t k => XS.aloadN X1186.here hx rfl (hb hby d21_5) rfl rfl (XS.iloadN X1186.here hx rfl (hb hby d21_6) rfl k)) ?_
 obtain ⟨_, T1192, L1192, X1192, hQ1192, st1192⟩ := own_callS X1186 hx hZ hown (y := Y17) (ww hw 74 rfl) (ww hw 75 rfl) (ww hw 50 rfl) (ww hw 76 rfl) (by decide) 0 (rm17_30 l Z a0 hw a1c ka1c x1c x2c x3c x4c h0 n0  P0 P1 P2 P3     ) (by decide) (by decide) e1186 (by decide) (by decide) (g := (mkF m 7 #[.val (.ref a1c), .val (.int 1)] [(.int 1), (.ref a1c)])) rfl (by rw [hml]; rfl) (argsL := [(.ref a1c), (.int (1 : Int32))]) (rest := []) (lenOf pd_285bBI29C rfl) rfl (by show 2 * 0 + _ ≤ _; exact Nat.le_of_eq rfl) (hb hby d21_7)
 obtain ⟨rfl, N1192q, e1192⟩ := hQ1192
 have N1192 := Fr.app N1186 N1192q
 refine GoW.sg (mkF m 10 #[.val (.ref a1c), .val (.int 1)] [(.int (nar .char (((x3c &&& (255 : Int32)) <<< ((0 : Int32) &&& 31)) ||| ((x4c &&& (255 : Int32)) <<< ((8 : Int32) &&& 31))).toUInt32.toUInt16.toUInt32.toInt32))]) (fun t k => st1192 t k) ?_
 refine GoW.retN X1192 hx (t := .char) Bd.returns (by simp) (hb hby d21_10) Bd.notSynchronized ?_ (by decide) (by decide)
 rw [e1192]
 exact ⟨rfl, N1192, rfl⟩
def Q19_144 (Z : State) (a1c : Addr) (a2c : Addr) (ka2c : ClassId) (x1c : Int32) (x2c : Int32) (x3c : Int32) (x4c : Value) (h0 : Heap) (n0 : Nat) (v : Option Value) (h : Heap) (L : List Loc) : Prop := v = some (.int (nar .char (nar .char (x2c &&& (255 : Int32)).toUInt32.toUInt16.toUInt32.toInt32))) ∧ Fr n0 L ∧ (h = h0)
theorem rm19_144 (l : Launch) (Z : State) (a0 : Array Value) (hw : HW a0 Z) (a1c : Addr) (a2c : Addr) (ka2c : ClassId) (x1c : Int32) (x2c : Int32) (x3c : Int32) (x4c : Value) (h0 : Heap) (n0 : Nat) (P0 : Exa Z h0 a1c "java/lang/String") (P1 : Fld Z h0 a1c "java/lang/String" "coder" "B" (.int 0)) (P2 : Fld Z h0 a1c "java/lang/String" "value" "[B" (.ref a2c)) (P3 : Arv Z h0 a2c ka2c .byte (2 : Int32) [(.int x1c), (.int x2c)] (.int 0)) (P4 : Sta Z h0 "java/lang/String" "COMPACT_STRINGS" "Z" (.int x3c)) (P5 : Sta Z h0 "jdk/internal/util/Preconditions" "SIOOBE_FORMATTER" "Ljava/util/function/BiFunction;" x4c) (u0 : ¬ (x3c = (0 : Int32))) (u1 : Value.isRef x4c = true) :
  MM l Z Y19 jdk_42_method_56_code 2 (some .char) 4 0 0 53 #[(.ref a1c), (.int 1)] h0 (Q19_144 Z a1c a2c ka2c x1c x2c x3c x4c h0 n0) := by
 refine own_start (fun m => (mkF m 0 #[.val (.ref a1c), .val (.int 1)] [])) (plainFor_of_name pn_java_lang_String) (by simp [entryFrame, mkF, argsToLocals, Value.category]) n0 ?_
 intro p e s m below meth c s₁ Bd hx hby hml hZ hown hnm X0 e0 N0
 refine GoW.sg (mkF m 1 #[.val (.ref a1c), .val (.int 1)] [(.ref a1c)]) (fun t k => XS.aloadN X0.here hx rfl (hb hby d19_0) rfl rfl k) ?_
 obtain ⟨_, T1200, L1200, X1200, hQ1200, st1200⟩ := own_virt X0 hx hZ (y := Y20) hown (ww hw 85 rfl) (ww hw 86 rfl) (ww hw 88 rfl) (ww hw 87 rfl) (ww hw 89 rfl) (ww hw 13 rfl) (by decide) 0 (a := a1c) (rm20_117 l Z a0 hw a1c x3c h0 n0  P1 P4   u0  ) (by decide) (by decide) e0 P0 (by decide) (by decide) (g := (mkF m 1 #[.val (.ref a1c), .val (.int 1)] [(.ref a1c)])) rfl (by rw [hml]; rfl) (argsL := []) (rest := []) (lenOf pd_2829Z rfl) rfl (by show 2 * 0 + _ ≤ _; exact Nat.le_of_eq rfl) (hb hby d19_1)
 obtain ⟨rfl, N1200q, e1200⟩ := hQ1200
 have N1200 := Fr.app N0 N1200q
 refine GoW.sg (mkF m 4 #[.val (.ref a1c), .val (.int 1)] [(.int 1)]) (fun t k => st1200 t k) ?_
 refine GoW.sg (mkF m 8 #[.val (.ref a1c), .val (.int 1)] [(.ref a1c)]) (fun t k => XS.ifNo X1200.here hx rfl (hb hby d19_4) rfl (by decide) (XS.aloadN X1200.here hx rfl (hb hby d19_7) rfl rfl k)) ?_
 obtain ⟨T1201, X1201, e1201, st1201⟩ := getF X1200 hx hZ hown (host := "") (Or.inl (ww hw 31 rfl)) Via.refl e1200 P2 (g := (mkF m 8 #[.val (.ref a1c), .val (.int 1)] [(.ref a1c)])) rfl rfl (hb hby d19_8)
 refine GoW.sg (mkF m 11 #[.val (.ref a1c), .val (.int 1)] [(.ref a2c)]) (fun t k => st1201 t k) ?_
 refine GoW.sg (mkF m 12 #[.val (.ref a1c), .val (.int 1)] [(.int 1), (.ref a2c)]) (fun t k => XS.iloadN X1201.here hx rfl (hb hby d19_11) rfl k) ?_
 obtain ⟨_, T1202, L1202, X1202, hQ1202, st1202⟩ := own_callS X1201 hx hZ hown (y := Y26) (ww hw 107 rfl) (ww hw 108 rfl) (ww hw 109 rfl) (ww hw 110 rfl) (by decide) 0 (rm26_139 l Z a0 hw a2c ka2c x1c x2c x4c h0 n0  P3 P5   u1  ) (by decide) (by decide) e1201 (by decide) (by decide) (g := (mkF m 12 #[.val (.ref a1c), .val (.int 1)] [(.int 1), (.ref a2c)])) rfl (by rw [hml]; rfl) (argsL := [(.ref a2c), (.int (1 : Int32))]) (rest := []) (lenOf pd_285bBI29C rfl) rfl (by show 2 * 0 + _ ≤ _; exact Nat.le_of_eq rfl) (hb hby d19_12)
 obtain ⟨rfl, N1202q, e1202⟩ := hQ1202
 have N1202 := Fr.app N1200 N1202q
 refine GoW.sg (mkF m 15 #[.val (.ref a1c), .val (.int 1)] [(.int (nar .char (x2c &&& (255 : Int32)).toUInt32.toUInt16.toUInt32.toInt32))]) (fun t k => st1202 t k) ?_
 refine GoW.retN X1202 hx (t := .char) Bd.returns (by simp) (hb hby d19_15) Bd.notSynchronized ?_ (by decide) (by decide)
 rw [e1202]
 exact ⟨rfl, N1202, rfl⟩
def Q19_145 (Z : State) (a1c : Addr) (a2c : Addr) (ka2c : ClassId) (x1c : Int32) (x2c : Int32) (x3c : Int32) (x4c : Int32) (x5c : Int32) (x6c : Value) (h0 : Heap) (n0 : Nat) (v : Option Value) (h : Heap) (L : List Loc) : Prop := v = some (.int (nar .char (nar .char (nar .char (((x3c &&& (255 : Int32)) <<< ((0 : Int32) &&& 31)) ||| ((x4c &&& (255 : Int32)) <<< ((8 : Int32) &&& 31))).toUInt32.toUInt16.toUInt32.toInt32)))) ∧ Fr n0 L ∧ (h = h0)
theorem rm19_145 (l : Launch) (Z : State) (a0 : Array Value) (hw : HW a0 Z) (a1c : Addr) (a2c : Addr) (ka2c : ClassId) (x1c : Int32) (x2c : Int32) (x3c : Int32) (x4c : Int32) (x5c : Int32) (x6c : Value) (h0 : Heap) (n0 : Nat) (P0 : Exa Z h0 a1c "java/lang/String") (P1 : Fld Z h0 a1c "java/lang/String" "coder" "B" (.int 1)) (P2 : Fld Z h0 a1c "java/lang/String" "value" "[B" (.ref a2c)) (P3 : Arv Z h0 a2c ka2c .byte (4 : Int32) [(.int x1c), (.int x2c), (.int x3c), (.int x4c)] (.int 0)) (P4 : Sta Z h0 "java/lang/String" "COMPACT_STRINGS" "Z" (.int x5c)) (P5 : Sta Z h0 "java/lang/StringUTF16" "$assertionsDisabled" "Z" (.int 1)) (P6 : Sta Z h0 "java/lang/StringUTF16" "HI_BYTE_SHIFT" "I" (.int 0)) (P7 : Sta Z h0 "java/lang/StringUTF16" "LO_BYTE_SHIFT" "I" (.int 8)) (P8 : Sta Z h0 "jdk/internal/util/Preconditions" "SIOOBE_FORMATTER" "Ljava/util/function/BiFunction;" x6c) (u0 : ¬ (x5c = (0 : Int32))) (u1 : Value.isRef x6c = true) :
  MM l Z Y19 jdk_42_method_56_code 2 (some .char) 4 0 0 53 #[(.ref a1c), (.int 1)] h0 (Q19_145 Z a1c a2c ka2c x1c x2c x3c x4c x5c x6c h0 n0) := by
 refine own_start (fun m => (mkF m 0 #[.val (.ref a1c), .val (.int 1)] [])) (plainFor_of_name pn_java_lang_String) (by simp [entryFrame, mkF, argsToLocals, Value.category]) n0 ?_
 intro p e s m below meth c s₁ Bd hx hby hml hZ hown hnm X0 e0 N0
 refine GoW.sg (mkF m 1 #[.val (.ref a1c), .val (.int 1)] [(.ref a1c)]) (fun t k => XS.aloadN X0.here hx rfl (hb hby d19_0) rfl rfl k) ?_
 obtain ⟨_, T1206, L1206, X1206, hQ1206, st1206⟩ := own_virt X0 hx hZ (y := Y20) hown (ww hw 85 rfl) (ww hw 86 rfl) (ww hw 88 rfl) (ww hw 87 rfl) (ww hw 89 rfl) (ww hw 13 rfl) (by decide) 0 (a := a1c) (rm20_120 l Z a0 hw a1c x5c h0 n0  P1 P4   u0  ) (by decide) (by decide) e0 P0 (by decide) (by decide) (g := (mkF m 1 #[.val (.ref a1c), .val (.int 1)] [(.ref a1c)])) rfl (by rw [hml]; rfl) (argsL := []) (rest := []) (lenOf pd_2829Z rfl) rfl (by show 2 * 0 + _ ≤ _; exact Nat.le_of_eq rfl) (hb hby d19_1)
 obtain ⟨rfl, N1206q, e1206⟩ := hQ1206
 have N1206 := Fr.app N0 N1206q
 refine GoW.sg (mkF m 4 #[.val (.ref a1c), .val (.int 1)] [(.int 0)]) (fun t k => st1206 t k) ?_
 refine GoW.sg (mkF m 17 #[.val (.ref a1c), .val (.int 1)] [(.ref a1c)]) (fun t k => XS.ifYes X1206.here hx rfl (pc0 := 4) (pc' := 16) rfl (hb hby d19_4) rfl (by decide) (by decide) (by decide) (XS.aloadN X1206.here hx rfl (hb hby d19_16) rfl rfl k)) ?_
 obtain ⟨T1207, X1207, e1207, st1207⟩ := getF X1206 hx hZ hown (host := "") (Or.inl (ww hw 31 rfl)) Via.refl e1206 P2 (g := (mkF m 17 #[.val (.ref a1c), .val (.int 1)] [(.ref a1c)])) rfl rfl (hb hby d19_17)
 refine GoW.sg (mkF m 20 #[.val (.ref a1c), .val (.int 1)] [(.ref a2c)]) (fun t k => st1207 t k) ?_
 refine GoW.sg (mkF m 21 #[.val (.ref a1c), .val (.int 1)] [(.int 1), (.ref a2c)]) (fun t k => XS.iloadN X1207.here hx rfl (hb hby d19_20) rfl k) ?_
 obtain ⟨_, T1208, L1208, X1208, hQ1208, st1208⟩ := own_callS X1207 hx hZ hown (y := Y21) (ww hw 90 rfl) (ww hw 91 rfl) (ww hw 50 rfl) (ww hw 92 rfl) (by decide) 0 (rm21_142 l Z a0 hw a2c ka2c x1c x2c x3c x4c x6c h0 n0  P3 P5 P6 P7 P8   u1  ) (by decide) (by decide) e1207 (by decide) (by decide) (g := (mkF m 21 #[.val (.ref a1c), .val (.int 1)] [(.int 1), (.ref a2c)])) rfl (by rw [hml]; rfl) (argsL := [(.ref a2c), (.int (1 : Int32))]) (rest := []) (lenOf pd_285bBI29C rfl) rfl (by show 2 * 0 + _ ≤ _; exact Nat.le_of_eq rfl) (hb hby d19_21)
 obtain ⟨rfl, N1208q, e1208⟩ := hQ1208
 have N1208 := Fr.app N1206 N1208q
 refine GoW.sg (mkF m 24 #[.val (.ref a1c), .val (.int 1)] [(.int (nar .char (nar .char (((x3c &&& (255 : Int32)) <<< ((0 : Int32) &&& 31)) ||| ((x4c &&& (255 : Int32)) <<< ((8 : Int32) &&& 31))).toUInt32.toUInt16.toUInt32.toInt32)))]) (fun t k => st1208 t k) ?_
 refine GoW.retN X1208 hx (t := .char) Bd.returns (by simp) (hb hby d19_24) Bd.notSynchronized ?_ (by decide) (by decide)
 rw [e1208]
 exact ⟨rfl, N1208, rfl⟩
theorem rmCh21 (l : Launch) (Z : State) (a0 : Array Value) (hw : HW a0 Z) (a1 : Addr) (c0 : Int32) (c1 : Int32) (cs : Int32) (vf : Value) (h0 : Heap) (n0 : Nat) (PE : Exa Z h0 a1 "java/lang/String") (hS : Str2 Z h0 a1 c0 c1) (PC : Sta Z h0 "java/lang/String" "COMPACT_STRINGS" "Z" (.int cs)) (PA : Sta Z h0 "java/lang/StringUTF16" "$assertionsDisabled" "Z" (.int (1 : Int32))) (PH : Sta Z h0 "java/lang/StringUTF16" "HI_BYTE_SHIFT" "I" (.int (0 : Int32))) (PL : Sta Z h0 "java/lang/StringUTF16" "LO_BYTE_SHIFT" "I" (.int (8 : Int32))) (PF : Sta Z h0 "jdk/internal/util/Preconditions" "SIOOBE_FORMATTER" "Ljava/util/function/BiFunction;" vf) (hvf : vf.isRef = true) (lo_c0 : ¬ (c0 < (0 : Int32))) (hi_c0 : ¬ ((65535 : Int32) < c0)) (lo_c1 : ¬ (c1 < (0 : Int32))) (hi_c1 : ¬ ((65535 : Int32) < c1)) (ncs : ¬ (cs = (0 : Int32))) :
  MM l Z Y19 jdk_42_method_56_code 2 (some .char) 4 0 0 53 #[(.ref a1), (.int (1 : Int32))] h0 (PureQ (.int c1) h0 n0) := by
  rcases hS with ⟨b, kb, PV, PK, PB, b0, b1⟩ | ⟨b, kb, PV, PK, PB⟩
  · exact (rm19_144 l Z a0 hw a1 b kb (lat8 c0) (lat8 c1) cs vf h0 n0  PE PK PV PB PC PF   ncs hvf).mono (fun _ _ h => h) (fun _ _ _ _ _ h => h) (fun _ _ _ _ _ h => by obtain ⟨v, L, q1, ⟨q2, q3⟩, q4⟩ := h; refine ⟨v, L, q1, ⟨q2.trans ?_, q3⟩, q4⟩; simp only [own_lat c1 lo_c1 b1, own_nc c1 lo_c1 hi_c1])
  · exact (rm19_145 l Z a0 hw a1 b kb (lo8 c0) (hi8 c0) (lo8 c1) (hi8 c1) cs vf h0 n0  PE PK PV PB PC PA PH PL PF   ncs hvf).mono (fun _ _ h => h) (fun _ _ _ _ _ h => h) (fun _ _ _ _ _ h => by obtain ⟨v, L, q1, ⟨q2, q3⟩, q4⟩ := h; refine ⟨v, L, q1, ⟨q2.trans ?_, q3⟩, q4⟩; simp only [own_join c1 lo_c1 hi_c1, own_nc c1 lo_c1 hi_c1])
def Q8_148 (Z : State) (a1c : Addr) (a2c : Addr) (ka2c : ClassId) (x1c : Int32) (x2c : Int32) (x3c : Int32) (x4c : Int32) (h0 : Heap) (n0 : Nat) (v : Option Value) (h : Heap) (L : List Loc) : Prop := v = some (.int 3) ∧ Fr n0 L ∧ (h = h0)
theorem rm8_148 (l : Launch) (Z : State) (a0 : Array Value) (hw : HW a0 Z) (a1c : Addr) (a2c : Addr) (ka2c : ClassId) (x1c : Int32) (x2c : Int32) (x3c : Int32) (x4c : Int32) (h0 : Heap) (n0 : Nat) (P0 : Exa Z h0 a1c "java/lang/String") (P1 : Fld Z h0 a1c "java/lang/String" "coder" "B" (.int 0)) (P2 : Fld Z h0 a1c "java/lang/String" "value" "[B" (.ref a2c)) (P3 : Arv Z h0 a2c ka2c .byte (3 : Int32) [(.int x1c), (.int x2c), (.int x3c)] (.int 0)) (P4 : Sta Z h0 "java/lang/String" "COMPACT_STRINGS" "Z" (.int x4c)) (u0 : ¬ (x4c = (0 : Int32))) :
  MM l Z Y8 jdk_42_method_54_code 1 (some .int) 1 0 0 13 #[(.ref a1c)] h0 (Q8_148 Z a1c a2c ka2c x1c x2c x3c x4c h0 n0) := by
 refine own_start (fun m => (mkF m 0 #[.val (.ref a1c)] [])) (plainFor_of_name pn_java_lang_String) (by simp [entryFrame, mkF, argsToLocals, Value.category]) n0 ?_
 intro p e s m below meth c s₁ Bd hx hby hml hZ hown hnm X0 e0 N0
 refine GoW.sg (mkF m 1 #[.val (.ref a1c)] [(.ref a1c)]) (fun t k => XS.aloadN X0.here hx rfl (hb hby d8_0) rfl rfl k) ?_
 obtain ⟨T1228, X1228, e1228, st1228⟩ := getF X0 hx hZ hown (host := "") (Or.inl (ww hw 31 rfl)) Via.refl e0 P2 (g := (mkF m 1 #[.val (.ref a1c)] [(.ref a1c)])) rfl rfl (hb hby d8_1)
 refine GoW.sg (mkF m 4 #[.val (.ref a1c)] [(.ref a2c)]) (fun t k => st1228 t k) ?_
 obtain ⟨cl1229, Ar1229, q1229, Sz1229, Nn1229, Hh1229, Gg1229⟩ := id P3
 have st1229 := X1228.arraylength hx (hq_ e1228 Ar1229.1) (State.isArrayOf_alike hZ.alike Ar1229.2.1) (g := (mkF m 4 #[.val (.ref a1c)] [(.ref a2c)])) rfl rfl (hb hby d8_4)
 rw [len_of Sz1229 Nn1229] at st1229
 refine GoW.sg (mkF m 5 #[.val (.ref a1c)] [(.int 3)]) (fun t k => st1229 t k) ?_
 refine GoW.sg (mkF m 6 #[.val (.ref a1c)] [(.ref a1c), (.int 3)]) (fun t k => XS.aloadN X1228.here hx rfl (hb hby d8_5) rfl rfl k) ?_
 obtain ⟨_, T1230, L1230, X1230, hQ1230, st1230⟩ := own_virt X1228 hx hZ (y := Y9) hown (ww hw 42 rfl) (ww hw 43 rfl) (ww hw 45 rfl) (ww hw 44 rfl) (ww hw 46 rfl) (ww hw 13 rfl) (by decide) 1 (a := a1c) (rm9_109 l Z a0 hw a1c x4c h0 n0  P1 P4   u0  ) (by decide) (by decide) e1228 P0 (by decide) (by decide) (g := (mkF m 6 #[.val (.ref a1c)] [(.ref a1c), (.int 3)])) rfl (by rw [hml]; rfl) (argsL := []) (rest := [(.int (3 : Int32))]) (lenOf pd_2829B rfl) rfl (by show 2 * 0 + _ ≤ _; exact Nat.le_of_eq rfl) (hb hby d8_6)
 obtain ⟨rfl, N1230q, e1230⟩ := hQ1230
 have N1230 := Fr.app N0 N1230q
 refine GoW.sg (mkF m 9 #[.val (.ref a1c)] [(.int 0), (.int 3)]) (fun t k => st1230 t k) ?_
 refine GoW.st (fun t k => XS.ishr X1230.here hx rfl (hb hby d8_9) rfl k) ?_
 rw [show ((3 : Int32) >>> ((0 : Int32) &&& 31)) = (3 : Int32) from by decide]
 show GoW p e below s (Q8_148 Z a1c a2c ka2c x1c x2c x3c x4c h0 n0) 0 0 (T1230.setTop (mkF m 10 #[.val (.ref a1c)] [(.int 3)]))
 refine GoW.retI X1230 hx Bd.returns (hb hby d8_10) Bd.notSynchronized ?_ (by decide) (by decide)
 rw [e1230]
 exact ⟨rfl, N1230, rfl⟩
def Q8_149 (Z : State) (a1c : Addr) (a2c : Addr) (ka2c : ClassId) (x1c : Int32) (x2c : Int32) (x3c : Int32) (x4c : Int32) (x5c : Int32) (x6c : Int32) (x7c : Int32) (h0 : Heap) (n0 : Nat) (v : Option Value) (h : Heap) (L : List Loc) : Prop := v = some (.int 3) ∧ Fr n0 L ∧ (h = h0)
theorem rm8_149 (l : Launch) (Z : State) (a0 : Array Value) (hw : HW a0 Z) (a1c : Addr) (a2c : Addr) (ka2c : ClassId) (x1c : Int32) (x2c : Int32) (x3c : Int32) (x4c : Int32) (x5c : Int32) (x6c : Int32) (x7c : Int32) (h0 : Heap) (n0 : Nat) (P0 : Exa Z h0 a1c "java/lang/String") (P1 : Fld Z h0 a1c "java/lang/String" "coder" "B" (.int 1)) (P2 : Fld Z h0 a1c "java/lang/String" "value" "[B" (.ref a2c)) (P3 : Arv Z h0 a2c ka2c .byte (6 : Int32) [(.int x1c), (.int x2c), (.int x3c), (.int x4c), (.int x5c), (.int x6c)] (.int 0)) (P4 : Sta Z h0 "java/lang/String" "COMPACT_STRINGS" "Z" (.int x7c)) (u0 : ¬ (x7c = (0 : Int32))) :
  MM l Z Y8 jdk_42_method_54_code 1 (some .int) 1 0 0 13 #[(.ref a1c)] h0 (Q8_149 Z a1c a2c ka2c x1c x2c x3c x4c x5c x6c x7c h0 n0) := by
 refine own_start (fun m => (mkF m 0 #[.val (.ref a1c)] [])) (plainFor_of_name pn_java_lang_String) (by simp [entryFrame, mkF, argsToLocals, Value.category]) n0 ?_
 intro p e s m below meth c s₁ Bd hx hby hml hZ hown hnm X0 e0 N0
 refine GoW.sg (mkF m 1 #[.val (.ref a1c)] [(.ref a1c)]) (fun t k => XS.aloadN X0.here hx rfl (hb hby d8_0) rfl rfl k) ?_
 obtain ⟨T1234, X1234, e1234, st1234⟩ := getF X0 hx hZ hown (host := "") (Or.inl (ww hw 31 rfl)) Via.refl e0 P2 (g := (mkF m 1 #[.val (.ref a1c)] [(.ref a1c)])) rfl rfl (hb hby d8_1)
 refine GoW.sg (mkF m 4 #[.val (.ref a1c)] [(.ref a2c)]) (fun t k => st1234 t k) ?_
 obtain ⟨cl1235, Ar1235, q1235, Sz1235, Nn1235, Hh1235, Gg1235⟩ := id P3
 have st1235 := X1234.arraylength hx (hq_ e1234 Ar1235.1) (State.isArrayOf_alike hZ.alike Ar1235.2.1) (g := (mkF m 4 #[.val (.ref a1c)] [(.ref a2c)])) rfl rfl (hb hby d8_4)
 rw [len_of Sz1235 Nn1235] at st1235
 refine GoW.sg (mkF m 5 #[.val (.ref a1c)] [(.int 6)]) (fun t k => st1235 t k) ?_
 refine GoW.sg (mkF m 6 #[.val (.ref a1c)] [(.ref a1c), (.int 6)]) (fun t k => XS.aloadN X1234.here hx rfl (hb hby d8_5) rfl rfl k) ?_
 obtain ⟨_, T1236, L1236, X1236, hQ1236, st1236⟩ := own_virt X1234 hx hZ (y := Y9) hown (ww hw 42 rfl) (ww hw 43 rfl) (ww hw 45 rfl) (ww hw 44 rfl) (ww hw 46 rfl) (ww hw 13 rfl) (by decide) 1 (a := a1c) (rm9_113 l Z a0 hw a1c x7c h0 n0  P1 P4   u0  ) (by decide) (by decide) e1234 P0 (by decide) (by decide) (g := (mkF m 6 #[.val (.ref a1c)] [(.ref a1c), (.int 6)])) rfl (by rw [hml]; rfl) (argsL := []) (rest := [(.int (6 : Int32))]) (lenOf pd_2829B rfl) rfl (by show 2 * 0 + _ ≤ _; exact Nat.le_of_eq rfl) (hb hby d8_6)
 obtain ⟨rfl, N1236q, e1236⟩ := hQ1236
 have N1236 := Fr.app N0 N1236q
 refine GoW.sg (mkF m 9 #[.val (.ref a1c)] [(.int 1), (.int 6)]) (fun t k => st1236 t k) ?_
 refine GoW.st (fun t k => XS.ishr X1236.here hx rfl (hb hby d8_9) rfl k) ?_
 rw [show ((6 : Int32) >>> ((1 : Int32) &&& 31)) = (3 : Int32) from by decide]
 show GoW p e below s (Q8_149 Z a1c a2c ka2c x1c x2c x3c x4c x5c x6c x7c h0 n0) 0 0 (T1236.setTop (mkF m 10 #[.val (.ref a1c)] [(.int 3)]))
 refine GoW.retI X1236 hx Bd.returns (hb hby d8_10) Bd.notSynchronized ?_ (by decide) (by decide)
 rw [e1236]
 exact ⟨rfl, N1236, rfl⟩
theorem rmLen3 (l : Launch) (Z : State) (a0 : Array Value) (hw : HW a0 Z) (a1 : Addr) (c0 : Int32) (c1 : Int32) (c2 : Int32) (cs : Int32) (h0 : Heap) (n0 : Nat) (PE : Exa Z h0 a1 "java/lang/String") (hS : Str3 Z h0 a1 c0 c1 c2) (PC : Sta Z h0 "java/lang/String" "COMPACT_STRINGS" "Z" (.int cs)) (ncs : ¬ (cs = (0 : Int32))) :
  MM l Z Y8 jdk_42_method_54_code 1 (some .int) 1 0 0 13 #[(.ref a1)] h0 (PureQ (.int (3 : Int32)) h0 n0) := by
  rcases hS with ⟨b, kb, PV, PK, PB, b0, b1, b2⟩ | ⟨b, kb, PV, PK, PB⟩
  · exact (rm8_148 l Z a0 hw a1 b kb (lat8 c0) (lat8 c1) (lat8 c2) cs h0 n0  PE PK PV PB PC   ncs).mono (fun _ _ h => h) (fun _ _ _ _ _ h => h) (fun _ _ _ _ _ h => h)
  · exact (rm8_149 l Z a0 hw a1 b kb (lo8 c0) (hi8 c0) (lo8 c1) (hi8 c1) (lo8 c2) (hi8 c2) cs h0 n0  PE PK PV PB PC   ncs).mono (fun _ _ h => h) (fun _ _ _ _ _ h => h) (fun _ _ _ _ _ h => h)
def Q26_150 (Z : State) (a1c : Addr) (ka1c : ClassId) (x1c : Int32) (x2c : Int32) (x3c : Int32) (x4c : Value) (h0 : Heap) (n0 : Nat) (v : Option Value) (h : Heap) (L : List Loc) : Prop := v = some (.int (nar .char (x1c &&& (255 : Int32)).toUInt32.toUInt16.toUInt32.toInt32)) ∧ Fr n0 L ∧ (h = h0)
theorem rm26_150 (l : Launch) (Z : State) (a0 : Array Value) (hw : HW a0 Z) (a1c : Addr) (ka1c : ClassId) (x1c : Int32) (x2c : Int32) (x3c : Int32) (x4c : Value) (h0 : Heap) (n0 : Nat) (P0 : Arv Z h0 a1c ka1c .byte (3 : Int32) [(.int x1c), (.int x2c), (.int x3c)] (.int 0)) (P1 : Sta Z h0 "jdk/internal/util/Preconditions" "SIOOBE_FORMATTER" "Ljava/util/function/BiFunction;" x4c) (u0 : Value.isRef x4c = true) :
  MM l Z Y26 jdk_43_method_2_code 2 (some .char) 2 0 0 27 #[(.ref a1c), (.int 0)] h0 (Q26_150 Z a1c ka1c x1c x2c x3c x4c h0 n0) := by
 refine own_start (fun m => (mkF m 0 #[.val (.ref a1c), .val (.int 0)] [])) (plainFor_of_name pn_java_lang_StringLatin1) (by simp [entryFrame, mkF, argsToLocals, Value.category]) n0 ?_
 intro p e s m below meth c s₁ Bd hx hby hml hZ hown hnm X0 e0 N0
 refine GoW.sg (mkF m 2 #[.val (.ref a1c), .val (.int 0)] [(.ref a1c), (.int 0)]) (fun t k => XS.iloadN X0.here hx rfl (hb hby d26_0) rfl (XS.aloadN X0.here hx rfl (hb hby d26_1) rfl rfl k)) ?_
 obtain ⟨cl1244, Ar1244, q1244, Sz1244, Nn1244, Hh1244, Gg1244⟩ := id P0
 have st1244 := X0.arraylength hx (hq_ e0 Ar1244.1) (State.isArrayOf_alike hZ.alike Ar1244.2.1) (g := (mkF m 2 #[.val (.ref a1c), .val (.int 0)] [(.ref a1c), (.int 0)])) rfl rfl (hb hby d26_2)
 rw [len_of Sz1244 Nn1244] at st1244
 refine GoW.sg (mkF m 3 #[.val (.ref a1c), .val (.int 0)] [(.int 3), (.int 0)]) (fun t k => st1244 t k) ?_
 obtain ⟨_, T1245, L1245, X1245, hQ1245, st1245⟩ := own_callS X0 hx hZ hown (y := Y24) (ww hw 111 rfl) (ww hw 100 rfl) (ww hw 13 rfl) (ww hw 101 rfl) (by decide) 0 (rmCk03 l Z a0 hw x4c h0 n0 P1 u0) (by decide) (by decide) e0 (by decide) (by decide) (g := (mkF m 3 #[.val (.ref a1c), .val (.int 0)] [(.int 3), (.int 0)])) rfl (by rw [hml]; rfl) (argsL := [(.int (0 : Int32)), (.int (3 : Int32))]) (rest := []) (lenOf pd_28II29V rfl) rfl (by show 2 * 0 + _ ≤ _; exact Nat.le_of_eq rfl) (hb hby d26_3)
 obtain ⟨rfl, N1245q, e1245⟩ := hQ1245
 have N1245 := Fr.app N0 N1245q
 refine GoW.sg (mkF m 6 #[.val (.ref a1c), .val (.int 0)] []) (fun t k => st1245 t k) ?_
 refine GoW.sg (mkF m 8 #[.val (.ref a1c), .val (.int 0)] [(.int 0), (.ref a1c)]) (fun t k => XS.aloadN X1245.here hx rfl (hb hby d26_6) rfl rfl (XS.iloadN X1245.here hx rfl (hb hby d26_7) rfl k)) ?_
 obtain ⟨cl1246, Ar1246, q1246, Sz1246, Nn1246, Hh1246, Gg1246⟩ := id P0
 have hin1246 : ¬ ((0 : Int32) < 0 ∨ cl1246.slots.size ≤ ((0 : Int32)).toNatClampNeg) := inb_of Sz1246 ⟨by decide, by decide⟩
 refine GoW.sg (mkF m 9 #[.val (.ref a1c), .val (.int 0)] [(.int x1c)]) (fun t k => X1245.baloadBytes hx (j := (0 : Int32)) (v := (.int x1c)) (hq_ e1245 Ar1246.1) (State.isArrayOf_alike hZ.alike Ar1246.2.1) Ar1246.2.2 hin1246 (Hh1246.at hin1246 rfl) (g := (mkF m 8 #[.val (.ref a1c), .val (.int 0)] [(.int 0), (.ref a1c)])) rfl rfl (hb hby d26_8) t k) ?_
 refine GoW.sg (mkF m 14 #[.val (.ref a1c), .val (.int 0)] [(.int (x1c &&& (255 : Int32)).toUInt32.toUInt16.toUInt32.toInt32)]) (fun t k => XS.sipush X1245.here hx rfl (hb hby d26_9) (XS.iand X1245.here hx rfl (hb hby d26_12) rfl (XS.i2c X1245.here hx rfl (hb hby d26_13) rfl k))) ?_
 refine GoW.retN X1245 hx (t := .char) Bd.returns (by simp) (hb hby d26_14) Bd.notSynchronized ?_ (by decide) (by decide)
 rw [e1245]
 exact ⟨rfl, N1245, rfl⟩
def Q23_152 (Z : State) (a1c : Addr) (ka1c : ClassId) (x1c : Int32) (x2c : Int32) (x3c : Int32) (x4c : Int32) (x5c : Int32) (x6c : Int32) (h0 : Heap) (n0 : Nat) (v : Option Value) (h : Heap) (L : List Loc) : Prop := v = some (.int 3) ∧ Fr n0 L ∧ (h = h0)
theorem rm23_152 (l : Launch) (Z : State) (a0 : Array Value) (hw : HW a0 Z) (a1c : Addr) (ka1c : ClassId) (x1c : Int32) (x2c : Int32) (x3c : Int32) (x4c : Int32) (x5c : Int32) (x6c : Int32) (h0 : Heap) (n0 : Nat) (P0 : Arv Z h0 a1c ka1c .byte (6 : Int32) [(.int x1c), (.int x2c), (.int x3c), (.int x4c), (.int x5c), (.int x6c)] (.int 0)) :
  MM l Z Y23 jdk_52_method_6_code 1 (some .int) 0 0 0 0 #[(.ref a1c)] h0 (Q23_152 Z a1c ka1c x1c x2c x3c x4c x5c x6c h0 n0) := by
 refine own_start (fun m => (mkF m 0 #[.val (.ref a1c)] [])) (plainFor_of_name pn_java_lang_StringUTF16) (by simp [entryFrame, mkF, argsToLocals, Value.category]) n0 ?_
 intro p e s m below meth c s₁ Bd hx hby hml hZ hown hnm X0 e0 N0
 refine GoW.sg (mkF m 1 #[.val (.ref a1c)] [(.ref a1c)]) (fun t k => XS.aloadN X0.here hx rfl (hb hby d23_0) rfl rfl k) ?_
 obtain ⟨cl1261, Ar1261, q1261, Sz1261, Nn1261, Hh1261, Gg1261⟩ := id P0
 have st1261 := X0.arraylength hx (hq_ e0 Ar1261.1) (State.isArrayOf_alike hZ.alike Ar1261.2.1) (g := (mkF m 1 #[.val (.ref a1c)] [(.ref a1c)])) rfl rfl (hb hby d23_1)
 rw [len_of Sz1261 Nn1261] at st1261
 refine GoW.sg (mkF m 2 #[.val (.ref a1c)] [(.int 6)]) (fun t k => st1261 t k) ?_
 refine GoW.sg (mkF m 3 #[.val (.ref a1c)] [(.int 1), (.int 6)]) (fun t k => XS.iconst X0.here hx rfl (hb hby d23_2) k) ?_
 refine GoW.st (fun t k => XS.ishr X0.here hx rfl (hb hby d23_3) rfl k) ?_
 rw [show ((6 : Int32) >>> ((1 : Int32) &&& 31)) = (3 : Int32) from by decide]
 show GoW p e below s (Q23_152 Z a1c ka1c x1c x2c x3c x4c x5c x6c h0 n0) 0 0 (s₁.setTop (mkF m 4 #[.val (.ref a1c)] [(.int 3)]))
 refine GoW.retI X0 hx Bd.returns (hb hby d23_4) Bd.notSynchronized ?_ (by decide) (by decide)
 rw [e0]
 exact ⟨rfl, N0, rfl⟩
def Q22_153 (Z : State) (a1c : Addr) (ka1c : ClassId) (x1c : Int32) (x2c : Int32) (x3c : Int32) (x4c : Int32) (x5c : Int32) (x6c : Int32) (x7c : Value) (h0 : Heap) (n0 : Nat) (v : Option Value) (h : Heap) (L : List Loc) : Prop := v = none ∧ Fr n0 L ∧ (h = h0)
theorem rm22_153 (l : Launch) (Z : State) (a0 : Array Value) (hw : HW a0 Z) (a1c : Addr) (ka1c : ClassId) (x1c : Int32) (x2c : Int32) (x3c : Int32) (x4c : Int32) (x5c : Int32) (x6c : Int32) (x7c : Value) (h0 : Heap) (n0 : Nat) (P0 : Arv Z h0 a1c ka1c .byte (6 : Int32) [(.int x1c), (.int x2c), (.int x3c), (.int x4c), (.int x5c), (.int x6c)] (.int 0)) (P1 : Sta Z h0 "jdk/internal/util/Preconditions" "SIOOBE_FORMATTER" "Ljava/util/function/BiFunction;" x7c) (u0 : Value.isRef x7c = true) :
  MM l Z Y22 jdk_52_method_91_code 2 none 2 0 0 27 #[(.int 0), (.ref a1c)] h0 (Q22_153 Z a1c ka1c x1c x2c x3c x4c x5c x6c x7c h0 n0) := by
 refine own_start (fun m => (mkF m 0 #[.val (.int 0), .val (.ref a1c)] [])) (plainFor_of_name pn_java_lang_StringUTF16) (by simp [entryFrame, mkF, argsToLocals, Value.category]) n0 ?_
 intro p e s m below meth c s₁ Bd hx hby hml hZ hown hnm X0 e0 N0
 refine GoW.sg (mkF m 2 #[.val (.int 0), .val (.ref a1c)] [(.ref a1c), (.int 0)]) (fun t k => XS.iloadN X0.here hx rfl (hb hby d22_0) rfl (XS.aloadN X0.here hx rfl (hb hby d22_1) rfl rfl k)) ?_
 obtain ⟨_, T1265, L1265, X1265, hQ1265, st1265⟩ := own_callS X0 hx hZ hown (y := Y23) (ww hw 96 rfl) (ww hw 97 rfl) (ww hw 50 rfl) (ww hw 98 rfl) (by decide) 1 (rm23_152 l Z a0 hw a1c ka1c x1c x2c x3c x4c x5c x6c h0 n0  P0     ) (by decide) (by decide) e0 (by decide) (by decide) (g := (mkF m 2 #[.val (.int 0), .val (.ref a1c)] [(.ref a1c), (.int 0)])) rfl (by rw [hml]; rfl) (argsL := [(.ref a1c)]) (rest := [(.int (0 : Int32))]) (lenOf pd_285bB29I rfl) rfl (by show 2 * 0 + _ ≤ _; exact Nat.le_of_eq rfl) (hb hby d22_2)
 obtain ⟨rfl, N1265q, e1265⟩ := hQ1265
 have N1265 := Fr.app N0 N1265q
 refine GoW.sg (mkF m 5 #[.val (.int 0), .val (.ref a1c)] [(.int 3), (.int 0)]) (fun t k => st1265 t k) ?_
 obtain ⟨_, T1266, L1266, X1266, hQ1266, st1266⟩ := own_callS X1265 hx hZ hown (y := Y24) (ww hw 99 rfl) (ww hw 100 rfl) (ww hw 13 rfl) (ww hw 101 rfl) (by decide) 0 (rmCk03 l Z a0 hw x7c h0 n0 P1 u0) (by decide) (by decide) e1265 (by decide) (by decide) (g := (mkF m 5 #[.val (.int 0), .val (.ref a1c)] [(.int 3), (.int 0)])) rfl (by rw [hml]; rfl) (argsL := [(.int (0 : Int32)), (.int (3 : Int32))]) (rest := []) (lenOf pd_28II29V rfl) rfl (by show 2 * 0 + _ ≤ _; exact Nat.le_of_eq rfl) (hb hby d22_5)
 obtain ⟨rfl, N1266q, e1266⟩ := hQ1266
 have N1266 := Fr.app N1265 N1266q
 refine GoW.sg (mkF m 8 #[.val (.int 0), .val (.ref a1c)] []) (fun t k => st1266 t k) ?_
 refine GoW.retV X1266 hx Bd.returns (hb hby d22_8) Bd.notSynchronized ?_ (by decide) (by decide)
 rw [e1266]
 exact ⟨rfl, N1266, rfl⟩
def Q21_154 (Z : State) (a1c : Addr) (ka1c : ClassId) (x1c : Int32) (x2c : Int32) (x3c : Int32) (x4c : Int32) (x5c : Int32) (x6c : Int32) (x7c : Value) (h0 : Heap) (n0 : Nat) (v : Option Value) (h : Heap) (L : List Loc) : Prop := v = some (.int (nar .char (nar .char (((x1c &&& (255 : Int32)) <<< ((0 : Int32) &&& 31)) ||| ((x2c &&& (255 : Int32)) <<< ((8 : Int32) &&& 31))).toUInt32.toUInt16.toUInt32.toInt32))) ∧ Fr n0 L ∧ (h = h0)
theorem rm21_154 (l : Launch) (Z : State) (a0 : Array Value) (hw : HW a0 Z) (a1c : Addr) (ka1c : ClassId) (x1c : Int32) (x2c : Int32) (x3c : Int32) (x4c : Int32) (x5c : Int32) (x6c : Int32) (x7c : Value) (h0 : Heap) (n0 : Nat) (P0 : Arv Z h0 a1c ka1c .byte (6 : Int32) [(.int x1c), (.int x2c), (.int x3c), (.int x4c), (.int x5c), (.int x6c)] (.int 0)) (P1 : Sta Z h0 "java/lang/StringUTF16" "$assertionsDisabled" "Z" (.int 1)) (P2 : Sta Z h0 "java/lang/StringUTF16" "HI_BYTE_SHIFT" "I" (.int 0)) (P3 : Sta Z h0 "java/lang/StringUTF16" "LO_BYTE_SHIFT" "I" (.int 8)) (P4 : Sta Z h0 "jdk/internal/util/Preconditions" "SIOOBE_FORMATTER" "Ljava/util/function/BiFunction;" x7c) (u0 : Value.isRef x7c = true) :
  MM l Z Y21 jdk_52_method_83_code 2 (some .char) 3 0 0 40 #[(.ref a1c), (.int 0)] h0 (Q21_154 Z a1c ka1c x1c x2c x3c x4c x5c x6c x7c h0 n0) := by
 refine own_start (fun m => (mkF m 0 #[.val (.ref a1c), .val (.int 0)] [])) (plainFor_of_name pn_java_lang_StringUTF16) (by simp [entryFrame, mkF, argsToLocals, Value.category]) n0 ?_
 intro p e s m below meth c s₁ Bd hx hby hml hZ hown hnm X0 e0 N0
 refine GoW.sg (mkF m 2 #[.val (.ref a1c), .val (.int 0)] [(.ref a1c), (.int 0)]) (fun t k => XS.iloadN X0.here hx rfl (hb hby d21_0) rfl (XS.aloadN X0.here hx rfl (hb hby d21_1) rfl rfl k)) ?_
 obtain ⟨_, T1277, L1277, X1277, hQ1277, st1277⟩ := own_callS X0 hx hZ hown (y := Y22) (ww hw 93 rfl) (ww hw 94 rfl) (ww hw 50 rfl) (ww hw 95 rfl) (by decide) 0 (rm22_153 l Z a0 hw a1c ka1c x1c x2c x3c x4c x5c x6c x7c h0 n0  P0 P4   u0  ) (by decide) (by decide) e0 (by decide) (by decide) (g := (mkF m 2 #[.val (.ref a1c), .val (.int 0)] [(.ref a1c), (.int 0)])) rfl (by rw [hml]; rfl) (argsL := [(.int (0 : Int32)), (.ref a1c)]) (rest := []) (lenOf pd_28I5bB29V rfl) rfl (by show 2 * 0 + _ ≤ _; exact Nat.le_of_eq rfl) (hb hby d21_2)
 obtain ⟨rfl, N1277q, e1277⟩ := hQ1277
 have N1277 := Fr.app N0 N1277q
 refine GoW.sg (mkF m 5 #[.val (.ref a1c), .val (.int 0)] []) (fun t k => st1277 t k) ?_
 refine GoW.sg (mkF m 7 #[.val (.ref a1c), .val (.int 0)] [(.int 0), (.ref a1c)]) (fun t k => XS.aloadN X1277.here hx rfl (hb hby d21_5) rfl rfl (XS.iloadN X1277.here hx rfl (hb hby d21_6) rfl k)) ?_
 obtain ⟨_, T1283, L1283, X1283, hQ1283, st1283⟩ := own_callS X1277 hx hZ hown (y := Y17) (ww hw 74 rfl) (ww hw 75 rfl) (ww hw 50 rfl) (ww hw 76 rfl) (by decide) 0 (rm17_49 l Z a0 hw a1c ka1c x1c x2c x3c x4c x5c x6c h0 n0  P0 P1 P2 P3     ) (by decide) (by decide) e1277 (by decide) (by decide) (g := (mkF m 7 #[.val (.ref a1c), .val (.int 0)] [(.int 0), (.ref a1c)])) rfl (by rw [hml]; rfl) (argsL := [(.ref a1c), (.int (0 : Int32))]) (rest := []) (lenOf pd_285bBI29C rfl) rfl (by show 2 * 0 + _ ≤ _; exact Nat.le_of_eq rfl) (hb hby d21_7)
 obtain ⟨rfl, N1283q, e1283⟩ := hQ1283
 have N1283 := Fr.app N1277 N1283q
 refine GoW.sg (mkF m 10 #[.val (.ref a1c), .val (.int 0)] [(.int (nar .char (((x1c &&& (255 : Int32)) <<< ((0 : Int32) &&& 31)) ||| ((x2c &&& (255 : Int32)) <<< ((8 : Int32) &&& 31))).toUInt32.toUInt16.toUInt32.toInt32))]) (fun t k => st1283 t k) ?_
 refine GoW.retN X1283 hx (t := .char) Bd.returns (by simp) (hb hby d21_10) Bd.notSynchronized ?_ (by decide) (by decide)
 rw [e1283]
 exact ⟨rfl, N1283, rfl⟩
def Q19_156 (Z : State) (a1c : Addr) (a2c : Addr) (ka2c : ClassId) (x1c : Int32) (x2c : Int32) (x3c : Int32) (x4c : Int32) (x5c : Value) (h0 : Heap) (n0 : Nat) (v : Option Value) (h : Heap) (L : List Loc) : Prop := v = some (.int (nar .char (nar .char (x1c &&& (255 : Int32)).toUInt32.toUInt16.toUInt32.toInt32))) ∧ Fr n0 L ∧ (h = h0)
theorem rm19_156 (l : Launch) (Z : State) (a0 : Array Value) (hw : HW a0 Z) (a1c : Addr) (a2c : Addr) (ka2c : ClassId) (x1c : Int32) (x2c : Int32) (x3c : Int32) (x4c : Int32) (x5c : Value) (h0 : Heap) (n0 : Nat) (P0 : Exa Z h0 a1c "java/lang/String") (P1 : Fld Z h0 a1c "java/lang/String" "coder" "B" (.int 0)) (P2 : Fld Z h0 a1c "java/lang/String" "value" "[B" (.ref a2c)) (P3 : Arv Z h0 a2c ka2c .byte (3 : Int32) [(.int x1c), (.int x2c), (.int x3c)] (.int 0)) (P4 : Sta Z h0 "java/lang/String" "COMPACT_STRINGS" "Z" (.int x4c)) (P5 : Sta Z h0 "jdk/internal/util/Preconditions" "SIOOBE_FORMATTER" "Ljava/util/function/BiFunction;" x5c) (u0 : ¬ (x4c = (0 : Int32))) (u1 : Value.isRef x5c = true) :
  MM l Z Y19 jdk_42_method_56_code 2 (some .char) 4 0 0 53 #[(.ref a1c), (.int 0)] h0 (Q19_156 Z a1c a2c ka2c x1c x2c x3c x4c x5c h0 n0) := by
 refine own_start (fun m => (mkF m 0 #[.val (.ref a1c), .val (.int 0)] [])) (plainFor_of_name pn_java_lang_String) (by simp [entryFrame, mkF, argsToLocals, Value.category]) n0 ?_
 intro p e s m below meth c s₁ Bd hx hby hml hZ hown hnm X0 e0 N0
 refine GoW.sg (mkF m 1 #[.val (.ref a1c), .val (.int 0)] [(.ref a1c)]) (fun t k => XS.aloadN X0.here hx rfl (hb hby d19_0) rfl rfl k) ?_
 obtain ⟨_, T1291, L1291, X1291, hQ1291, st1291⟩ := own_virt X0 hx hZ (y := Y20) hown (ww hw 85 rfl) (ww hw 86 rfl) (ww hw 88 rfl) (ww hw 87 rfl) (ww hw 89 rfl) (ww hw 13 rfl) (by decide) 0 (a := a1c) (rm20_117 l Z a0 hw a1c x4c h0 n0  P1 P4   u0  ) (by decide) (by decide) e0 P0 (by decide) (by decide) (g := (mkF m 1 #[.val (.ref a1c), .val (.int 0)] [(.ref a1c)])) rfl (by rw [hml]; rfl) (argsL := []) (rest := []) (lenOf pd_2829Z rfl) rfl (by show 2 * 0 + _ ≤ _; exact Nat.le_of_eq rfl) (hb hby d19_1)
 obtain ⟨rfl, N1291q, e1291⟩ := hQ1291
 have N1291 := Fr.app N0 N1291q
 refine GoW.sg (mkF m 4 #[.val (.ref a1c), .val (.int 0)] [(.int 1)]) (fun t k => st1291 t k) ?_
 refine GoW.sg (mkF m 8 #[.val (.ref a1c), .val (.int 0)] [(.ref a1c)]) (fun t k => XS.ifNo X1291.here hx rfl (hb hby d19_4) rfl (by decide) (XS.aloadN X1291.here hx rfl (hb hby d19_7) rfl rfl k)) ?_
 obtain ⟨T1292, X1292, e1292, st1292⟩ := getF X1291 hx hZ hown (host := "") (Or.inl (ww hw 31 rfl)) Via.refl e1291 P2 (g := (mkF m 8 #[.val (.ref a1c), .val (.int 0)] [(.ref a1c)])) rfl rfl (hb hby d19_8)
 refine GoW.sg (mkF m 11 #[.val (.ref a1c), .val (.int 0)] [(.ref a2c)]) (fun t k => st1292 t k) ?_
 refine GoW.sg (mkF m 12 #[.val (.ref a1c), .val (.int 0)] [(.int 0), (.ref a2c)]) (fun t k => XS.iloadN X1292.here hx rfl (hb hby d19_11) rfl k) ?_
 obtain ⟨_, T1293, L1293, X1293, hQ1293, st1293⟩ := own_callS X1292 hx hZ hown (y := Y26) (ww hw 107 rfl) (ww hw 108 rfl) (ww hw 109 rfl) (ww hw 110 rfl) (by decide) 0 (rm26_150 l Z a0 hw a2c ka2c x1c x2c x3c x5c h0 n0  P3 P5   u1  ) (by decide) (by decide) e1292 (by decide) (by decide) (g := (mkF m 12 #[.val (.ref a1c), .val (.int 0)] [(.int 0), (.ref a2c)])) rfl (by rw [hml]; rfl) (argsL := [(.ref a2c), (.int (0 : Int32))]) (rest := []) (lenOf pd_285bBI29C rfl) rfl (by show 2 * 0 + _ ≤ _; exact Nat.le_of_eq rfl) (hb hby d19_12)
 obtain ⟨rfl, N1293q, e1293⟩ := hQ1293
 have N1293 := Fr.app N1291 N1293q
 refine GoW.sg (mkF m 15 #[.val (.ref a1c), .val (.int 0)] [(.int (nar .char (x1c &&& (255 : Int32)).toUInt32.toUInt16.toUInt32.toInt32))]) (fun t k => st1293 t k) ?_
 refine GoW.retN X1293 hx (t := .char) Bd.returns (by simp) (hb hby d19_15) Bd.notSynchronized ?_ (by decide) (by decide)
 rw [e1293]
 exact ⟨rfl, N1293, rfl⟩
def Q19_157 (Z : State) (a1c : Addr) (a2c : Addr) (ka2c : ClassId) (x1c : Int32) (x2c : Int32) (x3c : Int32) (x4c : Int32) (x5c : Int32) (x6c : Int32) (x7c : Int32) (x8c : Value) (h0 : Heap) (n0 : Nat) (v : Option Value) (h : Heap) (L : List Loc) : Prop := v = some (.int (nar .char (nar .char (nar .char (((x1c &&& (255 : Int32)) <<< ((0 : Int32) &&& 31)) ||| ((x2c &&& (255 : Int32)) <<< ((8 : Int32) &&& 31))).toUInt32.toUInt16.toUInt32.toInt32)))) ∧ Fr n0 L ∧ (h = h0)
theorem rm19_157 (l : Launch) (Z : State) (a0 : Array Value) (hw : HW a0 Z) (a1c : Addr) (a2c : Addr) (ka2c : ClassId) (x1c : Int32) (x2c : Int32) (x3c : Int32) (x4c : Int32) (x5c : Int32) (x6c : Int32) (x7c : Int32) (x8c : Value) (h0 : Heap) (n0 : Nat) (P0 : Exa Z h0 a1c "java/lang/String") (P1 : Fld Z h0 a1c "java/lang/String" "coder" "B" (.int 1)) (P2 : Fld Z h0 a1c "java/lang/String" "value" "[B" (.ref a2c)) (P3 : Arv Z h0 a2c ka2c .byte (6 : Int32) [(.int x1c), (.int x2c), (.int x3c), (.int x4c), (.int x5c), (.int x6c)] (.int 0)) (P4 : Sta Z h0 "java/lang/String" "COMPACT_STRINGS" "Z" (.int x7c)) (P5 : Sta Z h0 "java/lang/StringUTF16" "$assertionsDisabled" "Z" (.int 1)) (P6 : Sta Z h0 "java/lang/StringUTF16" "HI_BYTE_SHIFT" "I" (.int 0)) (P7 : Sta Z h0 "java/lang/StringUTF16" "LO_BYTE_SHIFT" "I" (.int 8)) (P8 : Sta Z h0 "jdk/internal/util/Preconditions" "SIOOBE_FORMATTER" "Ljava/util/function/BiFunction;" x8c) (u0 : ¬ (x7c = (0 : Int32))) (u1 : Value.isRef x8c = true) :
  MM l Z Y19 jdk_42_method_56_code 2 (some .char) 4 0 0 53 #[(.ref a1c), (.int 0)] h0 (Q19_157 Z a1c a2c ka2c x1c x2c x3c x4c x5c x6c x7c x8c h0 n0) := by
 refine own_start (fun m => (mkF m 0 #[.val (.ref a1c), .val (.int 0)] [])) (plainFor_of_name pn_java_lang_String) (by simp [entryFrame, mkF, argsToLocals, Value.category]) n0 ?_
 intro p e s m below meth c s₁ Bd hx hby hml hZ hown hnm X0 e0 N0
 refine GoW.sg (mkF m 1 #[.val (.ref a1c), .val (.int 0)] [(.ref a1c)]) (fun t k => XS.aloadN X0.here hx rfl (hb hby d19_0) rfl rfl k) ?_
 obtain ⟨_, T1297, L1297, X1297, hQ1297, st1297⟩ := own_virt X0 hx hZ (y := Y20) hown (ww hw 85 rfl) (ww hw 86 rfl) (ww hw 88 rfl) (ww hw 87 rfl) (ww hw 89 rfl) (ww hw 13 rfl) (by decide) 0 (a := a1c) (rm20_120 l Z a0 hw a1c x7c h0 n0  P1 P4   u0  ) (by decide) (by decide) e0 P0 (by decide) (by decide) (g := (mkF m 1 #[.val (.ref a1c), .val (.int 0)] [(.ref a1c)])) rfl (by rw [hml]; rfl) (argsL := []) (rest := []) (lenOf pd_2829Z rfl) rfl (by show 2 * 0 + _ ≤ _; exact Nat.le_of_eq rfl) (hb hby d19_1)
 obtain ⟨rfl, N1297q, e1297⟩ := hQ1297
 have N1297 := Fr.app N0 N1297q
 refine GoW.sg (mkF m 4 #[.val (.ref a1c), .val (.int 0)] [(.int 0)]) (fun t k => st1297 t k) ?_
 refine GoW.sg (mkF m 17 #[.val (.ref a1c), .val (.int 0)] [(.ref a1c)]) (fun t k => XS.ifYes X1297.here hx rfl (pc0 := 4) (pc' := 16) rfl (hb hby d19_4) rfl (by decide) (by decide) (by decide) (XS.aloadN X1297.here hx rfl (hb hby d19_16) rfl rfl k)) ?_
 obtain ⟨T1298, X1298, e1298, st1298⟩ := getF X1297 hx hZ hown (host := "") (Or.inl (ww hw 31 rfl)) Via.refl e1297 P2 (g := (mkF m 17 #[.val (.ref a1c), .val (.int 0)] [(.ref a1c)])) rfl rfl (hb hby d19_17)
 refine GoW.sg (mkF m 20 #[.val (.ref a1c), .val (.int 0)] [(.ref a2c)]) (fun t k => st1298 t k) ?_
 refine GoW.sg (mkF m 21 #[.val (.ref a1c), .val (.int 0)] [(.int 0), (.ref a2c)]) (fun t k => XS.iloadN X1298.here hx rfl (hb hby d19_20) rfl k) ?_
 obtain ⟨_, T1299, L1299, X1299, hQ1299, st1299⟩ := own_callS X1298 hx hZ hown (y := Y21) (ww hw 90 rfl) (ww hw 91 rfl) (ww hw 50 rfl) (ww hw 92 rfl) (by decide) 0 (rm21_154 l Z a0 hw a2c ka2c x1c x2c x3c x4c x5c x6c x8c h0 n0  P3 P5 P6 P7 P8   u1  ) (by decide) (by decide) e1298 (by decide) (by decide) (g := (mkF m 21 #[.val (.ref a1c), .val (.int 0)] [(.int 0), (.ref a2c)])) rfl (by rw [hml]; rfl) (argsL := [(.ref a2c), (.int (0 : Int32))]) (rest := []) (lenOf pd_285bBI29C rfl) rfl (by show 2 * 0 + _ ≤ _; exact Nat.le_of_eq rfl) (hb hby d19_21)
 obtain ⟨rfl, N1299q, e1299⟩ := hQ1299
 have N1299 := Fr.app N1297 N1299q
 refine GoW.sg (mkF m 24 #[.val (.ref a1c), .val (.int 0)] [(.int (nar .char (nar .char (((x1c &&& (255 : Int32)) <<< ((0 : Int32) &&& 31)) ||| ((x2c &&& (255 : Int32)) <<< ((8 : Int32) &&& 31))).toUInt32.toUInt16.toUInt32.toInt32)))]) (fun t k => st1299 t k) ?_
 refine GoW.retN X1299 hx (t := .char) Bd.returns (by simp) (hb hby d19_24) Bd.notSynchronized ?_ (by decide) (by decide)
 rw [e1299]
 exact ⟨rfl, N1299, rfl⟩
theorem rmCh30 (l : Launch) (Z : State) (a0 : Array Value) (hw : HW a0 Z) (a1 : Addr) (c0 : Int32) (c1 : Int32) (c2 : Int32) (cs : Int32) (vf : Value) (h0 : Heap) (n0 : Nat) (PE : Exa Z h0 a1 "java/lang/String") (hS : Str3 Z h0 a1 c0 c1 c2) (PC : Sta Z h0 "java/lang/String" "COMPACT_STRINGS" "Z" (.int cs)) (PA : Sta Z h0 "java/lang/StringUTF16" "$assertionsDisabled" "Z" (.int (1 : Int32))) (PH : Sta Z h0 "java/lang/StringUTF16" "HI_BYTE_SHIFT" "I" (.int (0 : Int32))) (PL : Sta Z h0 "java/lang/StringUTF16" "LO_BYTE_SHIFT" "I" (.int (8 : Int32))) (PF : Sta Z h0 "jdk/internal/util/Preconditions" "SIOOBE_FORMATTER" "Ljava/util/function/BiFunction;" vf) (hvf : vf.isRef = true) (lo_c0 : ¬ (c0 < (0 : Int32))) (hi_c0 : ¬ ((65535 : Int32) < c0)) (lo_c1 : ¬ (c1 < (0 : Int32))) (hi_c1 : ¬ ((65535 : Int32) < c1)) (lo_c2 : ¬ (c2 < (0 : Int32))) (hi_c2 : ¬ ((65535 : Int32) < c2)) (ncs : ¬ (cs = (0 : Int32))) :
  MM l Z Y19 jdk_42_method_56_code 2 (some .char) 4 0 0 53 #[(.ref a1), (.int (0 : Int32))] h0 (PureQ (.int c0) h0 n0) := by
  rcases hS with ⟨b, kb, PV, PK, PB, b0, b1, b2⟩ | ⟨b, kb, PV, PK, PB⟩
  · exact (rm19_156 l Z a0 hw a1 b kb (lat8 c0) (lat8 c1) (lat8 c2) cs vf h0 n0  PE PK PV PB PC PF   ncs hvf).mono (fun _ _ h => h) (fun _ _ _ _ _ h => h) (fun _ _ _ _ _ h => by obtain ⟨v, L, q1, ⟨q2, q3⟩, q4⟩ := h; refine ⟨v, L, q1, ⟨q2.trans ?_, q3⟩, q4⟩; simp only [own_lat c0 lo_c0 b0, own_nc c0 lo_c0 hi_c0])
  · exact (rm19_157 l Z a0 hw a1 b kb (lo8 c0) (hi8 c0) (lo8 c1) (hi8 c1) (lo8 c2) (hi8 c2) cs vf h0 n0  PE PK PV PB PC PA PH PL PF   ncs hvf).mono (fun _ _ h => h) (fun _ _ _ _ _ h => h) (fun _ _ _ _ _ h => by obtain ⟨v, L, q1, ⟨q2, q3⟩, q4⟩ := h; refine ⟨v, L, q1, ⟨q2.trans ?_, q3⟩, q4⟩; simp only [own_join c0 lo_c0 hi_c0, own_nc c0 lo_c0 hi_c0])
def Q26_158 (Z : State) (a1c : Addr) (ka1c : ClassId) (x1c : Int32) (x2c : Int32) (x3c : Int32) (x4c : Value) (h0 : Heap) (n0 : Nat) (v : Option Value) (h : Heap) (L : List Loc) : Prop := v = some (.int (nar .char (x2c &&& (255 : Int32)).toUInt32.toUInt16.toUInt32.toInt32)) ∧ Fr n0 L ∧ (h = h0)
theorem rm26_158 (l : Launch) (Z : State) (a0 : Array Value) (hw : HW a0 Z) (a1c : Addr) (ka1c : ClassId) (x1c : Int32) (x2c : Int32) (x3c : Int32) (x4c : Value) (h0 : Heap) (n0 : Nat) (P0 : Arv Z h0 a1c ka1c .byte (3 : Int32) [(.int x1c), (.int x2c), (.int x3c)] (.int 0)) (P1 : Sta Z h0 "jdk/internal/util/Preconditions" "SIOOBE_FORMATTER" "Ljava/util/function/BiFunction;" x4c) (u0 : Value.isRef x4c = true) :
  MM l Z Y26 jdk_43_method_2_code 2 (some .char) 2 0 0 27 #[(.ref a1c), (.int 1)] h0 (Q26_158 Z a1c ka1c x1c x2c x3c x4c h0 n0) := by
 refine own_start (fun m => (mkF m 0 #[.val (.ref a1c), .val (.int 1)] [])) (plainFor_of_name pn_java_lang_StringLatin1) (by simp [entryFrame, mkF, argsToLocals, Value.category]) n0 ?_
 intro p e s m below meth c s₁ Bd hx hby hml hZ hown hnm X0 e0 N0
 refine GoW.sg (mkF m 2 #[.val (.ref a1c), .val (.int 1)] [(.ref a1c), (.int 1)]) (fun t k => XS.iloadN X0.here hx rfl (hb hby d26_0) rfl (XS.aloadN X0.here hx rfl (hb hby d26_1) rfl rfl k)) ?_
 obtain ⟨cl1305, Ar1305, q1305, Sz1305, Nn1305, Hh1305, Gg1305⟩ := id P0
 have st1305 := X0.arraylength hx (hq_ e0 Ar1305.1) (State.isArrayOf_alike hZ.alike Ar1305.2.1) (g := (mkF m 2 #[.val (.ref a1c), .val (.int 1)] [(.ref a1c), (.int 1)])) rfl rfl (hb hby d26_2)
 rw [len_of Sz1305 Nn1305] at st1305
 refine GoW.sg (mkF m 3 #[.val (.ref a1c), .val (.int 1)] [(.int 3), (.int 1)]) (fun t k => st1305 t k) ?_
 obtain ⟨_, T1306, L1306, X1306, hQ1306, st1306⟩ := own_callS X0 hx hZ hown (y := Y24) (ww hw 111 rfl) (ww hw 100 rfl) (ww hw 13 rfl) (ww hw 101 rfl) (by decide) 0 (rmCk13 l Z a0 hw x4c h0 n0 P1 u0) (by decide) (by decide) e0 (by decide) (by decide) (g := (mkF m 3 #[.val (.ref a1c), .val (.int 1)] [(.int 3), (.int 1)])) rfl (by rw [hml]; rfl) (argsL := [(.int (1 : Int32)), (.int (3 : Int32))]) (rest := []) (lenOf pd_28II29V rfl) rfl (by show 2 * 0 + _ ≤ _; exact Nat.le_of_eq rfl) (hb hby d26_3)
 obtain ⟨rfl, N1306q, e1306⟩ := hQ1306
 have N1306 := Fr.app N0 N1306q
 refine GoW.sg (mkF m 6 #[.val (.ref a1c), .val (.int 1)] []) (fun t k => st1306 t k) ?_
 refine GoW.sg (mkF m 8 #[.val (.ref a1c), .val (.int 1)] [(.int 1), (.ref a1c)]) (fun t k => XS.aloadN X1306.here hx rfl (hb hby d26_6) rfl rfl (XS.iloadN X1306.here hx rfl (hb hby d26_7) rfl k)) ?_
 obtain ⟨cl1307, Ar1307, q1307, Sz1307, Nn1307, Hh1307, Gg1307⟩ := id P0
 have hin1307 : ¬ ((1 : Int32) < 0 ∨ cl1307.slots.size ≤ ((1 : Int32)).toNatClampNeg) := inb_of Sz1307 ⟨by decide, by decide⟩
 refine GoW.sg (mkF m 9 #[.val (.ref a1c), .val (.int 1)] [(.int x2c)]) (fun t k => X1306.baloadBytes hx (j := (1 : Int32)) (v := (.int x2c)) (hq_ e1306 Ar1307.1) (State.isArrayOf_alike hZ.alike Ar1307.2.1) Ar1307.2.2 hin1307 (Hh1307.at hin1307 rfl) (g := (mkF m 8 #[.val (.ref a1c), .val (.int 1)] [(.int 1), (.ref a1c)])) rfl rfl (hb hby d26_8) t k) ?_
 refine GoW.sg (mkF m 14 #[.val (.ref a1c), .val (.int 1)] [(.int (x2c &&& (255 : Int32)).toUInt32.toUInt16.toUInt32.toInt32)]) (fun t k => XS.sipush X1306.here hx rfl (hb hby d26_9) (XS.iand X1306.here hx rfl (hb hby d26_12) rfl (XS.i2c X1306.here hx rfl (hb hby d26_13) rfl k))) ?_
 refine GoW.retN X1306 hx (t := .char) Bd.returns (by simp) (hb hby d26_14) Bd.notSynchronized ?_ (by decide) (by decide)
 rw [e1306]
 exact ⟨rfl, N1306, rfl⟩
def Q22_160 (Z : State) (a1c : Addr) (ka1c : ClassId) (x1c : Int32) (x2c : Int32) (x3c : Int32) (x4c : Int32) (x5c : Int32) (x6c : Int32) (x7c : Value) (h0 : Heap) (n0 : Nat) (v : Option Value) (h : Heap) (L : List Loc) : Prop := v = none ∧ Fr n0 L ∧ (h = h0)
theorem rm22_160 (l : Launch) (Z : State) (a0 : Array Value) (hw : HW a0 Z) (a1c : Addr) (ka1c : ClassId) (x1c : Int32) (x2c : Int32) (x3c : Int32) (x4c : Int32) (x5c : Int32) (x6c : Int32) (x7c : Value) (h0 : Heap) (n0 : Nat) (P0 : Arv Z h0 a1c ka1c .byte (6 : Int32) [(.int x1c), (.int x2c), (.int x3c), (.int x4c), (.int x5c), (.int x6c)] (.int 0)) (P1 : Sta Z h0 "jdk/internal/util/Preconditions" "SIOOBE_FORMATTER" "Ljava/util/function/BiFunction;" x7c) (u0 : Value.isRef x7c = true) :
  MM l Z Y22 jdk_52_method_91_code 2 none 2 0 0 27 #[(.int 1), (.ref a1c)] h0 (Q22_160 Z a1c ka1c x1c x2c x3c x4c x5c x6c x7c h0 n0) := by
 refine own_start (fun m => (mkF m 0 #[.val (.int 1), .val (.ref a1c)] [])) (plainFor_of_name pn_java_lang_StringUTF16) (by simp [entryFrame, mkF, argsToLocals, Value.category]) n0 ?_
 intro p e s m below meth c s₁ Bd hx hby hml hZ hown hnm X0 e0 N0
 refine GoW.sg (mkF m 2 #[.val (.int 1), .val (.ref a1c)] [(.ref a1c), (.int 1)]) (fun t k => XS.iloadN X0.here hx rfl (hb hby d22_0) rfl (XS.aloadN X0.here hx rfl (hb hby d22_1) rfl rfl k)) ?_
 obtain ⟨_, T1319, L1319, X1319, hQ1319, st1319⟩ := own_callS X0 hx hZ hown (y := Y23) (ww hw 96 rfl) (ww hw 97 rfl) (ww hw 50 rfl) (ww hw 98 rfl) (by decide) 1 (rm23_152 l Z a0 hw a1c ka1c x1c x2c x3c x4c x5c x6c h0 n0  P0     ) (by decide) (by decide) e0 (by decide) (by decide) (g := (mkF m 2 #[.val (.int 1), .val (.ref a1c)] [(.ref a1c), (.int 1)])) rfl (by rw [hml]; rfl) (argsL := [(.ref a1c)]) (rest := [(.int (1 : Int32))]) (lenOf pd_285bB29I rfl) rfl (by show 2 * 0 + _ ≤ _; exact Nat.le_of_eq rfl) (hb hby d22_2)
 obtain ⟨rfl, N1319q, e1319⟩ := hQ1319
 have N1319 := Fr.app N0 N1319q
 refine GoW.sg (mkF m 5 #[.val (.int 1), .val (.ref a1c)] [(.int 3), (.int 1)]) (fun t k => st1319 t k) ?_
 obtain ⟨_, T1320, L1320, X1320, hQ1320, st1320⟩ := own_callS X1319 hx hZ hown (y := Y24) (ww hw 99 rfl) (ww hw 100 rfl) (ww hw 13 rfl) (ww hw 101 rfl) (by decide) 0 (rmCk13 l Z a0 hw x7c h0 n0 P1 u0) (by decide) (by decide) e1319 (by decide) (by decide) (g := (mkF m 5 #[.val (.int 1), .val (.ref a1c)] [(.int 3), (.int 1)])) rfl (by rw [hml]; rfl) (argsL := [(.int (1 : Int32)), (.int (3 : Int32))]) (rest := []) (lenOf pd_28II29V rfl) rfl (by show 2 * 0 + _ ≤ _; exact Nat.le_of_eq rfl) (hb hby d22_5)
 obtain ⟨rfl, N1320q, e1320⟩ := hQ1320
 have N1320 := Fr.app N1319 N1320q
 refine GoW.sg (mkF m 8 #[.val (.int 1), .val (.ref a1c)] []) (fun t k => st1320 t k) ?_
 refine GoW.retV X1320 hx Bd.returns (hb hby d22_8) Bd.notSynchronized ?_ (by decide) (by decide)
 rw [e1320]
 exact ⟨rfl, N1320, rfl⟩
def Q21_161 (Z : State) (a1c : Addr) (ka1c : ClassId) (x1c : Int32) (x2c : Int32) (x3c : Int32) (x4c : Int32) (x5c : Int32) (x6c : Int32) (x7c : Value) (h0 : Heap) (n0 : Nat) (v : Option Value) (h : Heap) (L : List Loc) : Prop := v = some (.int (nar .char (nar .char (((x3c &&& (255 : Int32)) <<< ((0 : Int32) &&& 31)) ||| ((x4c &&& (255 : Int32)) <<< ((8 : Int32) &&& 31))).toUInt32.toUInt16.toUInt32.toInt32))) ∧ Fr n0 L ∧ (h = h0)
theorem rm21_161 (l : Launch) (Z : State) (a0 : Array Value) (hw : HW a0 Z) (a1c : Addr) (ka1c : ClassId) (x1c : Int32) (x2c : Int32) (x3c : Int32) (x4c : Int32) (x5c : Int32) (x6c : Int32) (x7c : Value) (h0 : Heap) (n0 : Nat) (P0 : Arv Z h0 a1c ka1c .byte (6 : Int32) [(.int x1c), (.int x2c), (.int x3c), (.int x4c), (.int x5c), (.int x6c)] (.int 0)) (P1 : Sta Z h0 "java/lang/StringUTF16" "$assertionsDisabled" "Z" (.int 1)) (P2 : Sta Z h0 "java/lang/StringUTF16" "HI_BYTE_SHIFT" "I" (.int 0)) (P3 : Sta Z h0 "java/lang/StringUTF16" "LO_BYTE_SHIFT" "I" (.int 8)) (P4 : Sta Z h0 "jdk/internal/util/Preconditions" "SIOOBE_FORMATTER" "Ljava/util/function/BiFunction;" x7c) (u0 : Value.isRef x7c = true) :
  MM l Z Y21 jdk_52_method_83_code 2 (some .char) 3 0 0 40 #[(.ref a1c), (.int 1)] h0 (Q21_161 Z a1c ka1c x1c x2c x3c x4c x5c x6c x7c h0 n0) := by
 refine own_start (fun m => (mkF m 0 #[.val (.ref a1c), .val (.int 1)] [])) (plainFor_of_name pn_java_lang_StringUTF16) (by simp [entryFrame, mkF, argsToLocals, Value.category]) n0 ?_
 intro p e s m below meth c s₁ Bd hx hby hml hZ hown hnm X0 e0 N0
 refine GoW.sg (mkF m 2 #[.val (.ref a1c), .val (.int 1)] [(.ref a1c), (.int 1)]) (fun t k => XS.iloadN X0.here hx rfl (hb hby d21_0) rfl (XS.aloadN X0.here hx rfl (hb hby d21_1) rfl rfl k)) ?_
 obtain ⟨_, T1330, L1330, X1330, hQ1330, st1330⟩ := own_callS X0 hx hZ hown (y := Y22) (ww hw 93 rfl) (ww hw 94 rfl) (ww hw 50 rfl) (ww hw 95 rfl) (by decide) 0 (rm22_160 l Z a0 hw a1c ka1c x1c x2c x3c x4c x5c x6c x7c h0 n0  P0 P4   u0  ) (by decide) (by decide) e0 (by decide) (by decide) (g := (mkF m 2 #[.val (.ref a1c), .val (.int 1)] [(.ref a1c), (.int 1)])) rfl (by rw [hml]; rfl) (argsL := [(.int (1 : Int32)), (.ref a1c)]) (rest := []) (lenOf pd_28I5bB29V rfl) rfl (by show 2 * 0 + _ ≤ _; exact Nat.le_of_eq rfl) (hb hby d21_2)
 obtain ⟨rfl, N1330q, e1330⟩ := hQ1330
 have N1330 := Fr.app N0 N1330q
 refine GoW.sg (mkF m 5 #[.val (.ref a1c), .val (.int 1)] []) (fun t k => st1330 t k) ?_
 refine GoW.sg (mkF m 7 #[.val (.ref a1c), .val (.int 1)] [(.int 1), (.ref a1c)]) (fun t k => XS.aloadN X1330.here hx rfl (hb hby d21_5) rfl rfl (XS.iloadN X1330.here hx rfl (hb hby d21_6) rfl k)) ?_
 obtain ⟨_, T1336, L1336, X1336, hQ1336, st1336⟩ := own_callS X1330 hx hZ hown (y := Y17) (ww hw 74 rfl) (ww hw 75 rfl) (ww hw 50 rfl) (ww hw 76 rfl) (by decide) 0 (rm17_55 l Z a0 hw a1c ka1c x1c x2c x3c x4c x5c x6c h0 n0  P0 P1 P2 P3     ) (by decide) (by decide) e1330 (by decide) (by decide) (g := (mkF m 7 #[.val (.ref a1c), .val (.int 1)] [(.int 1), (.ref a1c)])) rfl (by rw [hml]; rfl) (argsL := [(.ref a1c), (.int (1 : Int32))]) (rest := []) (lenOf pd_285bBI29C rfl) rfl (by show 2 * 0 + _ ≤ _; exact Nat.le_of_eq rfl) (hb hby d21_7)
 obtain ⟨rfl, N1336q, e1336⟩ := hQ1336
 have N1336 := Fr.app N1330 N1336q
 refine GoW.sg (mkF m 10 #[.val (.ref a1c), .val (.int 1)] [(.int (nar .char (((x3c &&& (255 : Int32)) <<< ((0 : Int32) &&& 31)) ||| ((x4c &&& (255 : Int32)) <<< ((8 : Int32) &&& 31))).toUInt32.toUInt16.toUInt32.toInt32))]) (fun t k => st1336 t k) ?_
 refine GoW.retN X1336 hx (t := .char) Bd.returns (by simp) (hb hby d21_10) Bd.notSynchronized ?_ (by decide) (by decide)
 rw [e1336]
 exact ⟨rfl, N1336, rfl⟩
def Q19_163 (Z : State) (a1c : Addr) (a2c : Addr) (ka2c : ClassId) (x1c : Int32) (x2c : Int32) (x3c : Int32) (x4c : Int32) (x5c : Value) (h0 : Heap) (n0 : Nat) (v : Option Value) (h : Heap) (L : List Loc) : Prop := v = some (.int (nar .char (nar .char (x2c &&& (255 : Int32)).toUInt32.toUInt16.toUInt32.toInt32))) ∧ Fr n0 L ∧ (h = h0)
theorem rm19_163 (l : Launch) (Z : State) (a0 : Array Value) (hw : HW a0 Z) (a1c : Addr) (a2c : Addr) (ka2c : ClassId) (x1c : Int32) (x2c : Int32) (x3c : Int32) (x4c : Int32) (x5c : Value) (h0 : Heap) (n0 : Nat) (P0 : Exa Z h0 a1c "java/lang/String") (P1 : Fld Z h0 a1c "java/lang/String" "coder" "B" (.int 0)) (P2 : Fld Z h0 a1c "java/lang/String" "value" "[B" (.ref a2c)) (P3 : Arv Z h0 a2c ka2c .byte (3 : Int32) [(.int x1c), (.int x2c), (.int x3c)] (.int 0)) (P4 : Sta Z h0 "java/lang/String" "COMPACT_STRINGS" "Z" (.int x4c)) (P5 : Sta Z h0 "jdk/internal/util/Preconditions" "SIOOBE_FORMATTER" "Ljava/util/function/BiFunction;" x5c) (u0 : ¬ (x4c = (0 : Int32))) (u1 : Value.isRef x5c = true) :
  MM l Z Y19 jdk_42_method_56_code 2 (some .char) 4 0 0 53 #[(.ref a1c), (.int 1)] h0 (Q19_163 Z a1c a2c ka2c x1c x2c x3c x4c x5c h0 n0) := by
 refine own_start (fun m => (mkF m 0 #[.val (.ref a1c), .val (.int 1)] [])) (plainFor_of_name pn_java_lang_String) (by simp [entryFrame, mkF, argsToLocals, Value.category]) n0 ?_
 intro p e s m below meth c s₁ Bd hx hby hml hZ hown hnm X0 e0 N0
 refine GoW.sg (mkF m 1 #[.val (.ref a1c), .val (.int 1)] [(.ref a1c)]) (fun t k => XS.aloadN X0.here hx rfl (hb hby d19_0) rfl rfl k) ?_
 obtain ⟨_, T1344, L1344, X1344, hQ1344, st1344⟩ := own_virt X0 hx hZ (y := Y20) hown (ww hw 85 rfl) (ww hw 86 rfl) (ww hw 88 rfl) (ww hw 87 rfl) (ww hw 89 rfl) (ww hw 13 rfl) (by decide) 0 (a := a1c) (rm20_117 l Z a0 hw a1c x4c h0 n0  P1 P4   u0  ) (by decide) (by decide) e0 P0 (by decide) (by decide) (g := (mkF m 1 #[.val (.ref a1c), .val (.int 1)] [(.ref a1c)])) rfl (by rw [hml]; rfl) (argsL := []) (rest := []) (lenOf pd_2829Z rfl) rfl (by show 2 * 0 + _ ≤ _; exact Nat.le_of_eq rfl) (hb hby d19_1)
 obtain ⟨rfl, N1344q, e1344⟩ := hQ1344
 have N1344 := Fr.app N0 N1344q
 refine GoW.sg (mkF m 4 #[.val (.ref a1c), .val (.int 1)] [(.int 1)]) (fun t k => st1344 t k) ?_
 refine GoW.sg (mkF m 8 #[.val (.ref a1c), .val (.int 1)] [(.ref a1c)]) (fun t k => XS.ifNo X1344.here hx rfl (hb hby d19_4) rfl (by decide) (XS.aloadN X1344.here hx rfl (hb hby d19_7) rfl rfl k)) ?_
 obtain ⟨T1345, X1345, e1345, st1345⟩ := getF X1344 hx hZ hown (host := "") (Or.inl (ww hw 31 rfl)) Via.refl e1344 P2 (g := (mkF m 8 #[.val (.ref a1c), .val (.int 1)] [(.ref a1c)])) rfl rfl (hb hby d19_8)
 refine GoW.sg (mkF m 11 #[.val (.ref a1c), .val (.int 1)] [(.ref a2c)]) (fun t k => st1345 t k) ?_
 refine GoW.sg (mkF m 12 #[.val (.ref a1c), .val (.int 1)] [(.int 1), (.ref a2c)]) (fun t k => XS.iloadN X1345.here hx rfl (hb hby d19_11) rfl k) ?_
 obtain ⟨_, T1346, L1346, X1346, hQ1346, st1346⟩ := own_callS X1345 hx hZ hown (y := Y26) (ww hw 107 rfl) (ww hw 108 rfl) (ww hw 109 rfl) (ww hw 110 rfl) (by decide) 0 (rm26_158 l Z a0 hw a2c ka2c x1c x2c x3c x5c h0 n0  P3 P5   u1  ) (by decide) (by decide) e1345 (by decide) (by decide) (g := (mkF m 12 #[.val (.ref a1c), .val (.int 1)] [(.int 1), (.ref a2c)])) rfl (by rw [hml]; rfl) (argsL := [(.ref a2c), (.int (1 : Int32))]) (rest := []) (lenOf pd_285bBI29C rfl) rfl (by show 2 * 0 + _ ≤ _; exact Nat.le_of_eq rfl) (hb hby d19_12)
 obtain ⟨rfl, N1346q, e1346⟩ := hQ1346
 have N1346 := Fr.app N1344 N1346q
 refine GoW.sg (mkF m 15 #[.val (.ref a1c), .val (.int 1)] [(.int (nar .char (x2c &&& (255 : Int32)).toUInt32.toUInt16.toUInt32.toInt32))]) (fun t k => st1346 t k) ?_
 refine GoW.retN X1346 hx (t := .char) Bd.returns (by simp) (hb hby d19_15) Bd.notSynchronized ?_ (by decide) (by decide)
 rw [e1346]
 exact ⟨rfl, N1346, rfl⟩
def Q19_164 (Z : State) (a1c : Addr) (a2c : Addr) (ka2c : ClassId) (x1c : Int32) (x2c : Int32) (x3c : Int32) (x4c : Int32) (x5c : Int32) (x6c : Int32) (x7c : Int32) (x8c : Value) (h0 : Heap) (n0 : Nat) (v : Option Value) (h : Heap) (L : List Loc) : Prop := v = some (.int (nar .char (nar .char (nar .char (((x3c &&& (255 : Int32)) <<< ((0 : Int32) &&& 31)) ||| ((x4c &&& (255 : Int32)) <<< ((8 : Int32) &&& 31))).toUInt32.toUInt16.toUInt32.toInt32)))) ∧ Fr n0 L ∧ (h = h0)
theorem rm19_164 (l : Launch) (Z : State) (a0 : Array Value) (hw : HW a0 Z) (a1c : Addr) (a2c : Addr) (ka2c : ClassId) (x1c : Int32) (x2c : Int32) (x3c : Int32) (x4c : Int32) (x5c : Int32) (x6c : Int32) (x7c : Int32) (x8c : Value) (h0 : Heap) (n0 : Nat) (P0 : Exa Z h0 a1c "java/lang/String") (P1 : Fld Z h0 a1c "java/lang/String" "coder" "B" (.int 1)) (P2 : Fld Z h0 a1c "java/lang/String" "value" "[B" (.ref a2c)) (P3 : Arv Z h0 a2c ka2c .byte (6 : Int32) [(.int x1c), (.int x2c), (.int x3c), (.int x4c), (.int x5c), (.int x6c)] (.int 0)) (P4 : Sta Z h0 "java/lang/String" "COMPACT_STRINGS" "Z" (.int x7c)) (P5 : Sta Z h0 "java/lang/StringUTF16" "$assertionsDisabled" "Z" (.int 1)) (P6 : Sta Z h0 "java/lang/StringUTF16" "HI_BYTE_SHIFT" "I" (.int 0)) (P7 : Sta Z h0 "java/lang/StringUTF16" "LO_BYTE_SHIFT" "I" (.int 8)) (P8 : Sta Z h0 "jdk/internal/util/Preconditions" "SIOOBE_FORMATTER" "Ljava/util/function/BiFunction;" x8c) (u0 : ¬ (x7c = (0 : Int32))) (u1 : Value.isRef x8c = true) :
  MM l Z Y19 jdk_42_method_56_code 2 (some .char) 4 0 0 53 #[(.ref a1c), (.int 1)] h0 (Q19_164 Z a1c a2c ka2c x1c x2c x3c x4c x5c x6c x7c x8c h0 n0) := by
 refine own_start (fun m => (mkF m 0 #[.val (.ref a1c), .val (.int 1)] [])) (plainFor_of_name pn_java_lang_String) (by simp [entryFrame, mkF, argsToLocals, Value.category]) n0 ?_
 intro p e s m below meth c s₁ Bd hx hby hml hZ hown hnm X0 e0 N0
 refine GoW.sg (mkF m 1 #[.val (.ref a1c), .val (.int 1)] [(.ref a1c)]) (fun t k => XS.aloadN X0.here hx rfl (hb hby d19_0) rfl rfl k) ?_
 obtain ⟨_, T1350, L1350, X1350, hQ1350, st1350⟩ := own_virt X0 hx hZ (y := Y20) hown (ww hw 85 rfl) (ww hw 86 rfl) (ww hw 88 rfl) (ww hw 87 rfl) (ww hw 89 rfl) (ww hw 13 rfl) (by decide) 0 (a := a1c) (rm20_120 l Z a0 hw a1c x7c h0 n0  P1 P4   u0  ) (by decide) (by decide) e0 P0 (by decide) (by decide) (g := (mkF m 1 #[.val (.ref a1c), .val (.int 1)] [(.ref a1c)])) rfl (by rw [hml]; rfl) (argsL := []) (rest := []) (lenOf pd_2829Z rfl) rfl (by show 2 * 0 + _ ≤ _; exact Nat.le_of_eq rfl) (hb hby d19_1)
 obtain ⟨rfl, N1350q, e1350⟩ := hQ1350
 have N1350 := Fr.app N0 N1350q
 refine GoW.sg (mkF m 4 #[.val (.ref a1c), .val (.int 1)] [(.int 0)]) (fun t k => st1350 t k) ?_
 refine GoW.sg (mkF m 17 #[.val (.ref a1c), .val (.int 1)] [(.ref a1c)]) (fun t k => XS.ifYes X1350.here hx rfl (pc0 := 4) (pc' := 16) rfl (hb hby d19_4) rfl (by decide) (by decide) (by decide) (XS.aloadN X1350.here hx rfl (hb hby d19_16) rfl rfl k)) ?_
 obtain ⟨T1351, X1351, e1351, st1351⟩ := getF X1350 hx hZ hown (host := "") (Or.inl (ww hw 31 rfl)) Via.refl e1350 P2 (g := (mkF m 17 #[.val (.ref a1c), .val (.int 1)] [(.ref a1c)])) rfl rfl (hb hby d19_17)
 refine GoW.sg (mkF m 20 #[.val (.ref a1c), .val (.int 1)] [(.ref a2c)]) (fun t k => st1351 t k) ?_
 refine GoW.sg (mkF m 21 #[.val (.ref a1c), .val (.int 1)] [(.int 1), (.ref a2c)]) (fun t k => XS.iloadN X1351.here hx rfl (hb hby d19_20) rfl k) ?_
 obtain ⟨_, T1352, L1352, X1352, hQ1352, st1352⟩ := own_callS X1351 hx hZ hown (y := Y21) (ww hw 90 rfl) (ww hw 91 rfl) (ww hw 50 rfl) (ww hw 92 rfl) (by decide) 0 (rm21_161 l Z a0 hw a2c ka2c x1c x2c x3c x4c x5c x6c x8c h0 n0  P3 P5 P6 P7 P8   u1  ) (by decide) (by decide) e1351 (by decide) (by decide) (g := (mkF m 21 #[.val (.ref a1c), .val (.int 1)] [(.int 1), (.ref a2c)])) rfl (by rw [hml]; rfl) (argsL := [(.ref a2c), (.int (1 : Int32))]) (rest := []) (lenOf pd_285bBI29C rfl) rfl (by show 2 * 0 + _ ≤ _; exact Nat.le_of_eq rfl) (hb hby d19_21)
 obtain ⟨rfl, N1352q, e1352⟩ := hQ1352
 have N1352 := Fr.app N1350 N1352q
 refine GoW.sg (mkF m 24 #[.val (.ref a1c), .val (.int 1)] [(.int (nar .char (nar .char (((x3c &&& (255 : Int32)) <<< ((0 : Int32) &&& 31)) ||| ((x4c &&& (255 : Int32)) <<< ((8 : Int32) &&& 31))).toUInt32.toUInt16.toUInt32.toInt32)))]) (fun t k => st1352 t k) ?_
 refine GoW.retN X1352 hx (t := .char) Bd.returns (by simp) (hb hby d19_24) Bd.notSynchronized ?_ (by decide) (by decide)
 rw [e1352]
 exact ⟨rfl, N1352, rfl⟩
theorem rmCh31 (l : Launch) (Z : State) (a0 : Array Value) (hw : HW a0 Z) (a1 : Addr) (c0 : Int32) (c1 : Int32) (c2 : Int32) (cs : Int32) (vf : Value) (h0 : Heap) (n0 : Nat) (PE : Exa Z h0 a1 "java/lang/String") (hS : Str3 Z h0 a1 c0 c1 c2) (PC : Sta Z h0 "java/lang/String" "COMPACT_STRINGS" "Z" (.int cs)) (PA : Sta Z h0 "java/lang/StringUTF16" "$assertionsDisabled" "Z" (.int (1 : Int32))) (PH : Sta Z h0 "java/lang/StringUTF16" "HI_BYTE_SHIFT" "I" (.int (0 : Int32))) (PL : Sta Z h0 "java/lang/StringUTF16" "LO_BYTE_SHIFT" "I" (.int (8 : Int32))) (PF : Sta Z h0 "jdk/internal/util/Preconditions" "SIOOBE_FORMATTER" "Ljava/util/function/BiFunction;" vf) (hvf : vf.isRef = true) (lo_c0 : ¬ (c0 < (0 : Int32))) (hi_c0 : ¬ ((65535 : Int32) < c0)) (lo_c1 : ¬ (c1 < (0 : Int32))) (hi_c1 : ¬ ((65535 : Int32) < c1)) (lo_c2 : ¬ (c2 < (0 : Int32))) (hi_c2 : ¬ ((65535 : Int32) < c2)) (ncs : ¬ (cs = (0 : Int32))) :
  MM l Z Y19 jdk_42_method_56_code 2 (some .char) 4 0 0 53 #[(.ref a1), (.int (1 : Int32))] h0 (PureQ (.int c1) h0 n0) := by
  rcases hS with ⟨b, kb, PV, PK, PB, b0, b1, b2⟩ | ⟨b, kb, PV, PK, PB⟩
  · exact (rm19_163 l Z a0 hw a1 b kb (lat8 c0) (lat8 c1) (lat8 c2) cs vf h0 n0  PE PK PV PB PC PF   ncs hvf).mono (fun _ _ h => h) (fun _ _ _ _ _ h => h) (fun _ _ _ _ _ h => by obtain ⟨v, L, q1, ⟨q2, q3⟩, q4⟩ := h; refine ⟨v, L, q1, ⟨q2.trans ?_, q3⟩, q4⟩; simp only [own_lat c1 lo_c1 b1, own_nc c1 lo_c1 hi_c1])
  · exact (rm19_164 l Z a0 hw a1 b kb (lo8 c0) (hi8 c0) (lo8 c1) (hi8 c1) (lo8 c2) (hi8 c2) cs vf h0 n0  PE PK PV PB PC PA PH PL PF   ncs hvf).mono (fun _ _ h => h) (fun _ _ _ _ _ h => h) (fun _ _ _ _ _ h => by obtain ⟨v, L, q1, ⟨q2, q3⟩, q4⟩ := h; refine ⟨v, L, q1, ⟨q2.trans ?_, q3⟩, q4⟩; simp only [own_join c1 lo_c1 hi_c1, own_nc c1 lo_c1 hi_c1])
def Q26_165 (Z : State) (a1c : Addr) (ka1c : ClassId) (x1c : Int32) (x2c : Int32) (x3c : Int32) (x4c : Value) (h0 : Heap) (n0 : Nat) (v : Option Value) (h : Heap) (L : List Loc) : Prop := v = some (.int (nar .char (x3c &&& (255 : Int32)).toUInt32.toUInt16.toUInt32.toInt32)) ∧ Fr n0 L ∧ (h = h0)
theorem rm26_165 (l : Launch) (Z : State) (a0 : Array Value) (hw : HW a0 Z) (a1c : Addr) (ka1c : ClassId) (x1c : Int32) (x2c : Int32) (x3c : Int32) (x4c : Value) (h0 : Heap) (n0 : Nat) (P0 : Arv Z h0 a1c ka1c .byte (3 : Int32) [(.int x1c), (.int x2c), (.int x3c)] (.int 0)) (P1 : Sta Z h0 "jdk/internal/util/Preconditions" "SIOOBE_FORMATTER" "Ljava/util/function/BiFunction;" x4c) (u0 : Value.isRef x4c = true) :
  MM l Z Y26 jdk_43_method_2_code 2 (some .char) 2 0 0 27 #[(.ref a1c), (.int 2)] h0 (Q26_165 Z a1c ka1c x1c x2c x3c x4c h0 n0) := by
 refine own_start (fun m => (mkF m 0 #[.val (.ref a1c), .val (.int 2)] [])) (plainFor_of_name pn_java_lang_StringLatin1) (by simp [entryFrame, mkF, argsToLocals, Value.category]) n0 ?_
 intro p e s m below meth c s₁ Bd hx hby hml hZ hown hnm X0 e0 N0
 refine GoW.sg (mkF m 2 #[.val (.ref a1c), .val (.int 2)] [(.ref a1c), (.int 2)]) (fun t k => XS.iloadN X0.here hx rfl (hb hby d26_0) rfl (XS.aloadN X0.here hx rfl (hb hby d26_1) rfl rfl k)) ?_
 obtain ⟨cl1358, Ar1358, q1358, Sz1358, Nn1358, Hh1358, Gg1358⟩ := id P0
 have st1358 := X0.arraylength hx (hq_ e0 Ar1358.1) (State.isArrayOf_alike hZ.alike Ar1358.2.1) (g := (mkF m 2 #[.val (.ref a1c), .val (.int 2)] [(.ref a1c), (.int 2)])) rfl rfl (hb hby d26_2)
 rw [len_of Sz1358 Nn1358] at st1358
 refine GoW.sg (mkF m 3 #[.val (.ref a1c), .val (.int 2)] [(.int 3), (.int 2)]) (fun t k => st1358 t k) ?_
 obtain ⟨_, T1359, L1359, X1359, hQ1359, st1359⟩ := own_callS X0 hx hZ hown (y := Y24) (ww hw 111 rfl) (ww hw 100 rfl) (ww hw 13 rfl) (ww hw 101 rfl) (by decide) 0 (rmCk23 l Z a0 hw x4c h0 n0 P1 u0) (by decide) (by decide) e0 (by decide) (by decide) (g := (mkF m 3 #[.val (.ref a1c), .val (.int 2)] [(.int 3), (.int 2)])) rfl (by rw [hml]; rfl) (argsL := [(.int (2 : Int32)), (.int (3 : Int32))]) (rest := []) (lenOf pd_28II29V rfl) rfl (by show 2 * 0 + _ ≤ _; exact Nat.le_of_eq rfl) (hb hby d26_3)
 obtain ⟨rfl, N1359q, e1359⟩ := hQ1359
 have N1359 := Fr.app N0 N1359q
 refine GoW.sg (mkF m 6 #[.val (.ref a1c), .val (.int 2)] []) (fun t k => st1359 t k) ?_
 refine GoW.sg (mkF m 8 #[.val (.ref a1c), .val (.int 2)] [(.int 2), (.ref a1c)]) (fun t k => XS.aloadN X1359.here hx rfl (hb hby d26_6) rfl rfl (XS.iloadN X1359.here hx rfl (hb hby d26_7) rfl k)) ?_
 obtain ⟨cl1360, Ar1360, q1360, Sz1360, Nn1360, Hh1360, Gg1360⟩ := id P0
 have hin1360 : ¬ ((2 : Int32) < 0 ∨ cl1360.slots.size ≤ ((2 : Int32)).toNatClampNeg) := inb_of Sz1360 ⟨by decide, by decide⟩
 refine GoW.sg (mkF m 9 #[.val (.ref a1c), .val (.int 2)] [(.int x3c)]) (fun t k => X1359.baloadBytes hx (j := (2 : Int32)) (v := (.int x3c)) (hq_ e1359 Ar1360.1) (State.isArrayOf_alike hZ.alike Ar1360.2.1) Ar1360.2.2 hin1360 (Hh1360.at hin1360 rfl) (g := (mkF m 8 #[.val (.ref a1c), .val (.int 2)] [(.int 2), (.ref a1c)])) rfl rfl (hb hby d26_8) t k) ?_
 refine GoW.sg (mkF m 14 #[.val (.ref a1c), .val (.int 2)] [(.int (x3c &&& (255 : Int32)).toUInt32.toUInt16.toUInt32.toInt32)]) (fun t k => XS.sipush X1359.here hx rfl (hb hby d26_9) (XS.iand X1359.here hx rfl (hb hby d26_12) rfl (XS.i2c X1359.here hx rfl (hb hby d26_13) rfl k))) ?_
 refine GoW.retN X1359 hx (t := .char) Bd.returns (by simp) (hb hby d26_14) Bd.notSynchronized ?_ (by decide) (by decide)
 rw [e1359]
 exact ⟨rfl, N1359, rfl⟩
def Q22_167 (Z : State) (a1c : Addr) (ka1c : ClassId) (x1c : Int32) (x2c : Int32) (x3c : Int32) (x4c : Int32) (x5c : Int32) (x6c : Int32) (x7c : Value) (h0 : Heap) (n0 : Nat) (v : Option Value) (h : Heap) (L : List Loc) : Prop := v = none ∧ Fr n0 L ∧ (h = h0)
theorem rm22_167 (l : Launch) (Z : State) (a0 : Array Value) (hw : HW a0 Z) (a1c : Addr) (ka1c : ClassId) (x1c : Int32) (x2c : Int32) (x3c : Int32) (x4c : Int32) (x5c : Int32) (x6c : Int32) (x7c : Value) (h0 : Heap) (n0 : Nat) (P0 : Arv Z h0 a1c ka1c .byte (6 : Int32) [(.int x1c), (.int x2c), (.int x3c), (.int x4c), (.int x5c), (.int x6c)] (.int 0)) (P1 : Sta Z h0 "jdk/internal/util/Preconditions" "SIOOBE_FORMATTER" "Ljava/util/function/BiFunction;" x7c) (u0 : Value.isRef x7c = true) :
  MM l Z Y22 jdk_52_method_91_code 2 none 2 0 0 27 #[(.int 2), (.ref a1c)] h0 (Q22_167 Z a1c ka1c x1c x2c x3c x4c x5c x6c x7c h0 n0) := by
 refine own_start (fun m => (mkF m 0 #[.val (.int 2), .val (.ref a1c)] [])) (plainFor_of_name pn_java_lang_StringUTF16) (by simp [entryFrame, mkF, argsToLocals, Value.category]) n0 ?_
 intro p e s m below meth c s₁ Bd hx hby hml hZ hown hnm X0 e0 N0
 refine GoW.sg (mkF m 2 #[.val (.int 2), .val (.ref a1c)] [(.ref a1c), (.int 2)]) (fun t k => XS.iloadN X0.here hx rfl (hb hby d22_0) rfl (XS.aloadN X0.here hx rfl (hb hby d22_1) rfl rfl k)) ?_
 obtain ⟨_, T1372, L1372, X1372, hQ1372, st1372⟩ := own_callS X0 hx hZ hown (y := Y23) (ww hw 96 rfl) (ww hw 97 rfl) (ww hw 50 rfl) (ww hw 98 rfl) (by decide) 1 (rm23_152 l Z a0 hw a1c ka1c x1c x2c x3c x4c x5c x6c h0 n0  P0     ) (by decide) (by decide) e0 (by decide) (by decide) (g := (mkF m 2 #[.val (.int 2), .val (.ref a1c)] [(.ref a1c), (.int 2)])) rfl (by rw [hml]; rfl) (argsL := [(.ref a1c)]) (rest := [(.int (2 : Int32))]) (lenOf pd_285bB29I rfl) rfl (by show 2 * 0 + _ ≤ _; exact Nat.le_of_eq rfl) (hb hby d22_2)
 obtain ⟨rfl, N1372q, e1372⟩ := hQ1372
 have N1372 := Fr.app N0 N1372q
 refine GoW.sg (mkF m 5 #[.val (.int 2), .val (.ref a1c)] [(.int 3), (.int 2)]) (fun t k => st1372 t k) ?_
 obtain ⟨_, T1373, L1373, X1373, hQ1373, st1373⟩ := own_callS X1372 hx hZ hown (y := Y24) (ww hw 99 rfl) (ww hw 100 rfl) (ww hw 13 rfl) (ww hw 101 rfl) (by decide) 0 (rmCk23 l Z a0 hw x7c h0 n0 P1 u0) (by decide) (by decide) e1372 (by decide) (by decide) (g := (mkF m 5 #[.val (.int 2), .val (.ref a1c)] [(.int 3), (.int 2)])) rfl (by rw [hml]; rfl) (argsL := [(.int (2 : Int32)), (.int (3 : Int32))]) (rest := []) (lenOf pd_28II29V rfl) rfl (by show 2 * 0 + _ ≤ _; exact Nat.le_of_eq rfl) (hb hby d22_5)
 obtain ⟨rfl, N1373q, e1373⟩ := hQ1373
 have N1373 := Fr.app N1372 N1373q
 refine GoW.sg (mkF m 8 #[.val (.int 2), .val (.ref a1c)] []) (fun t k => st1373 t k) ?_
 refine GoW.retV X1373 hx Bd.returns (hb hby d22_8) Bd.notSynchronized ?_ (by decide) (by decide)
 rw [e1373]
 exact ⟨rfl, N1373, rfl⟩
def Q21_168 (Z : State) (a1c : Addr) (ka1c : ClassId) (x1c : Int32) (x2c : Int32) (x3c : Int32) (x4c : Int32) (x5c : Int32) (x6c : Int32) (x7c : Value) (h0 : Heap) (n0 : Nat) (v : Option Value) (h : Heap) (L : List Loc) : Prop := v = some (.int (nar .char (nar .char (((x5c &&& (255 : Int32)) <<< ((0 : Int32) &&& 31)) ||| ((x6c &&& (255 : Int32)) <<< ((8 : Int32) &&& 31))).toUInt32.toUInt16.toUInt32.toInt32))) ∧ Fr n0 L ∧ (h = h0)
theorem rm21_168 (l : Launch) (Z : State) (a0 : Array Value) (hw : HW a0 Z) (a1c : Addr) (ka1c : ClassId) (x1c : Int32) (x2c : Int32) (x3c : Int32) (x4c : Int32) (x5c : Int32) (x6c : Int32) (x7c : Value) (h0 : Heap) (n0 : Nat) (P0 : Arv Z h0 a1c ka1c .byte (6 : Int32) [(.int x1c), (.int x2c), (.int x3c), (.int x4c), (.int x5c), (.int x6c)] (.int 0)) (P1 : Sta Z h0 "java/lang/StringUTF16" "$assertionsDisabled" "Z" (.int 1)) (P2 : Sta Z h0 "java/lang/StringUTF16" "HI_BYTE_SHIFT" "I" (.int 0)) (P3 : Sta Z h0 "java/lang/StringUTF16" "LO_BYTE_SHIFT" "I" (.int 8)) (P4 : Sta Z h0 "jdk/internal/util/Preconditions" "SIOOBE_FORMATTER" "Ljava/util/function/BiFunction;" x7c) (u0 : Value.isRef x7c = true) :
  MM l Z Y21 jdk_52_method_83_code 2 (some .char) 3 0 0 40 #[(.ref a1c), (.int 2)] h0 (Q21_168 Z a1c ka1c x1c x2c x3c x4c x5c x6c x7c h0 n0) := by
 refine own_start (fun m => (mkF m 0 #[.val (.ref a1c), .val (.int 2)] [])) (plainFor_of_name pn_java_lang_StringUTF16) (by simp [entryFrame, mkF, argsToLocals, Value.category]) n0 ?_
 intro p e s m below meth c s₁ Bd hx hby hml hZ hown hnm X0 e0 N0
 refine GoW.sg (mkF m 2 #[.val (.ref a1c), .val (.int 2)] [(.ref a1c), (.int 2)]) (fun t k => XS.iloadN X0.here hx rfl (hb hby d21_0) rfl (XS.aloadN X0.here hx rfl (hb hby d21_1) rfl rfl k)) ?_
 obtain ⟨_, T1383, L1383, X1383, hQ1383, st1383⟩ := own_callS X0 hx hZ hown (y := Y22) (ww hw 93 rfl) (ww hw 94 rfl) (ww hw 50 rfl) (ww hw 95 rfl) (by decide) 0 (rm22_167 l Z a0 hw a1c ka1c x1c x2c x3c x4c x5c x6c x7c h0 n0  P0 P4   u0  ) (by decide) (by decide) e0 (by decide) (by decide) (g := (mkF m 2 #[.val (.ref a1c), .val (.int 2)] [(.ref a1c), (.int 2)])) rfl (by rw [hml]; rfl) (argsL := [(.int (2 : Int32)), (.ref a1c)]) (rest := []) (lenOf pd_28I5bB29V rfl) rfl (by show 2 * 0 + _ ≤ _; exact Nat.le_of_eq rfl) (hb hby d21_2)
 obtain ⟨rfl, N1383q, e1383⟩ := hQ1383
 have N1383 := Fr.app N0 N1383q
 refine GoW.sg (mkF m 5 #[.val (.ref a1c), .val (.int 2)] []) (fun t k => st1383 t k) ?_
 refine GoW.sg (mkF m 7 #[.val (.ref a1c), .val (.int 2)] [(.int 2), (.ref a1c)]) (fun t k => XS.aloadN X1383.here hx rfl (hb hby d21_5) rfl rfl (XS.iloadN X1383.here hx rfl (hb hby d21_6) rfl k)) ?_
 obtain ⟨_, T1389, L1389, X1389, hQ1389, st1389⟩ := own_callS X1383 hx hZ hown (y := Y17) (ww hw 74 rfl) (ww hw 75 rfl) (ww hw 50 rfl) (ww hw 76 rfl) (by decide) 0 (rm17_60 l Z a0 hw a1c ka1c x1c x2c x3c x4c x5c x6c h0 n0  P0 P1 P2 P3     ) (by decide) (by decide) e1383 (by decide) (by decide) (g := (mkF m 7 #[.val (.ref a1c), .val (.int 2)] [(.int 2), (.ref a1c)])) rfl (by rw [hml]; rfl) (argsL := [(.ref a1c), (.int (2 : Int32))]) (rest := []) (lenOf pd_285bBI29C rfl) rfl (by show 2 * 0 + _ ≤ _; exact Nat.le_of_eq rfl) (hb hby d21_7)
 obtain ⟨rfl, N1389q, e1389⟩ := hQ1389
 have N1389 := Fr.app N1383 N1389q
 refine GoW.sg (mkF m 10 #[.val (.ref a1c), .val (.int 2)] [(.int (nar .char (((x5c &&& (255 : Int32)) <<< ((0 : Int32) &&& 31)) ||| ((x6c &&& (255 : Int32)) <<< ((8 : Int32) &&& 31))).toUInt32.toUInt16.toUInt32.toInt32))]) (fun t k => st1389 t k) ?_
 refine GoW.retN X1389 hx (t := .char) Bd.returns (by simp) (hb hby d21_10) Bd.notSynchronized ?_ (by decide) (by decide)
 rw [e1389]
 exact ⟨rfl, N1389, rfl⟩
def Q19_170 (Z : State) (a1c : Addr) (a2c : Addr) (ka2c : ClassId) (x1c : Int32) (x2c : Int32) (x3c : Int32) (x4c : Int32) (x5c : Value) (h0 : Heap) (n0 : Nat) (v : Option Value) (h : Heap) (L : List Loc) : Prop := v = some (.int (nar .char (nar .char (x3c &&& (255 : Int32)).toUInt32.toUInt16.toUInt32.toInt32))) ∧ Fr n0 L ∧ (h = h0)
theorem rm19_170 (l : Launch) (Z : State) (a0 : Array Value) (hw : HW a0 Z) (a1c : Addr) (a2c : Addr) (ka2c : ClassId) (x1c : Int32) (x2c : Int32) (x3c : Int32) (x4c : Int32) (x5c : Value) (h0 : Heap) (n0 : Nat) (P0 : Exa Z h0 a1c "java/lang/String") (P1 : Fld Z h0 a1c "java/lang/String" "coder" "B" (.int 0)) (P2 : Fld Z h0 a1c "java/lang/String" "value" "[B" (.ref a2c)) (P3 : Arv Z h0 a2c ka2c .byte (3 : Int32) [(.int x1c), (.int x2c), (.int x3c)] (.int 0)) (P4 : Sta Z h0 "java/lang/String" "COMPACT_STRINGS" "Z" (.int x4c)) (P5 : Sta Z h0 "jdk/internal/util/Preconditions" "SIOOBE_FORMATTER" "Ljava/util/function/BiFunction;" x5c) (u0 : ¬ (x4c = (0 : Int32))) (u1 : Value.isRef x5c = true) :
  MM l Z Y19 jdk_42_method_56_code 2 (some .char) 4 0 0 53 #[(.ref a1c), (.int 2)] h0 (Q19_170 Z a1c a2c ka2c x1c x2c x3c x4c x5c h0 n0) := by
 refine own_start (fun m => (mkF m 0 #[.val (.ref a1c), .val (.int 2)] [])) (plainFor_of_name pn_java_lang_String) (by simp [entryFrame, mkF, argsToLocals, Value.category]) n0 ?_
 intro p e s m below meth c s₁ Bd hx hby hml hZ hown hnm X0 e0 N0
 refine GoW.sg (mkF m 1 #[.val (.ref a1c), .val (.int 2)] [(.ref a1c)]) (fun t k => XS.aloadN X0.here hx rfl (hb hby d19_0) rfl rfl k) ?_
 obtain ⟨_, T1397, L1397, X1397, hQ1397, st1397⟩ := own_virt X0 hx hZ (y := Y20) hown (ww hw 85 rfl) (ww hw 86 rfl) (ww hw 88 rfl) (ww hw 87 rfl) (ww hw 89 rfl) (ww hw 13 rfl) (by decide) 0 (a := a1c) (rm20_117 l Z a0 hw a1c x4c h0 n0  P1 P4   u0  ) (by decide) (by decide) e0 P0 (by decide) (by decide) (g := (mkF m 1 #[.val (.ref a1c), .val (.int 2)] [(.ref a1c)])) rfl (by rw [hml]; rfl) (argsL := []) (rest := []) (lenOf pd_2829Z rfl) rfl (by show 2 * 0 + _ ≤ _; exact Nat.le_of_eq rfl) (hb hby d19_1)
 obtain ⟨rfl, N1397q, e1397⟩ := hQ1397
 have N1397 := Fr.app N0 N1397q
 refine GoW.sg (mkF m 4 #[.val (.ref a1c), .val (.int 2)] [(.int 1)]) (fun t k => st1397 t k) ?_
 refine GoW.sg (mkF m 8 #[.val (.ref a1c), .val (.int 2)] [(.ref a1c)]) (fun t k => XS.ifNo X1397.here hx rfl (hb hby d19_4) rfl (by decide) (XS.aloadN X1397.here hx rfl (hb hby d19_7) rfl rfl k)) ?_
 obtain ⟨T1398, X1398, e1398, st1398⟩ := getF X1397 hx hZ hown (host := "") (Or.inl (ww hw 31 rfl)) Via.refl e1397 P2 (g := (mkF m 8 #[.val (.ref a1c), .val (.int 2)] [(.ref a1c)])) rfl rfl (hb hby d19_8)
 refine GoW.sg (mkF m 11 #[.val (.ref a1c), .val (.int 2)] [(.ref a2c)]) (fun t k => st1398 t k) ?_
 refine GoW.sg (mkF m 12 #[.val (.ref a1c), .val (.int 2)] [(.int 2), (.ref a2c)]) (fun t k => XS.iloadN X1398.here hx rfl (hb hby d19_11) rfl k) ?_
 obtain ⟨_, T1399, L1399, X1399, hQ1399, st1399⟩ := own_callS X1398 hx hZ hown (y := Y26) (ww hw 107 rfl) (ww hw 108 rfl) (ww hw 109 rfl) (ww hw 110 rfl) (by decide) 0 (rm26_165 l Z a0 hw a2c ka2c x1c x2c x3c x5c h0 n0  P3 P5   u1  ) (by decide) (by decide) e1398 (by decide) (by decide) (g := (mkF m 12 #[.val (.ref a1c), .val (.int 2)] [(.int 2), (.ref a2c)])) rfl (by rw [hml]; rfl) (argsL := [(.ref a2c), (.int (2 : Int32))]) (rest := []) (lenOf pd_285bBI29C rfl) rfl (by show 2 * 0 + _ ≤ _; exact Nat.le_of_eq rfl) (hb hby d19_12)
 obtain ⟨rfl, N1399q, e1399⟩ := hQ1399
 have N1399 := Fr.app N1397 N1399q
 refine GoW.sg (mkF m 15 #[.val (.ref a1c), .val (.int 2)] [(.int (nar .char (x3c &&& (255 : Int32)).toUInt32.toUInt16.toUInt32.toInt32))]) (fun t k => st1399 t k) ?_
 refine GoW.retN X1399 hx (t := .char) Bd.returns (by simp) (hb hby d19_15) Bd.notSynchronized ?_ (by decide) (by decide)
 rw [e1399]
 exact ⟨rfl, N1399, rfl⟩
def Q19_171 (Z : State) (a1c : Addr) (a2c : Addr) (ka2c : ClassId) (x1c : Int32) (x2c : Int32) (x3c : Int32) (x4c : Int32) (x5c : Int32) (x6c : Int32) (x7c : Int32) (x8c : Value) (h0 : Heap) (n0 : Nat) (v : Option Value) (h : Heap) (L : List Loc) : Prop := v = some (.int (nar .char (nar .char (nar .char (((x5c &&& (255 : Int32)) <<< ((0 : Int32) &&& 31)) ||| ((x6c &&& (255 : Int32)) <<< ((8 : Int32) &&& 31))).toUInt32.toUInt16.toUInt32.toInt32)))) ∧ Fr n0 L ∧ (h = h0)
theorem rm19_171 (l : Launch) (Z : State) (a0 : Array Value) (hw : HW a0 Z) (a1c : Addr) (a2c : Addr) (ka2c : ClassId) (x1c : Int32) (x2c : Int32) (x3c : Int32) (x4c : Int32) (x5c : Int32) (x6c : Int32) (x7c : Int32) (x8c : Value) (h0 : Heap) (n0 : Nat) (P0 : Exa Z h0 a1c "java/lang/String") (P1 : Fld Z h0 a1c "java/lang/String" "coder" "B" (.int 1)) (P2 : Fld Z h0 a1c "java/lang/String" "value" "[B" (.ref a2c)) (P3 : Arv Z h0 a2c ka2c .byte (6 : Int32) [(.int x1c), (.int x2c), (.int x3c), (.int x4c), (.int x5c), (.int x6c)] (.int 0)) (P4 : Sta Z h0 "java/lang/String" "COMPACT_STRINGS" "Z" (.int x7c)) (P5 : Sta Z h0 "java/lang/StringUTF16" "$assertionsDisabled" "Z" (.int 1)) (P6 : Sta Z h0 "java/lang/StringUTF16" "HI_BYTE_SHIFT" "I" (.int 0)) (P7 : Sta Z h0 "java/lang/StringUTF16" "LO_BYTE_SHIFT" "I" (.int 8)) (P8 : Sta Z h0 "jdk/internal/util/Preconditions" "SIOOBE_FORMATTER" "Ljava/util/function/BiFunction;" x8c) (u0 : ¬ (x7c = (0 : Int32))) (u1 : Value.isRef x8c = true) :
  MM l Z Y19 jdk_42_method_56_code 2 (some .char) 4 0 0 53 #[(.ref a1c), (.int 2)] h0 (Q19_171 Z a1c a2c ka2c x1c x2c x3c x4c x5c x6c x7c x8c h0 n0) := by
 refine own_start (fun m => (mkF m 0 #[.val (.ref a1c), .val (.int 2)] [])) (plainFor_of_name pn_java_lang_String) (by simp [entryFrame, mkF, argsToLocals, Value.category]) n0 ?_
 intro p e s m below meth c s₁ Bd hx hby hml hZ hown hnm X0 e0 N0
 refine GoW.sg (mkF m 1 #[.val (.ref a1c), .val (.int 2)] [(.ref a1c)]) (fun t k => XS.aloadN X0.here hx rfl (hb hby d19_0) rfl rfl k) ?_
 obtain ⟨_, T1403, L1403, X1403, hQ1403, st1403⟩ := own_virt X0 hx hZ (y := Y20) hown (ww hw 85 rfl) (ww hw 86 rfl) (ww hw 88 rfl) (ww hw 87 rfl) (ww hw 89 rfl) (ww hw 13 rfl) (by decide) 0 (a := a1c) (rm20_120 l Z a0 hw a1c x7c h0 n0  P1 P4   u0  ) (by decide) (by decide) e0 P0 (by decide) (by decide) (g := (mkF m 1 #[.val (.ref a1c), .val (.int 2)] [(.ref a1c)])) rfl (by rw [hml]; rfl) (argsL := []) (rest := []) (lenOf pd_2829Z rfl) rfl (by show 2 * 0 + _ ≤ _; exact Nat.le_of_eq rfl) (hb hby d19_1)
 obtain ⟨rfl, N1403q, e1403⟩ := hQ1403
 have N1403 := Fr.app N0 N1403q
 refine GoW.sg (mkF m 4 #[.val (.ref a1c), .val (.int 2)] [(.int 0)]) (fun t k => st1403 t k) ?_
 refine GoW.sg (mkF m 17 #[.val (.ref a1c), .val (.int 2)] [(.ref a1c)]) (fun t k => XS.ifYes X1403.here hx rfl (pc0 := 4) (pc' := 16) rfl (hb hby d19_4) rfl (by decide) (by decide) (by decide) (XS.aloadN X1403.here hx rfl (hb hby d19_16) rfl rfl k)) ?_
 obtain ⟨T1404, X1404, e1404, st1404⟩ := getF X1403 hx hZ hown (host := "") (Or.inl (ww hw 31 rfl)) Via.refl e1403 P2 (g := (mkF m 17 #[.val (.ref a1c), .val (.int 2)] [(.ref a1c)])) rfl rfl (hb hby d19_17)
 refine GoW.sg (mkF m 20 #[.val (.ref a1c), .val (.int 2)] [(.ref a2c)]) (fun t k => st1404 t k) ?_
 refine GoW.sg (mkF m 21 #[.val (.ref a1c), .val (.int 2)] [(.int 2), (.ref a2c)]) (fun t k => XS.iloadN X1404.here hx rfl (hb hby d19_20) rfl k) ?_
 obtain ⟨_, T1405, L1405, X1405, hQ1405, st1405⟩ := own_callS X1404 hx hZ hown (y := Y21) (ww hw 90 rfl) (ww hw 91 rfl) (ww hw 50 rfl) (ww hw 92 rfl) (by decide) 0 (rm21_168 l Z a0 hw a2c ka2c x1c x2c x3c x4c x5c x6c x8c h0 n0  P3 P5 P6 P7 P8   u1  ) (by decide) (by decide) e1404 (by decide) (by decide) (g := (mkF m 21 #[.val (.ref a1c), .val (.int 2)] [(.int 2), (.ref a2c)])) rfl (by rw [hml]; rfl) (argsL := [(.ref a2c), (.int (2 : Int32))]) (rest := []) (lenOf pd_285bBI29C rfl) rfl (by show 2 * 0 + _ ≤ _; exact Nat.le_of_eq rfl) (hb hby d19_21)
 obtain ⟨rfl, N1405q, e1405⟩ := hQ1405
 have N1405 := Fr.app N1403 N1405q
 refine GoW.sg (mkF m 24 #[.val (.ref a1c), .val (.int 2)] [(.int (nar .char (nar .char (((x5c &&& (255 : Int32)) <<< ((0 : Int32) &&& 31)) ||| ((x6c &&& (255 : Int32)) <<< ((8 : Int32) &&& 31))).toUInt32.toUInt16.toUInt32.toInt32)))]) (fun t k => st1405 t k) ?_
 refine GoW.retN X1405 hx (t := .char) Bd.returns (by simp) (hb hby d19_24) Bd.notSynchronized ?_ (by decide) (by decide)
 rw [e1405]
 exact ⟨rfl, N1405, rfl⟩
theorem rmCh32 (l : Launch) (Z : State) (a0 : Array Value) (hw : HW a0 Z) (a1 : Addr) (c0 : Int32) (c1 : Int32) (c2 : Int32) (cs : Int32) (vf : Value) (h0 : Heap) (n0 : Nat) (PE : Exa Z h0 a1 "java/lang/String") (hS : Str3 Z h0 a1 c0 c1 c2) (PC : Sta Z h0 "java/lang/String" "COMPACT_STRINGS" "Z" (.int cs)) (PA : Sta Z h0 "java/lang/StringUTF16" "$assertionsDisabled" "Z" (.int (1 : Int32))) (PH : Sta Z h0 "java/lang/StringUTF16" "HI_BYTE_SHIFT" "I" (.int (0 : Int32))) (PL : Sta Z h0 "java/lang/StringUTF16" "LO_BYTE_SHIFT" "I" (.int (8 : Int32))) (PF : Sta Z h0 "jdk/internal/util/Preconditions" "SIOOBE_FORMATTER" "Ljava/util/function/BiFunction;" vf) (hvf : vf.isRef = true) (lo_c0 : ¬ (c0 < (0 : Int32))) (hi_c0 : ¬ ((65535 : Int32) < c0)) (lo_c1 : ¬ (c1 < (0 : Int32))) (hi_c1 : ¬ ((65535 : Int32) < c1)) (lo_c2 : ¬ (c2 < (0 : Int32))) (hi_c2 : ¬ ((65535 : Int32) < c2)) (ncs : ¬ (cs = (0 : Int32))) :
  MM l Z Y19 jdk_42_method_56_code 2 (some .char) 4 0 0 53 #[(.ref a1), (.int (2 : Int32))] h0 (PureQ (.int c2) h0 n0) := by
  rcases hS with ⟨b, kb, PV, PK, PB, b0, b1, b2⟩ | ⟨b, kb, PV, PK, PB⟩
  · exact (rm19_170 l Z a0 hw a1 b kb (lat8 c0) (lat8 c1) (lat8 c2) cs vf h0 n0  PE PK PV PB PC PF   ncs hvf).mono (fun _ _ h => h) (fun _ _ _ _ _ h => h) (fun _ _ _ _ _ h => by obtain ⟨v, L, q1, ⟨q2, q3⟩, q4⟩ := h; refine ⟨v, L, q1, ⟨q2.trans ?_, q3⟩, q4⟩; simp only [own_lat c2 lo_c2 b2, own_nc c2 lo_c2 hi_c2])
  · exact (rm19_171 l Z a0 hw a1 b kb (lo8 c0) (hi8 c0) (lo8 c1) (hi8 c1) (lo8 c2) (hi8 c2) cs vf h0 n0  PE PK PV PB PC PA PH PL PF   ncs hvf).mono (fun _ _ h => h) (fun _ _ _ _ _ h => h) (fun _ _ _ _ _ h => by obtain ⟨v, L, q1, ⟨q2, q3⟩, q4⟩ := h; refine ⟨v, L, q1, ⟨q2.trans ?_, q3⟩, q4⟩; simp only [own_join c2 lo_c2 hi_c2, own_nc c2 lo_c2 hi_c2])
def QSt1 (Z : State) (c0 : Int32) (c1 : Int32) (c2 : Int32) (cs : Int32) (h0 : Heap) (n0 : Nat) (v : Option Value) (h : Heap) (L : List Loc) : Prop := ∃ e0 : Addr, v = some (.ref e0) ∧ Fr n0 L ∧ (Keep h0 h []) ∧ (Exa Z h e0 "java/lang/String") ∧ (h0.size ≤ e0) ∧ (Str1 Z h e0 c0)
theorem rmSt1 (l : Launch) (Z : State) (a0 : Array Value) (hw : HW a0 Z) (c0 : Int32) (c1 : Int32) (c2 : Int32) (cs : Int32) (h0 : Heap) (n0 : Nat) (Z0 : n0 ≤ h0.size) (P0 : Sta Z h0 "java/lang/String" "COMPACT_STRINGS" "Z" (.int cs)) (P1 : Sta Z h0 "java/lang/StringUTF16" "$assertionsDisabled" "Z" (.int 1)) (P2 : Sta Z h0 "java/lang/StringUTF16" "HI_BYTE_SHIFT" "I" (.int 0)) (P3 : Sta Z h0 "java/lang/StringUTF16" "LO_BYTE_SHIFT" "I" (.int 8)) (lo_c0 : ¬ (c0 < (0 : Int32))) (hi_c0 : ¬ ((65535 : Int32) < c0)) (ncs : ¬ (cs = (0 : Int32))) :
  MM l Z Y3 method_6_code 4 (some (.object "java/lang/String")) 6 4 16 88 #[(.int 1), (.int c0), (.int c1), (.int c2)] h0 (QSt1 Z c0 c1 c2 cs h0 n0) := by
 refine own_start (fun m => (mkF m 0 (Sh15 1 c0 c1 c2) [])) (plainFor_of_name pn_com_example_throttle_throttle_SipSyntaxStartsWithIgnoringAsciiCasePinLaw) (by simp [entryFrame, mkF, argsToLocals, Value.category]) n0 ?_
 intro p e s m below meth c s₁ Bd hx hby hml hZ hown hnm X0 e0 N0
 refine GoW.sg (mkF m 20 (Sh15 1 c0 c1 c2) []) (fun t k => XS.iloadN X0.here hx rfl (hb hby d3_0) rfl (XS.ifYes X0.here hx rfl (pc0 := 1) (pc' := 15) rfl (hb hby d3_1) rfl (by decide) (by decide) (by decide) (XS.iloadN X0.here hx rfl (hb hby d3_15) rfl (XS.iconst X0.here hx rfl (hb hby d3_16) (XS.icmpNo X0.here hx rfl (hb hby d3_17) rfl (by decide) k))))) ?_
 obtain ⟨T1421, h1421, X1421, e1421, E1421, A1421, D1421, -, st1421⟩ := newO X0 hx hZ hown (ww hw 11 rfl) (ww hw 12 rfl) (ww hw 13 rfl) e0 (g := (mkF m 20 (Sh15 1 c0 c1 c2) [])) rfl (hb hby d3_20) (by decide) (by decide)
 obtain ⟨b1421, g1421⟩ : ∃ z, z = h0.size := ⟨_, rfl⟩
 rw [← g1421] at A1421 D1421 st1421
 have g_b1421 : n0 ≤ b1421 := Nat.le_trans Z0 (Nat.le_of_eq g1421.symm)
 have sz_b1421 : h0.size ≤ b1421 := Nat.le_trans (Keep.refl h0 []).1 (Nat.le_of_eq g1421.symm)
 have f1421_1 := P0.ext E1421
 have f1421_2 := P1.ext E1421
 have f1421_3 := P2.ext E1421
 have f1421_4 := P3.ext E1421
 have f1421_5 := (Keep.refl h0 []).ext E1421
 have f1421_6 := Nat.le_trans Z0 E1421.1
 have F1421value : Fld Z h1421 b1421 "java/lang/String" "value" "[B" .null := D1421 (Or.inr (ww hw 27 rfl)) (ty := (.array .byte)) (by decide)
 have F1421coder : Fld Z h1421 b1421 "java/lang/String" "coder" "B" (.int (0 : Int32)) := D1421 (Or.inr (ww hw 28 rfl)) (ty := .byte) (by decide)
 refine GoW.sg (mkF m 23 (Sh15 1 c0 c1 c2) [(.ref b1421)]) (fun t k => st1421 t k) ?_
 refine GoW.sg (mkF m 25 (Sh15 1 c0 c1 c2) [(.int 1), (.ref b1421), (.ref b1421)]) (fun t k => XS.dup X1421.here hx rfl (hb hby d3_23) rfl rfl (XS.iconst X1421.here hx rfl (hb hby d3_24) k)) ?_
 obtain ⟨T1422, h1422, k1422, X1422, e1422, E1422, A1422, st1422⟩ := newP X1421 hx hZ (ww hw 14 rfl) e1421 (g := (mkF m 25 (Sh15 1 c0 c1 c2) [(.int 1), (.ref b1421), (.ref b1421)])) rfl (hb hby d3_25) rfl (by decide) (cap := 1) (by decide) (by decide) (by decide) (by decide)
 obtain ⟨b1422, g1422⟩ : ∃ z, z = h1421.size := ⟨_, rfl⟩
 rw [← g1422] at A1422 st1422
 have g_b1422 : n0 ≤ b1422 := Nat.le_trans f1421_6 (Nat.le_of_eq g1422.symm)
 have sz_b1422 : h0.size ≤ b1422 := Nat.le_trans f1421_5.1 (Nat.le_of_eq g1422.symm)
 have ne_b1421_b1422 : b1421 ≠ b1422 := Nat.ne_of_lt (Nat.lt_of_lt_of_eq A1421.lt g1422.symm)
 have f1422_7 := f1421_1.ext E1422
 have f1422_8 := f1421_2.ext E1422
 have f1422_9 := f1421_3.ext E1422
 have f1422_10 := f1421_4.ext E1422
 have f1422_11 := f1421_5.ext E1422
 have f1422_12 := Nat.le_trans f1421_6 E1422.1
 have f1422_13 := A1421.ext E1422
 have f1422_14 := F1421value.ext E1422
 have f1422_15 := F1421coder.ext E1422
 have V1422 : Arv Z h1422 b1422 k1422 .char (1 : Int32) [(.int (0 : Int32))] (.int (0 : Int32)) := (Arv.new A1422 (by decide)).pad (pad_rep [] (.int (0 : Int32)) 1)
 refine GoW.sg (mkF m 27 (Sh15 1 c0 c1 c2) [(.ref b1422), (.ref b1421), (.ref b1421)]) (fun t k => st1422 t k) ?_
 refine GoW.sg (mkF m 30 (Sh15 1 c0 c1 c2) [(.int c0), (.int 0), (.ref b1422), (.ref b1422), (.ref b1421), (.ref b1421)]) (fun t k => XS.dup X1422.here hx rfl (hb hby d3_27) rfl rfl (XS.iconst X1422.here hx rfl (hb hby d3_28) (XS.iloadN X1422.here hx rfl (hb hby d3_29) rfl k))) ?_
 obtain ⟨cl1423, Ar1423, q1423, Sz1423, Nn1423, Hh1423, Gg1423⟩ := V1422
 have hin1423 : ¬ ((0 : Int32) < 0 ∨ cl1423.slots.size ≤ ((0 : Int32)).toNatClampNeg) := inb_of Sz1423 ⟨by decide, by decide⟩
 obtain ⟨T1423, h1423, X1423, e1423, W1423, st1423⟩ := stC X1422 hx hZ e1422 Ar1423 (j := (0 : Int32)) hin1423 (g := (mkF m 30 (Sh15 1 c0 c1 c2) [(.int c0), (.int 0), (.ref b1422), (.ref b1422), (.ref b1421), (.ref b1421)])) rfl rfl (hb hby d3_30)
 have f1423_16 := f1422_7.wr W1423
 have f1423_17 := f1422_8.wr W1423
 have f1423_18 := f1422_9.wr W1423
 have f1423_19 := f1422_10.wr W1423
 have f1423_20 := f1422_11.wr W1423 (Or.inr sz_b1422)
 have f1423_21 := Nat.le_trans f1422_12 (Nat.le_of_eq W1423.size.symm)
 have f1423_22 := f1422_13.wr W1423
 have f1423_23 := f1422_14.other W1423 (Or.inl ne_b1421_b1422)
 have f1423_24 := f1422_15.other W1423 (Or.inl ne_b1421_b1422)
 have V1423 : Arv Z h1423 b1422 k1422 .char (1 : Int32) [(.int (nar .char c0))] (.int (0 : Int32)) := Arv.set Ar1423 q1423 Sz1423 Nn1423 Hh1423 Gg1423 (fits_nar_char _) W1423 0 rfl (Nat.le_of_ble_eq_true rfl)
 have N1423 := Fr.snoc X1423 N0 g_b1422
 refine GoW.sg (mkF m 31 (Sh15 1 c0 c1 c2) [(.ref b1422), (.ref b1421), (.ref b1421)]) (fun t k => st1423 t k) ?_
 rw [own_nc c0 lo_c0 hi_c0] at V1423
 obtain ⟨_, T1424, L1424, X1424, hQ1424, st1424⟩ := own_spec X1423 hx hZ (y := Y4) rfl hown (ww hw 15 rfl) (ww hw 16 rfl) (ww hw 13 rfl) (ww hw 17 rfl) (by decide) 1 (a := b1421) (rmS1 l Z a0 hw b1421 b1422 k1422 c0 cs h1423 n0 f1423_21 f1423_22 f1423_23 f1423_24 V1423 f1423_16 f1423_17 f1423_18 f1423_19 g_b1421 ne_b1421_b1422 lo_c0 hi_c0 ncs) (by decide) (by decide) e1423 (by decide) (by decide) (g := (mkF m 31 (Sh15 1 c0 c1 c2) [(.ref b1422), (.ref b1421), (.ref b1421)])) rfl (by rw [hml]; rfl) (argsL := [(.ref b1422)]) (rest := [(.ref b1421)]) (lenOf pd_285bC29V rfl) rfl (by show 2 * 0 + _ ≤ _; exact Nat.le_of_eq rfl) (hb hby d3_31)
 obtain ⟨rfl, N1424q, K1424, Ex1424, hS⟩ := hQ1424
 have N1424 := Fr.app N1423 N1424q
 have f1424_29 := f1423_20.trans K1424 (allS (Or.inr sz_b1421) all0)
 refine GoW.sg (mkF m 34 (Sh15 1 c0 c1 c2) [(.ref b1421)]) (fun t k => st1424 t k) ?_
 refine GoW.retA X1424 hx Bd.returns rfl rfl rfl (hb hby d3_34) Bd.notSynchronized ?_ (by decide) (by decide)
 exact ⟨b1421, rfl, N1424, f1424_29, Ex1424, sz_b1421, hS⟩
def QSt2 (Z : State) (c0 : Int32) (c1 : Int32) (c2 : Int32) (cs : Int32) (h0 : Heap) (n0 : Nat) (v : Option Value) (h : Heap) (L : List Loc) : Prop := ∃ e0 : Addr, v = some (.ref e0) ∧ Fr n0 L ∧ (Keep h0 h []) ∧ (Exa Z h e0 "java/lang/String") ∧ (h0.size ≤ e0) ∧ (Str2 Z h e0 c0 c1)
theorem rmSt2 (l : Launch) (Z : State) (a0 : Array Value) (hw : HW a0 Z) (c0 : Int32) (c1 : Int32) (c2 : Int32) (cs : Int32) (h0 : Heap) (n0 : Nat) (Z0 : n0 ≤ h0.size) (P0 : Sta Z h0 "java/lang/String" "COMPACT_STRINGS" "Z" (.int cs)) (P1 : Sta Z h0 "java/lang/StringUTF16" "$assertionsDisabled" "Z" (.int 1)) (P2 : Sta Z h0 "java/lang/StringUTF16" "HI_BYTE_SHIFT" "I" (.int 0)) (P3 : Sta Z h0 "java/lang/StringUTF16" "LO_BYTE_SHIFT" "I" (.int 8)) (lo_c0 : ¬ (c0 < (0 : Int32))) (hi_c0 : ¬ ((65535 : Int32) < c0)) (lo_c1 : ¬ (c1 < (0 : Int32))) (hi_c1 : ¬ ((65535 : Int32) < c1)) (ncs : ¬ (cs = (0 : Int32))) :
  MM l Z Y3 method_6_code 4 (some (.object "java/lang/String")) 6 4 16 88 #[(.int 2), (.int c0), (.int c1), (.int c2)] h0 (QSt2 Z c0 c1 c2 cs h0 n0) := by
 refine own_start (fun m => (mkF m 0 (Sh15 2 c0 c1 c2) [])) (plainFor_of_name pn_com_example_throttle_throttle_SipSyntaxStartsWithIgnoringAsciiCasePinLaw) (by simp [entryFrame, mkF, argsToLocals, Value.category]) n0 ?_
 intro p e s m below meth c s₁ Bd hx hby hml hZ hown hnm X0 e0 N0
 refine GoW.sg (mkF m 40 (Sh15 2 c0 c1 c2) []) (fun t k => XS.iloadN X0.here hx rfl (hb hby d3_0) rfl (XS.ifYes X0.here hx rfl (pc0 := 1) (pc' := 15) rfl (hb hby d3_1) rfl (by decide) (by decide) (by decide) (XS.iloadN X0.here hx rfl (hb hby d3_15) rfl (XS.iconst X0.here hx rfl (hb hby d3_16) (XS.icmpYes X0.here hx rfl (pc0 := 17) (pc' := 35) rfl (hb hby d3_17) rfl (by decide) (by decide) (by decide) (XS.iloadN X0.here hx rfl (hb hby d3_35) rfl (XS.iconst X0.here hx rfl (hb hby d3_36) (XS.icmpNo X0.here hx rfl (hb hby d3_37) rfl (by decide) k)))))))) ?_
 obtain ⟨T1425, h1425, X1425, e1425, E1425, A1425, D1425, -, st1425⟩ := newO X0 hx hZ hown (ww hw 11 rfl) (ww hw 12 rfl) (ww hw 13 rfl) e0 (g := (mkF m 40 (Sh15 2 c0 c1 c2) [])) rfl (hb hby d3_40) (by decide) (by decide)
 obtain ⟨b1425, g1425⟩ : ∃ z, z = h0.size := ⟨_, rfl⟩
 rw [← g1425] at A1425 D1425 st1425
 have g_b1425 : n0 ≤ b1425 := Nat.le_trans Z0 (Nat.le_of_eq g1425.symm)
 have sz_b1425 : h0.size ≤ b1425 := Nat.le_trans (Keep.refl h0 []).1 (Nat.le_of_eq g1425.symm)
 have f1425_1 := P0.ext E1425
 have f1425_2 := P1.ext E1425
 have f1425_3 := P2.ext E1425
 have f1425_4 := P3.ext E1425
 have f1425_5 := (Keep.refl h0 []).ext E1425
 have f1425_6 := Nat.le_trans Z0 E1425.1
 have F1425value : Fld Z h1425 b1425 "java/lang/String" "value" "[B" .null := D1425 (Or.inr (ww hw 27 rfl)) (ty := (.array .byte)) (by decide)
 have F1425coder : Fld Z h1425 b1425 "java/lang/String" "coder" "B" (.int (0 : Int32)) := D1425 (Or.inr (ww hw 28 rfl)) (ty := .byte) (by decide)
 refine GoW.sg (mkF m 43 (Sh15 2 c0 c1 c2) [(.ref b1425)]) (fun t k => st1425 t k) ?_
 refine GoW.sg (mkF m 45 (Sh15 2 c0 c1 c2) [(.int 2), (.ref b1425), (.ref b1425)]) (fun t k => XS.dup X1425.here hx rfl (hb hby d3_43) rfl rfl (XS.iconst X1425.here hx rfl (hb hby d3_44) k)) ?_
 obtain ⟨T1426, h1426, k1426, X1426, e1426, E1426, A1426, st1426⟩ := newP X1425 hx hZ (ww hw 14 rfl) e1425 (g := (mkF m 45 (Sh15 2 c0 c1 c2) [(.int 2), (.ref b1425), (.ref b1425)])) rfl (hb hby d3_45) rfl (by decide) (cap := 2) (by decide) (by decide) (by decide) (by decide)
 obtain ⟨b1426, g1426⟩ : ∃ z, z = h1425.size := ⟨_, rfl⟩
 rw [← g1426] at A1426 st1426
 have g_b1426 : n0 ≤ b1426 := Nat.le_trans f1425_6 (Nat.le_of_eq g1426.symm)
 have sz_b1426 : h0.size ≤ b1426 := Nat.le_trans f1425_5.1 (Nat.le_of_eq g1426.symm)
 have ne_b1425_b1426 : b1425 ≠ b1426 := Nat.ne_of_lt (Nat.lt_of_lt_of_eq A1425.lt g1426.symm)
 have f1426_7 := f1425_1.ext E1426
 have f1426_8 := f1425_2.ext E1426
 have f1426_9 := f1425_3.ext E1426
 have f1426_10 := f1425_4.ext E1426
 have f1426_11 := f1425_5.ext E1426
 have f1426_12 := Nat.le_trans f1425_6 E1426.1
 have f1426_13 := A1425.ext E1426
 have f1426_14 := F1425value.ext E1426
 have f1426_15 := F1425coder.ext E1426
 have V1426 : Arv Z h1426 b1426 k1426 .char (2 : Int32) [(.int (0 : Int32)), (.int (0 : Int32))] (.int (0 : Int32)) := (Arv.new A1426 (by decide)).pad (pad_rep [] (.int (0 : Int32)) 2)
 refine GoW.sg (mkF m 47 (Sh15 2 c0 c1 c2) [(.ref b1426), (.ref b1425), (.ref b1425)]) (fun t k => st1426 t k) ?_
 refine GoW.sg (mkF m 50 (Sh15 2 c0 c1 c2) [(.int c0), (.int 0), (.ref b1426), (.ref b1426), (.ref b1425), (.ref b1425)]) (fun t k => XS.dup X1426.here hx rfl (hb hby d3_47) rfl rfl (XS.iconst X1426.here hx rfl (hb hby d3_48) (XS.iloadN X1426.here hx rfl (hb hby d3_49) rfl k))) ?_
 obtain ⟨cl1427, Ar1427, q1427, Sz1427, Nn1427, Hh1427, Gg1427⟩ := V1426
 have hin1427 : ¬ ((0 : Int32) < 0 ∨ cl1427.slots.size ≤ ((0 : Int32)).toNatClampNeg) := inb_of Sz1427 ⟨by decide, by decide⟩
 obtain ⟨T1427, h1427, X1427, e1427, W1427, st1427⟩ := stC X1426 hx hZ e1426 Ar1427 (j := (0 : Int32)) hin1427 (g := (mkF m 50 (Sh15 2 c0 c1 c2) [(.int c0), (.int 0), (.ref b1426), (.ref b1426), (.ref b1425), (.ref b1425)])) rfl rfl (hb hby d3_50)
 have f1427_16 := f1426_7.wr W1427
 have f1427_17 := f1426_8.wr W1427
 have f1427_18 := f1426_9.wr W1427
 have f1427_19 := f1426_10.wr W1427
 have f1427_20 := f1426_11.wr W1427 (Or.inr sz_b1426)
 have f1427_21 := Nat.le_trans f1426_12 (Nat.le_of_eq W1427.size.symm)
 have f1427_22 := f1426_13.wr W1427
 have f1427_23 := f1426_14.other W1427 (Or.inl ne_b1425_b1426)
 have f1427_24 := f1426_15.other W1427 (Or.inl ne_b1425_b1426)
 have V1427 : Arv Z h1427 b1426 k1426 .char (2 : Int32) [(.int (nar .char c0)), (.int (0 : Int32))] (.int (0 : Int32)) := Arv.set Ar1427 q1427 Sz1427 Nn1427 Hh1427 Gg1427 (fits_nar_char _) W1427 0 rfl (Nat.le_of_ble_eq_true rfl)
 have N1427 := Fr.snoc X1427 N0 g_b1426
 refine GoW.sg (mkF m 51 (Sh15 2 c0 c1 c2) [(.ref b1426), (.ref b1425), (.ref b1425)]) (fun t k => st1427 t k) ?_
 refine GoW.sg (mkF m 54 (Sh15 2 c0 c1 c2) [(.int c1), (.int 1), (.ref b1426), (.ref b1426), (.ref b1425), (.ref b1425)]) (fun t k => XS.dup X1427.here hx rfl (hb hby d3_51) rfl rfl (XS.iconst X1427.here hx rfl (hb hby d3_52) (XS.iloadN X1427.here hx rfl (hb hby d3_53) rfl k))) ?_
 obtain ⟨cl1428, Ar1428, q1428, Sz1428, Nn1428, Hh1428, Gg1428⟩ := V1427
 have hin1428 : ¬ ((1 : Int32) < 0 ∨ cl1428.slots.size ≤ ((1 : Int32)).toNatClampNeg) := inb_of Sz1428 ⟨by decide, by decide⟩
 obtain ⟨T1428, h1428, X1428, e1428, W1428, st1428⟩ := stC X1427 hx hZ e1427 Ar1428 (j := (1 : Int32)) hin1428 (g := (mkF m 54 (Sh15 2 c0 c1 c2) [(.int c1), (.int 1), (.ref b1426), (.ref b1426), (.ref b1425), (.ref b1425)])) rfl rfl (hb hby d3_54)
 have f1428_25 := f1427_16.wr W1428
 have f1428_26 := f1427_17.wr W1428
 have f1428_27 := f1427_18.wr W1428
 have f1428_28 := f1427_19.wr W1428
 have f1428_29 := f1427_20.wr W1428 (Or.inr sz_b1426)
 have f1428_30 := Nat.le_trans f1427_21 (Nat.le_of_eq W1428.size.symm)
 have f1428_31 := f1427_22.wr W1428
 have f1428_32 := f1427_23.other W1428 (Or.inl ne_b1425_b1426)
 have f1428_33 := f1427_24.other W1428 (Or.inl ne_b1425_b1426)
 have V1428 : Arv Z h1428 b1426 k1426 .char (2 : Int32) [(.int (nar .char c0)), (.int (nar .char c1))] (.int (0 : Int32)) := Arv.set Ar1428 q1428 Sz1428 Nn1428 Hh1428 Gg1428 (fits_nar_char _) W1428 1 rfl (Nat.le_of_ble_eq_true rfl)
 have N1428 := Fr.snoc X1428 N1427 g_b1426
 refine GoW.sg (mkF m 55 (Sh15 2 c0 c1 c2) [(.ref b1426), (.ref b1425), (.ref b1425)]) (fun t k => st1428 t k) ?_
 rw [own_nc c0 lo_c0 hi_c0] at V1428
 rw [own_nc c1 lo_c1 hi_c1] at V1428
 obtain ⟨_, T1429, L1429, X1429, hQ1429, st1429⟩ := own_spec X1428 hx hZ (y := Y4) rfl hown (ww hw 15 rfl) (ww hw 16 rfl) (ww hw 13 rfl) (ww hw 17 rfl) (by decide) 1 (a := b1425) (rmS2 l Z a0 hw b1425 b1426 k1426 c0 c1 cs h1428 n0 f1428_30 f1428_31 f1428_32 f1428_33 V1428 f1428_25 f1428_26 f1428_27 f1428_28 g_b1425 ne_b1425_b1426 lo_c0 hi_c0 lo_c1 hi_c1 ncs) (by decide) (by decide) e1428 (by decide) (by decide) (g := (mkF m 55 (Sh15 2 c0 c1 c2) [(.ref b1426), (.ref b1425), (.ref b1425)])) rfl (by rw [hml]; rfl) (argsL := [(.ref b1426)]) (rest := [(.ref b1425)]) (lenOf pd_285bC29V rfl) rfl (by show 2 * 0 + _ ≤ _; exact Nat.le_of_eq rfl) (hb hby d3_55)
 obtain ⟨rfl, N1429q, K1429, Ex1429, hS⟩ := hQ1429
 have N1429 := Fr.app N1428 N1429q
 have f1429_38 := f1428_29.trans K1429 (allS (Or.inr sz_b1425) all0)
 refine GoW.sg (mkF m 58 (Sh15 2 c0 c1 c2) [(.ref b1425)]) (fun t k => st1429 t k) ?_
 refine GoW.retA X1429 hx Bd.returns rfl rfl rfl (hb hby d3_58) Bd.notSynchronized ?_ (by decide) (by decide)
 exact ⟨b1425, rfl, N1429, f1429_38, Ex1429, sz_b1425, hS⟩
def QSt3 (Z : State) (c0 : Int32) (c1 : Int32) (c2 : Int32) (cs : Int32) (h0 : Heap) (n0 : Nat) (v : Option Value) (h : Heap) (L : List Loc) : Prop := ∃ e0 : Addr, v = some (.ref e0) ∧ Fr n0 L ∧ (Keep h0 h []) ∧ (Exa Z h e0 "java/lang/String") ∧ (h0.size ≤ e0) ∧ (Str3 Z h e0 c0 c1 c2)
theorem rmSt3 (l : Launch) (Z : State) (a0 : Array Value) (hw : HW a0 Z) (c0 : Int32) (c1 : Int32) (c2 : Int32) (cs : Int32) (h0 : Heap) (n0 : Nat) (Z0 : n0 ≤ h0.size) (P0 : Sta Z h0 "java/lang/String" "COMPACT_STRINGS" "Z" (.int cs)) (P1 : Sta Z h0 "java/lang/StringUTF16" "$assertionsDisabled" "Z" (.int 1)) (P2 : Sta Z h0 "java/lang/StringUTF16" "HI_BYTE_SHIFT" "I" (.int 0)) (P3 : Sta Z h0 "java/lang/StringUTF16" "LO_BYTE_SHIFT" "I" (.int 8)) (lo_c0 : ¬ (c0 < (0 : Int32))) (hi_c0 : ¬ ((65535 : Int32) < c0)) (lo_c1 : ¬ (c1 < (0 : Int32))) (hi_c1 : ¬ ((65535 : Int32) < c1)) (lo_c2 : ¬ (c2 < (0 : Int32))) (hi_c2 : ¬ ((65535 : Int32) < c2)) (ncs : ¬ (cs = (0 : Int32))) :
  MM l Z Y3 method_6_code 4 (some (.object "java/lang/String")) 6 4 16 88 #[(.int 3), (.int c0), (.int c1), (.int c2)] h0 (QSt3 Z c0 c1 c2 cs h0 n0) := by
 refine own_start (fun m => (mkF m 0 (Sh15 3 c0 c1 c2) [])) (plainFor_of_name pn_com_example_throttle_throttle_SipSyntaxStartsWithIgnoringAsciiCasePinLaw) (by simp [entryFrame, mkF, argsToLocals, Value.category]) n0 ?_
 intro p e s m below meth c s₁ Bd hx hby hml hZ hown hnm X0 e0 N0
 refine GoW.sg (mkF m 59 (Sh15 3 c0 c1 c2) []) (fun t k => XS.iloadN X0.here hx rfl (hb hby d3_0) rfl (XS.ifYes X0.here hx rfl (pc0 := 1) (pc' := 15) rfl (hb hby d3_1) rfl (by decide) (by decide) (by decide) (XS.iloadN X0.here hx rfl (hb hby d3_15) rfl (XS.iconst X0.here hx rfl (hb hby d3_16) (XS.icmpYes X0.here hx rfl (pc0 := 17) (pc' := 35) rfl (hb hby d3_17) rfl (by decide) (by decide) (by decide) (XS.iloadN X0.here hx rfl (hb hby d3_35) rfl (XS.iconst X0.here hx rfl (hb hby d3_36) (XS.icmpYes X0.here hx rfl (pc0 := 37) (pc' := 59) rfl (hb hby d3_37) rfl (by decide) (by decide) (by decide) k)))))))) ?_
 obtain ⟨T1430, h1430, X1430, e1430, E1430, A1430, D1430, -, st1430⟩ := newO X0 hx hZ hown (ww hw 11 rfl) (ww hw 12 rfl) (ww hw 13 rfl) e0 (g := (mkF m 59 (Sh15 3 c0 c1 c2) [])) rfl (hb hby d3_59) (by decide) (by decide)
 obtain ⟨b1430, g1430⟩ : ∃ z, z = h0.size := ⟨_, rfl⟩
 rw [← g1430] at A1430 D1430 st1430
 have g_b1430 : n0 ≤ b1430 := Nat.le_trans Z0 (Nat.le_of_eq g1430.symm)
 have sz_b1430 : h0.size ≤ b1430 := Nat.le_trans (Keep.refl h0 []).1 (Nat.le_of_eq g1430.symm)
 have f1430_1 := P0.ext E1430
 have f1430_2 := P1.ext E1430
 have f1430_3 := P2.ext E1430
 have f1430_4 := P3.ext E1430
 have f1430_5 := (Keep.refl h0 []).ext E1430
 have f1430_6 := Nat.le_trans Z0 E1430.1
 have F1430value : Fld Z h1430 b1430 "java/lang/String" "value" "[B" .null := D1430 (Or.inr (ww hw 27 rfl)) (ty := (.array .byte)) (by decide)
 have F1430coder : Fld Z h1430 b1430 "java/lang/String" "coder" "B" (.int (0 : Int32)) := D1430 (Or.inr (ww hw 28 rfl)) (ty := .byte) (by decide)
 refine GoW.sg (mkF m 62 (Sh15 3 c0 c1 c2) [(.ref b1430)]) (fun t k => st1430 t k) ?_
 refine GoW.sg (mkF m 64 (Sh15 3 c0 c1 c2) [(.int 3), (.ref b1430), (.ref b1430)]) (fun t k => XS.dup X1430.here hx rfl (hb hby d3_62) rfl rfl (XS.iconst X1430.here hx rfl (hb hby d3_63) k)) ?_
 obtain ⟨T1431, h1431, k1431, X1431, e1431, E1431, A1431, st1431⟩ := newP X1430 hx hZ (ww hw 14 rfl) e1430 (g := (mkF m 64 (Sh15 3 c0 c1 c2) [(.int 3), (.ref b1430), (.ref b1430)])) rfl (hb hby d3_64) rfl (by decide) (cap := 3) (by decide) (by decide) (by decide) (by decide)
 obtain ⟨b1431, g1431⟩ : ∃ z, z = h1430.size := ⟨_, rfl⟩
 rw [← g1431] at A1431 st1431
 have g_b1431 : n0 ≤ b1431 := Nat.le_trans f1430_6 (Nat.le_of_eq g1431.symm)
 have sz_b1431 : h0.size ≤ b1431 := Nat.le_trans f1430_5.1 (Nat.le_of_eq g1431.symm)
 have ne_b1430_b1431 : b1430 ≠ b1431 := Nat.ne_of_lt (Nat.lt_of_lt_of_eq A1430.lt g1431.symm)
 have f1431_7 := f1430_1.ext E1431
 have f1431_8 := f1430_2.ext E1431
 have f1431_9 := f1430_3.ext E1431
 have f1431_10 := f1430_4.ext E1431
 have f1431_11 := f1430_5.ext E1431
 have f1431_12 := Nat.le_trans f1430_6 E1431.1
 have f1431_13 := A1430.ext E1431
 have f1431_14 := F1430value.ext E1431
 have f1431_15 := F1430coder.ext E1431
 have V1431 : Arv Z h1431 b1431 k1431 .char (3 : Int32) [(.int (0 : Int32)), (.int (0 : Int32)), (.int (0 : Int32))] (.int (0 : Int32)) := (Arv.new A1431 (by decide)).pad (pad_rep [] (.int (0 : Int32)) 3)
 refine GoW.sg (mkF m 66 (Sh15 3 c0 c1 c2) [(.ref b1431), (.ref b1430), (.ref b1430)]) (fun t k => st1431 t k) ?_
 refine GoW.sg (mkF m 69 (Sh15 3 c0 c1 c2) [(.int c0), (.int 0), (.ref b1431), (.ref b1431), (.ref b1430), (.ref b1430)]) (fun t k => XS.dup X1431.here hx rfl (hb hby d3_66) rfl rfl (XS.iconst X1431.here hx rfl (hb hby d3_67) (XS.iloadN X1431.here hx rfl (hb hby d3_68) rfl k))) ?_
 obtain ⟨cl1432, Ar1432, q1432, Sz1432, Nn1432, Hh1432, Gg1432⟩ := V1431
 have hin1432 : ¬ ((0 : Int32) < 0 ∨ cl1432.slots.size ≤ ((0 : Int32)).toNatClampNeg) := inb_of Sz1432 ⟨by decide, by decide⟩
 obtain ⟨T1432, h1432, X1432, e1432, W1432, st1432⟩ := stC X1431 hx hZ e1431 Ar1432 (j := (0 : Int32)) hin1432 (g := (mkF m 69 (Sh15 3 c0 c1 c2) [(.int c0), (.int 0), (.ref b1431), (.ref b1431), (.ref b1430), (.ref b1430)])) rfl rfl (hb hby d3_69)
 have f1432_16 := f1431_7.wr W1432
 have f1432_17 := f1431_8.wr W1432
 have f1432_18 := f1431_9.wr W1432
 have f1432_19 := f1431_10.wr W1432
 have f1432_20 := f1431_11.wr W1432 (Or.inr sz_b1431)
 have f1432_21 := Nat.le_trans f1431_12 (Nat.le_of_eq W1432.size.symm)
 have f1432_22 := f1431_13.wr W1432
 have f1432_23 := f1431_14.other W1432 (Or.inl ne_b1430_b1431)
 have f1432_24 := f1431_15.other W1432 (Or.inl ne_b1430_b1431)
 have V1432 : Arv Z h1432 b1431 k1431 .char (3 : Int32) [(.int (nar .char c0)), (.int (0 : Int32)), (.int (0 : Int32))] (.int (0 : Int32)) := Arv.set Ar1432 q1432 Sz1432 Nn1432 Hh1432 Gg1432 (fits_nar_char _) W1432 0 rfl (Nat.le_of_ble_eq_true rfl)
 have N1432 := Fr.snoc X1432 N0 g_b1431
 refine GoW.sg (mkF m 70 (Sh15 3 c0 c1 c2) [(.ref b1431), (.ref b1430), (.ref b1430)]) (fun t k => st1432 t k) ?_
 refine GoW.sg (mkF m 73 (Sh15 3 c0 c1 c2) [(.int c1), (.int 1), (.ref b1431), (.ref b1431), (.ref b1430), (.ref b1430)]) (fun t k => XS.dup X1432.here hx rfl (hb hby d3_70) rfl rfl (XS.iconst X1432.here hx rfl (hb hby d3_71) (XS.iloadN X1432.here hx rfl (hb hby d3_72) rfl k))) ?_
 obtain ⟨cl1433, Ar1433, q1433, Sz1433, Nn1433, Hh1433, Gg1433⟩ := V1432
 have hin1433 : ¬ ((1 : Int32) < 0 ∨ cl1433.slots.size ≤ ((1 : Int32)).toNatClampNeg) := inb_of Sz1433 ⟨by decide, by decide⟩
 obtain ⟨T1433, h1433, X1433, e1433, W1433, st1433⟩ := stC X1432 hx hZ e1432 Ar1433 (j := (1 : Int32)) hin1433 (g := (mkF m 73 (Sh15 3 c0 c1 c2) [(.int c1), (.int 1), (.ref b1431), (.ref b1431), (.ref b1430), (.ref b1430)])) rfl rfl (hb hby d3_73)
 have f1433_25 := f1432_16.wr W1433
 have f1433_26 := f1432_17.wr W1433
 have f1433_27 := f1432_18.wr W1433
 have f1433_28 := f1432_19.wr W1433
 have f1433_29 := f1432_20.wr W1433 (Or.inr sz_b1431)
 have f1433_30 := Nat.le_trans f1432_21 (Nat.le_of_eq W1433.size.symm)
 have f1433_31 := f1432_22.wr W1433
 have f1433_32 := f1432_23.other W1433 (Or.inl ne_b1430_b1431)
 have f1433_33 := f1432_24.other W1433 (Or.inl ne_b1430_b1431)
 have V1433 : Arv Z h1433 b1431 k1431 .char (3 : Int32) [(.int (nar .char c0)), (.int (nar .char c1)), (.int (0 : Int32))] (.int (0 : Int32)) := Arv.set Ar1433 q1433 Sz1433 Nn1433 Hh1433 Gg1433 (fits_nar_char _) W1433 1 rfl (Nat.le_of_ble_eq_true rfl)
 have N1433 := Fr.snoc X1433 N1432 g_b1431
 refine GoW.sg (mkF m 74 (Sh15 3 c0 c1 c2) [(.ref b1431), (.ref b1430), (.ref b1430)]) (fun t k => st1433 t k) ?_
 refine GoW.sg (mkF m 77 (Sh15 3 c0 c1 c2) [(.int c2), (.int 2), (.ref b1431), (.ref b1431), (.ref b1430), (.ref b1430)]) (fun t k => XS.dup X1433.here hx rfl (hb hby d3_74) rfl rfl (XS.iconst X1433.here hx rfl (hb hby d3_75) (XS.iloadN X1433.here hx rfl (hb hby d3_76) rfl k))) ?_
 obtain ⟨cl1434, Ar1434, q1434, Sz1434, Nn1434, Hh1434, Gg1434⟩ := V1433
 have hin1434 : ¬ ((2 : Int32) < 0 ∨ cl1434.slots.size ≤ ((2 : Int32)).toNatClampNeg) := inb_of Sz1434 ⟨by decide, by decide⟩
 obtain ⟨T1434, h1434, X1434, e1434, W1434, st1434⟩ := stC X1433 hx hZ e1433 Ar1434 (j := (2 : Int32)) hin1434 (g := (mkF m 77 (Sh15 3 c0 c1 c2) [(.int c2), (.int 2), (.ref b1431), (.ref b1431), (.ref b1430), (.ref b1430)])) rfl rfl (hb hby d3_77)
 have f1434_34 := f1433_25.wr W1434
 have f1434_35 := f1433_26.wr W1434
 have f1434_36 := f1433_27.wr W1434
 have f1434_37 := f1433_28.wr W1434
 have f1434_38 := f1433_29.wr W1434 (Or.inr sz_b1431)
 have f1434_39 := Nat.le_trans f1433_30 (Nat.le_of_eq W1434.size.symm)
 have f1434_40 := f1433_31.wr W1434
 have f1434_41 := f1433_32.other W1434 (Or.inl ne_b1430_b1431)
 have f1434_42 := f1433_33.other W1434 (Or.inl ne_b1430_b1431)
 have V1434 : Arv Z h1434 b1431 k1431 .char (3 : Int32) [(.int (nar .char c0)), (.int (nar .char c1)), (.int (nar .char c2))] (.int (0 : Int32)) := Arv.set Ar1434 q1434 Sz1434 Nn1434 Hh1434 Gg1434 (fits_nar_char _) W1434 2 rfl (Nat.le_of_ble_eq_true rfl)
 have N1434 := Fr.snoc X1434 N1433 g_b1431
 refine GoW.sg (mkF m 78 (Sh15 3 c0 c1 c2) [(.ref b1431), (.ref b1430), (.ref b1430)]) (fun t k => st1434 t k) ?_
 rw [own_nc c0 lo_c0 hi_c0] at V1434
 rw [own_nc c1 lo_c1 hi_c1] at V1434
 rw [own_nc c2 lo_c2 hi_c2] at V1434
 obtain ⟨_, T1435, L1435, X1435, hQ1435, st1435⟩ := own_spec X1434 hx hZ (y := Y4) rfl hown (ww hw 15 rfl) (ww hw 16 rfl) (ww hw 13 rfl) (ww hw 17 rfl) (by decide) 1 (a := b1430) (rmS3 l Z a0 hw b1430 b1431 k1431 c0 c1 c2 cs h1434 n0 f1434_39 f1434_40 f1434_41 f1434_42 V1434 f1434_34 f1434_35 f1434_36 f1434_37 g_b1430 ne_b1430_b1431 lo_c0 hi_c0 lo_c1 hi_c1 lo_c2 hi_c2 ncs) (by decide) (by decide) e1434 (by decide) (by decide) (g := (mkF m 78 (Sh15 3 c0 c1 c2) [(.ref b1431), (.ref b1430), (.ref b1430)])) rfl (by rw [hml]; rfl) (argsL := [(.ref b1431)]) (rest := [(.ref b1430)]) (lenOf pd_285bC29V rfl) rfl (by show 2 * 0 + _ ≤ _; exact Nat.le_of_eq rfl) (hb hby d3_78)
 obtain ⟨rfl, N1435q, K1435, Ex1435, hS⟩ := hQ1435
 have N1435 := Fr.app N1434 N1435q
 have f1435_47 := f1434_38.trans K1435 (allS (Or.inr sz_b1430) all0)
 refine GoW.sg (mkF m 81 (Sh15 3 c0 c1 c2) [(.ref b1430)]) (fun t k => st1435 t k) ?_
 refine GoW.retA X1435 hx Bd.returns rfl rfl rfl (hb hby d3_81) Bd.notSynchronized ?_ (by decide) (by decide)
 exact ⟨b1430, rfl, N1435, f1435_47, Ex1435, sz_b1430, hS⟩
def StrX (Z : State) (h : Heap) (a : Addr) (n c0 c1 c2 : Int32) : Prop := (n = 1 ∧ Str1 Z h a c0) ∨ (n = 2 ∧ Str2 Z h a c0 c1) ∨ (n = 3 ∧ Str3 Z h a c0 c1 c2)
theorem StrX.keep {Z : State} {h h' : Heap} {a : Addr} {n c0 c1 c2 : Int32} (S : StrX Z h a n c0 c1 c2) (K : Keep h h' []) : StrX Z h' a n c0 c1 c2 := by
  rcases S with ⟨q, S⟩ | ⟨q, S⟩ | ⟨q, S⟩
  · exact Or.inl ⟨q, S.keep K⟩
  · exact Or.inr (Or.inl ⟨q, S.keep K⟩)
  · exact Or.inr (Or.inr ⟨q, S.keep K⟩)
def QStr (Z : State) (n c0 c1 c2 : Int32) (h0 : Heap) (n0 : Nat) (v : Option Value) (h : Heap) (L : List Loc) : Prop := ∃ e0 : Addr, v = some (.ref e0) ∧ Fr n0 L ∧ (Keep h0 h []) ∧ (Exa Z h e0 "java/lang/String") ∧ (h0.size ≤ e0) ∧ StrX Z h e0 n c0 c1 c2
theorem rmStrN (l : Launch) (Z : State) (a0 : Array Value) (hw : HW a0 Z) (n c0 c1 c2 cs : Int32) (h0 : Heap) (n0 : Nat) (Z0 : n0 ≤ h0.size) (PC : Sta Z h0 "java/lang/String" "COMPACT_STRINGS" "Z" (.int cs)) (PA : Sta Z h0 "java/lang/StringUTF16" "$assertionsDisabled" "Z" (.int (1 : Int32))) (PH : Sta Z h0 "java/lang/StringUTF16" "HI_BYTE_SHIFT" "I" (.int (0 : Int32))) (PL : Sta Z h0 "java/lang/StringUTF16" "LO_BYTE_SHIFT" "I" (.int (8 : Int32))) (hn : n = 1 ∨ n = 2 ∨ n = 3) (lo_c0 : ¬ (c0 < (0 : Int32))) (hi_c0 : ¬ ((65535 : Int32) < c0)) (lo_c1 : ¬ (c1 < (0 : Int32))) (hi_c1 : ¬ ((65535 : Int32) < c1)) (lo_c2 : ¬ (c2 < (0 : Int32))) (hi_c2 : ¬ ((65535 : Int32) < c2)) (ncs : ¬ (cs = (0 : Int32))) :
  MM l Z Y3 method_6_code 4 (some (.object "java/lang/String")) 6 4 16 88 #[.int n, .int c0, .int c1, .int c2] h0 (QStr Z n c0 c1 c2 h0 n0) := by
  rcases hn with rfl | rfl | rfl
  · exact (rmSt1 l Z a0 hw c0 c1 c2 cs h0 n0 Z0 PC PA PH PL lo_c0 hi_c0 ncs).mono (fun _ _ h => h) (fun _ _ _ _ _ h => h) (fun _ _ _ _ _ h => by obtain ⟨v, L, q1, ⟨e0, x1, x2, x3, x4, x5, x6⟩, q3⟩ := h; exact ⟨v, L, q1, ⟨e0, x1, x2, x3, x4, x5, Or.inl ⟨rfl, x6⟩⟩, q3⟩)
  · exact (rmSt2 l Z a0 hw c0 c1 c2 cs h0 n0 Z0 PC PA PH PL lo_c0 hi_c0 lo_c1 hi_c1 ncs).mono (fun _ _ h => h) (fun _ _ _ _ _ h => h) (fun _ _ _ _ _ h => by obtain ⟨v, L, q1, ⟨e0, x1, x2, x3, x4, x5, x6⟩, q3⟩ := h; exact ⟨v, L, q1, ⟨e0, x1, x2, x3, x4, x5, Or.inr (Or.inl ⟨rfl, x6⟩)⟩, q3⟩)
  · exact (rmSt3 l Z a0 hw c0 c1 c2 cs h0 n0 Z0 PC PA PH PL lo_c0 hi_c0 lo_c1 hi_c1 lo_c2 hi_c2 ncs).mono (fun _ _ h => h) (fun _ _ _ _ _ h => h) (fun _ _ _ _ _ h => by obtain ⟨v, L, q1, ⟨e0, x1, x2, x3, x4, x5, x6⟩, q3⟩ := h; exact ⟨v, L, q1, ⟨e0, x1, x2, x3, x4, x5, Or.inr (Or.inr ⟨rfl, x6⟩)⟩, q3⟩)
theorem ef5_rmE2 (m : MethodId) (a1 : Addr) (a2 : Addr) : entryFrame m #[(.ref a1), (.ref a2), (.int (0 : Int32)), (.int (0 : Int32)), .null] 6 = (mkF m 0 #[.val (.ref a1), .val (.ref a2), .val (.int 0), .val (.int 0), .val .null, .unset] []) := by first | (simp [entryFrame, mkF, argsToLocals, Value.category, maxLocals]; done) | rfl
def QE2 (Z : State) (a1 : Addr) (a2 : Addr) (h0 : Heap) (n0 : Nat) (v : Option Value) (h : Heap) (vm : Vm) (L : List Loc) : Prop := ∃ la : Addr, ∃ lb : Addr, ∃ kc : ClassId, v = none ∧ Fr n0 L ∧ (Keep h0 h [a1]) ∧ (Exa Z h a1 "java/lang/String") ∧ (Fld Z h a1 "java/lang/String" "value" "[B" (.ref lb)) ∧ (Fld Z h a1 "java/lang/String" "coder" "B" (.int 0)) ∧ (Arv Z h lb kc .byte (0 : Int32) [] (.int 0)) ∧ (Exa Z h la "java/lang/String") ∧ (Fld Z h la "java/lang/String" "value" "[B" (.ref lb)) ∧ (Fld Z h la "java/lang/String" "coder" "B" (.int 0)) ∧ (Lit (Z.setVm vm) "java/lang/String" 7 la)
theorem rmE2 (l : Launch) (Z : State) (a0 : Array Value) (hw : ∀ d ∈ tables_1, d.before a0 Z = true) (ws : List Jvm.Cond) (a1 : Addr) (a2 : Addr)  (h0 : Heap) (n0 : Nat) (Z0 : n0 ≤ h0.size) (P0 : Exa Z h0 a1 "java/lang/String") (P1 : Fld Z h0 a1 "java/lang/String" "value" "[B" .null) (P2 : Fld Z h0 a1 "java/lang/String" "coder" "B" (.int (0 : Int32))) (g_a1 : n0 ≤ a1)     (O0 : Old Z n0 h0) (hc_7 : Jvm.Lit.constHeld Z "java/lang/String" 7) (hcw : Jvm.Lit.compactW.before a0 Z = true) :
    MetFree l Y5 (head1 (Jvm.Cond.code Y5 jdk_42_method_149_code 6 none :: ws) ({ frames := 1, cells := 2, slots := 4, locals := 12 } : Room)) (fun a U => a = #[(.ref a1), (.ref a2), (.int (0 : Int32)), (.int (0 : Int32)), .null] ∧ Z.Warmed39 U.vm ∧ U.heap = h0 ∧ IB Z U.vm []) (fun _ _ _ _ _ => True) (fun _ U o U' => ∃ v L, o = .returned v ∧ (QE2 Z a1 a2 h0 n0) v U'.heap U'.vm L ∧ ReturnedEndW U o U' L 2 4) := by
 refine MetFree.of_bodySF (plainFor_of_name pn_java_lang_String) hisR ?_
 intro p e s m args below meth c s₁ Bd hml0 hP hK
 obtain ⟨rfl, hZ, hh, I0⟩ := hP
 have hkeep : ∀ (b : Addr) (cl : Cell), Z.heap[b]? = some cl → s.heap[b]? = some cl := fun b cl q => by rw [hh]; exact O0.2.2 b cl q
 have wSt := own_wS hw
 have hS0 : s.Since s.vm 0 := (State.WarmedH.refl s).since 0
 have hx := Bd.exec
 have hby := Bd.bytes
 have hml : c.maxLocals = 6 := hml0
 have hown : s.vm.findClass "java/lang/String" = some m.cls := findClass_of_methodNamed Bd.named
 have hnm := (name_of_methodNamed Bd.named Bd.method).1
 have X0 : Stand p l e ({ frames := 1, cells := 2, slots := 4, locals := 12 } : Room) (s.setVm s.vm) m #[(.ref a1), (.ref a2), (.int (0 : Int32)), (.int (0 : Int32)), .null] below meth c s₁ [] 0 0 := Stand.of_body Bd
 have e0 : s₁.heap = h0 := by rw [← hh, Bd.state]; rfl
 have N0 := Fr.nil n0
 refine GoU.mk ?_
 refine GoU.st (fun t k => castTop (ef5_rmE2 m a1 a2) k) ?_
 show GoU p e below s (QE2 Z a1 a2 h0 n0) 2 4 (s₁.setTop (mkF m 0 (Sh0 a1 a2 0 0) []))
 refine GoU.sg (mkF m 1 (Sh0 a1 a2 0 0) [(.ref a1)]) (fun t k => XS.aloadN X0.here hx rfl (hb hby d5_0) rfl rfl k) ?_
 obtain ⟨T1436, X1436, e1436, st1436⟩ := initO X0 hx hZ hown (ww hw 22 rfl) (ww hw 23 rfl) (ww hw 24 rfl) e0 (g := (mkF m 1 (Sh0 a1 a2 0 0) [(.ref a1)])) rfl (by rw [hml]; rfl) rfl (hb hby d5_1) (by decide) (W := 0) (by show 2 * 0 + _ ≤ _; exact Nat.le_of_eq rfl) (by decide)
 refine GoU.sg (mkF m 4 (Sh0 a1 a2 0 0) []) (fun t k => st1436 t k) ?_
 refine GoU.sg (mkF m 9 (Sh0 a1 a2 0 0) [(.ref a1)]) (fun t k => XS.iloadN X1436.here hx rfl (hb hby d5_4) rfl (XS.ifNo X1436.here hx rfl (hb hby d5_5) rfl (by decide) (XS.aloadN X1436.here hx rfl (hb hby d5_8) rfl rfl k))) ?_
 obtain ⟨la1437, T1437, h1437, k1437, lb1437, kc1437, X1437, e1437, E1437, hS1437, hk1437, hZ1437, hown1437, LE1437, LC1437, LV1437, LA1437, -, -, I1437, LL1437, st1437⟩ := ldcSVL X1436 hx hZ hown (ww hw 25 rfl) wSt e1436 hS0 (Nat.zero_le _) (N := (Fr.nil _)) hkeep I0 (by decide) hc_7 hcw (vs := []) (z := (0 : Int32)) ⟨by decide, by decide⟩ (by decide) (by decide) (g := (mkF m 9 (Sh0 a1 a2 0 0) [(.ref a1)])) rfl (hb hby d5_9) (n := 0) (by decide) (by decide) (by decide) (by decide)
 have f1437_1 := P0.ext E1437
 have f1437_2 := P1.ext E1437
 have f1437_3 := P2.ext E1437
 have f1437_4 := (Keep.refl h0 [a1]).ext E1437
 refine GoU.sg (mkF m 11 (Sh0 a1 a2 0 0) [(.ref la1437), (.ref a1)]) (fun t k => st1437 t k) ?_
 obtain ⟨T1438, X1438, e1438, st1438⟩ := getF X1437 hx hZ1437 hown1437 (host := "") (Or.inl (ww hw 31 rfl)) Via.refl e1437 LV1437 (g := (mkF m 11 (Sh0 a1 a2 0 0) [(.ref la1437), (.ref a1)])) rfl rfl (hb hby d5_11)
 refine GoU.sg (mkF m 14 (Sh0 a1 a2 0 0) [(.ref lb1437), (.ref a1)]) (fun t k => st1438 t k) ?_
 have ne_la : la1437 ≠ a1 := Fld.ne LV1437 f1437_2 (by simp)
 have ne_lb : a1 ≠ lb1437 := Exa.neArv f1437_1 LA1437 (ww hw 12 rfl)
 obtain ⟨T1439, h1439, X1439, e1439, W1439, st1439⟩ := putF X1438 hx hZ1437 hown1437 (host := "") (Or.inl (ww hw 31 rfl)) Via.refl e1438 f1437_2 f1437_1 (Or.inr ⟨(ww hw 27 rfl), rfl, hnm⟩) (ww hw 12 rfl) (ty := (.array .byte)) (by decide) rfl rfl (g := (mkF m 14 (Sh0 a1 a2 0 0) [(.ref lb1437), (.ref a1)])) rfl rfl (hb hby d5_14)
 have N1439 := Fr.snoc X1439 N0 g_a1
 have f1439_7 := f1437_1.wr W1439
 have f1439_8 := f1437_3.other W1439 (Or.inr (slot_ne (t := .byte) (t' := (.array .byte)) (Or.inr (ww hw 28 rfl)) (Or.inr (ww hw 27 rfl)) (by decide) (by decide) (by decide)))
 have f1439_9 := f1437_4.wr W1439 (Or.inl (List.mem_of_getElem? (i := 0) rfl))
 have f1439_12 := Nat.le_trans hk1437 (Nat.le_of_eq W1439.size.symm)
 have f1439_13 := LE1437.wr W1439
 have f1439_14 := LC1437.other W1439 (Or.inl ne_la)
 have f1439_15 := LV1437.other W1439 (Or.inl ne_la)
 have f1439_16 := LA1437.other W1439 (Ne.symm ne_lb)
 have F1439value : Fld Z h1439 a1 "java/lang/String" "value" "[B" (.ref lb1437) := f1437_2.same W1439
 refine GoU.sg (mkF m 17 (Sh0 a1 a2 0 0) []) (fun t k => st1439 t k) ?_
 refine GoU.sg (mkF m 18 (Sh0 a1 a2 0 0) [(.ref a1)]) (fun t k => XS.aloadN X1439.here hx rfl (hb hby d5_17) rfl rfl k) ?_
 refine GoU.sg (mkF m 20 (Sh0 a1 a2 0 0) [(.ref la1437), (.ref a1)]) (fun t k => ldcAgain X1439 hx hZ1437 hown1437 (ww hw 25 rfl) LL1437 (g := (mkF m 18 (Sh0 a1 a2 0 0) [(.ref a1)])) rfl (hb hby d5_18) t k) ?_
 obtain ⟨T1441, X1441, e1441, st1441⟩ := getF X1439 hx hZ1437 hown1437 (host := "") (Or.inl (ww hw 32 rfl)) Via.refl e1439 f1439_14 (g := (mkF m 20 (Sh0 a1 a2 0 0) [(.ref la1437), (.ref a1)])) rfl rfl (hb hby d5_20)
 refine GoU.sg (mkF m 23 (Sh0 a1 a2 0 0) [(.int 0), (.ref a1)]) (fun t k => st1441 t k) ?_
 obtain ⟨T1442, h1442, X1442, e1442, W1442, st1442⟩ := putF X1441 hx hZ1437 hown1437 (host := "") (Or.inl (ww hw 32 rfl)) Via.refl e1441 f1439_8 f1439_7 (Or.inr ⟨(ww hw 28 rfl), rfl, hnm⟩) (ww hw 12 rfl) (ty := .byte) (by decide) rfl rfl (g := (mkF m 23 (Sh0 a1 a2 0 0) [(.int 0), (.ref a1)])) rfl rfl (hb hby d5_23)
 have N1442 := Fr.snoc X1442 N1439 g_a1
 have f1442_17 := f1439_7.wr W1442
 have f1442_18 := F1439value.other W1442 (Or.inr (slot_ne (t := (.array .byte)) (t' := .byte) (Or.inr (ww hw 27 rfl)) (Or.inr (ww hw 28 rfl)) (by decide) (by decide) (by decide)))
 have f1442_19 := f1439_9.wr W1442 (Or.inl (List.mem_of_getElem? (i := 0) rfl))
 have f1442_22 := Nat.le_trans f1439_12 (Nat.le_of_eq W1442.size.symm)
 have f1442_23 := f1439_13.wr W1442
 have f1442_24 := f1439_14.other W1442 (Or.inl ne_la)
 have f1442_25 := f1439_15.other W1442 (Or.inl ne_la)
 have f1442_26 := f1439_16.other W1442 (Ne.symm ne_lb)
 have F1442coder : Fld Z h1442 a1 "java/lang/String" "coder" "B" (.int (0 : Int32)) := f1439_8.same W1442
 refine GoU.sg (mkF m 26 (Sh0 a1 a2 0 0) []) (fun t k => st1442 t k) ?_
 refine GoU.retV X1442 hS1437 (by rw [e1442]; exact f1442_22) hx Bd.returns (hb hby d5_26) Bd.notSynchronized ?_ (by decide) (by decide)
 rw [e1442]
 exact ⟨la1437, lb1437, kc1437, rfl, N1442, f1442_19, f1442_17, f1442_18, F1442coder, f1442_26, f1442_23, f1442_25, f1442_24, Lit.stays (s := s) LL1437 X1442.warmed.wide⟩
theorem ef4_rmE1 (m : MethodId) (a1 : Addr) (a2 : Addr) : entryFrame m #[(.ref a1), (.ref a2)] 2 = (mkF m 0 #[.val (.ref a1), .val (.ref a2)] []) := by first | (simp [entryFrame, mkF, argsToLocals, Value.category, maxLocals]; done) | rfl
def QE1 (Z : State) (a1 : Addr) (a2 : Addr) (ka2 : ClassId) (h0 : Heap) (n0 : Nat) (v : Option Value) (h : Heap) (vm : Vm) (L : List Loc) : Prop := ∃ la : Addr, ∃ lb : Addr, ∃ kc : ClassId, v = none ∧ Fr n0 L ∧ (Keep h0 h [a1]) ∧ (Exa Z h a1 "java/lang/String") ∧ (Fld Z h a1 "java/lang/String" "value" "[B" (.ref lb)) ∧ (Fld Z h a1 "java/lang/String" "coder" "B" (.int 0)) ∧ (Arv Z h lb kc .byte (0 : Int32) [] (.int 0)) ∧ (Exa Z h la "java/lang/String") ∧ (Fld Z h la "java/lang/String" "value" "[B" (.ref lb)) ∧ (Fld Z h la "java/lang/String" "coder" "B" (.int 0)) ∧ (Lit (Z.setVm vm) "java/lang/String" 7 la)
theorem rmE1 (l : Launch) (Z : State) (a0 : Array Value) (hw : ∀ d ∈ tables_1, d.before a0 Z = true) (ws : List Jvm.Cond) (a1 : Addr) (a2 : Addr) (ka2 : ClassId) (h0 : Heap) (n0 : Nat) (Z0 : n0 ≤ h0.size) (P0 : Exa Z h0 a1 "java/lang/String") (P1 : Fld Z h0 a1 "java/lang/String" "value" "[B" .null) (P2 : Fld Z h0 a1 "java/lang/String" "coder" "B" (.int (0 : Int32))) (P3 : Arv Z h0 a2 ka2 .char (0 : Int32) [] (.int (0 : Int32))) (g_a1 : n0 ≤ a1) (ne_a1_a2 : a1 ≠ a2)    (O0 : Old Z n0 h0) (hc_7 : Jvm.Lit.constHeld Z "java/lang/String" 7) (hcw : Jvm.Lit.compactW.before a0 Z = true) :
    MetFree l Y4 (head1 (Jvm.Cond.code Y4 jdk_42_method_3_code 2 none :: ws) ({ frames := 2, cells := 2, slots := 4, locals := 29 } : Room)) (fun a U => a = #[(.ref a1), (.ref a2)] ∧ Z.Warmed39 U.vm ∧ U.heap = h0 ∧ IB Z U.vm []) (fun _ _ _ _ _ => True) (fun _ U o U' => ∃ v L, o = .returned v ∧ (QE1 Z a1 a2 ka2 h0 n0) v U'.heap U'.vm L ∧ ReturnedEndW U o U' L 2 4) := by
 refine MetFree.of_bodySF (plainFor_of_name pn_java_lang_String) hisR ?_
 intro p e s m args below meth c s₁ Bd hml0 hP hK
 obtain ⟨rfl, hZ, hh, I0⟩ := hP
 have hkeep : ∀ (b : Addr) (cl : Cell), Z.heap[b]? = some cl → s.heap[b]? = some cl := fun b cl q => by rw [hh]; exact O0.2.2 b cl q
 have wSt := own_wS hw
 have hS0 : s.Since s.vm 0 := (State.WarmedH.refl s).since 0
 have hx := Bd.exec
 have hby := Bd.bytes
 have hml : c.maxLocals = 2 := hml0
 have hown : s.vm.findClass "java/lang/String" = some m.cls := findClass_of_methodNamed Bd.named
 have hnm := (name_of_methodNamed Bd.named Bd.method).1
 have X0 : Stand p l e ({ frames := 2, cells := 2, slots := 4, locals := 29 } : Room) (s.setVm s.vm) m #[(.ref a1), (.ref a2)] below meth c s₁ [] 0 0 := Stand.of_body Bd
 have e0 : s₁.heap = h0 := by rw [← hh, Bd.state]; rfl
 have N0 := Fr.nil n0
 refine GoU.mk ?_
 refine GoU.st (fun t k => castTop (ef4_rmE1 m a1 a2) k) ?_
 show GoU p e below s (QE1 Z a1 a2 ka2 h0 n0) 2 4 (s₁.setTop (mkF m 0 #[.val (.ref a1), .val (.ref a2)] []))
 refine GoU.sg (mkF m 4 #[.val (.ref a1), .val (.ref a2)] [(.ref a2), (.int 0), (.ref a2), (.ref a1)]) (fun t k => XS.aloadN X0.here hx rfl (hb hby d4_0) rfl rfl (XS.aloadN X0.here hx rfl (hb hby d4_1) rfl rfl (XS.iconst X0.here hx rfl (hb hby d4_2) (XS.aloadN X0.here hx rfl (hb hby d4_3) rfl rfl k)))) ?_
 obtain ⟨cl1443, Ar1443, q1443, Sz1443, Nn1443, Hh1443, Gg1443⟩ := id P3
 have st1443 := X0.arraylength hx (hq_ e0 Ar1443.1) (State.isArrayOf_alike hZ.alike Ar1443.2.1) (g := (mkF m 4 #[.val (.ref a1), .val (.ref a2)] [(.ref a2), (.int 0), (.ref a2), (.ref a1)])) rfl rfl (hb hby d4_4)
 rw [len_of Sz1443 Nn1443] at st1443
 refine GoU.sg (mkF m 5 #[.val (.ref a1), .val (.ref a2)] [(.int 0), (.int 0), (.ref a2), (.ref a1)]) (fun t k => st1443 t k) ?_
 refine GoU.sg (mkF m 6 #[.val (.ref a1), .val (.ref a2)] [.null, (.int 0), (.int 0), (.ref a2), (.ref a1)]) (fun t k => XS.aconstNull X0.here hx rfl (hb hby d4_5) k) ?_
 obtain ⟨_, T1444, L1444, X1444, hS1444, hZ1444, hown1444, hQ1444, st1444⟩ := own_specU X0 hx hZ hS0 (Nat.zero_le _) (y := Y5) rfl hown (ww hw 18 rfl) (ww hw 19 rfl) (ww hw 13 rfl) (ww hw 21 rfl) (by decide) 0 (a := a1) (PV := fun vm => IB Z vm []) (rmE2 l Z a0 hw [] a1 a2  h0 n0 Z0 P0 P1 P2 g_a1     O0 hc_7 hcw) (fun vm1 q => own_ibW I0 q.interned_eq) (by decide) (by decide) e0 (by decide) (by decide) (g := (mkF m 6 #[.val (.ref a1), .val (.ref a2)] [.null, (.int 0), (.int 0), (.ref a2), (.ref a1)])) rfl (by rw [hml]; rfl) (argsL := [(.ref a2), (.int (0 : Int32)), (.int (0 : Int32)), .null]) (rest := []) (lenOf pd_285bCIILjava2flang2fVoid3b29V rfl) rfl (by show 2 * 0 + _ ≤ _; exact Nat.le_of_eq rfl) (hb hby d4_6)
 obtain ⟨k1444_la, k1444_lb, k1444_kc, rfl, N1444q, K1444, p1444_0, p1444_1, p1444_2, p1444_3, p1444_4, p1444_5, p1444_6, LQ1444⟩ := hQ1444
 have N1444 := Fr.app N0 N1444q
 have f1444_2 := (Keep.refl h0 [a1]).trans K1444 (allS (Or.inl (List.mem_of_getElem? (i := 0) rfl)) all0)
 refine GoU.sg (mkF m 9 #[.val (.ref a1), .val (.ref a2)] []) (fun t k => st1444 t k) ?_
 refine GoU.retV X1444 hS1444 (Nat.le_refl _) hx Bd.returns (hb hby d4_9) Bd.notSynchronized ?_ (by decide) (by decide)
 exact ⟨k1444_la, k1444_lb, k1444_kc, rfl, N1444, f1444_2, p1444_0, p1444_1, p1444_2, p1444_3, p1444_4, p1444_5, p1444_6, Lit.stays (s := s) LQ1444 X1444.warmed.wide⟩
theorem ef3_rmE0 (m : MethodId) (c0 : Int32) (c1 : Int32) (c2 : Int32) : entryFrame m #[(.int (0 : Int32)), (.int c0), (.int c1), (.int c2)] 4 = (mkF m 0 #[.val (.int 0), .val (.int c0), .val (.int c1), .val (.int c2)] []) := by first | (simp [entryFrame, mkF, argsToLocals, Value.category, maxLocals]; done) | rfl
def QE0 (Z : State) (c0 : Int32) (c1 : Int32) (c2 : Int32) (h0 : Heap) (n0 : Nat) (v : Option Value) (h : Heap) (vm : Vm) (L : List Loc) : Prop := ∃ e0 : Addr, ∃ la : Addr, ∃ lb : Addr, ∃ kc : ClassId, v = some (.ref e0) ∧ Fr n0 L ∧ (Keep h0 h []) ∧ (Exa Z h e0 "java/lang/String") ∧ (Fld Z h e0 "java/lang/String" "value" "[B" (.ref lb)) ∧ (Fld Z h e0 "java/lang/String" "coder" "B" (.int 0)) ∧ (Arv Z h lb kc .byte (0 : Int32) [] (.int 0)) ∧ (Exa Z h la "java/lang/String") ∧ (Fld Z h la "java/lang/String" "value" "[B" (.ref lb)) ∧ (Fld Z h la "java/lang/String" "coder" "B" (.int 0)) ∧ (h0.size ≤ e0) ∧ (Lit (Z.setVm vm) "java/lang/String" 7 la)
theorem rmE0 (l : Launch) (Z : State) (a0 : Array Value) (hw : ∀ d ∈ tables_1, d.before a0 Z = true) (ws : List Jvm.Cond) (c0 : Int32) (c1 : Int32) (c2 : Int32)  (h0 : Heap) (n0 : Nat) (Z0 : n0 ≤ h0.size)       (O0 : Old Z n0 h0) (hc_7 : Jvm.Lit.constHeld Z "java/lang/String" 7) (hcw : Jvm.Lit.compactW.before a0 Z = true) :
    MetFree l Y3 (head1 (Jvm.Cond.code Y3 method_6_code 4 (some (.object "java/lang/String")) :: ws) ({ frames := 3, cells := 4, slots := 8, locals := 43 } : Room)) (fun a U => a = #[(.int (0 : Int32)), (.int c0), (.int c1), (.int c2)] ∧ Z.Warmed39 U.vm ∧ U.heap = h0 ∧ IB Z U.vm []) (fun _ _ _ _ _ => True) (fun _ U o U' => ∃ v L, o = .returned v ∧ (QE0 Z c0 c1 c2 h0 n0) v U'.heap U'.vm L ∧ ReturnedEndW U o U' L 4 8) := by
 refine MetFree.of_bodySF (plainFor_of_name pn_com_example_throttle_throttle_SipSyntaxStartsWithIgnoringAsciiCasePinLaw) hisR ?_
 intro p e s m args below meth c s₁ Bd hml0 hP hK
 obtain ⟨rfl, hZ, hh, I0⟩ := hP
 have hkeep : ∀ (b : Addr) (cl : Cell), Z.heap[b]? = some cl → s.heap[b]? = some cl := fun b cl q => by rw [hh]; exact O0.2.2 b cl q
 have wSt := own_wS hw
 have hS0 : s.Since s.vm 0 := (State.WarmedH.refl s).since 0
 have hx := Bd.exec
 have hby := Bd.bytes
 have hml : c.maxLocals = 4 := hml0
 have hown : s.vm.findClass "com/example/throttle/throttle/SipSyntaxStartsWithIgnoringAsciiCasePinLaw" = some m.cls := findClass_of_methodNamed Bd.named
 have hnm := (name_of_methodNamed Bd.named Bd.method).1
 have X0 : Stand p l e ({ frames := 3, cells := 4, slots := 8, locals := 43 } : Room) (s.setVm s.vm) m #[(.int (0 : Int32)), (.int c0), (.int c1), (.int c2)] below meth c s₁ [] 0 0 := Stand.of_body Bd
 have e0 : s₁.heap = h0 := by rw [← hh, Bd.state]; rfl
 have N0 := Fr.nil n0
 refine GoU.mk ?_
 refine GoU.st (fun t k => castTop (ef3_rmE0 m c0 c1 c2) k) ?_
 show GoU p e below s (QE0 Z c0 c1 c2 h0 n0) 4 8 (s₁.setTop (mkF m 0 (Sh15 0 c0 c1 c2) []))
 refine GoU.sg (mkF m 4 (Sh15 0 c0 c1 c2) []) (fun t k => XS.iloadN X0.here hx rfl (hb hby d3_0) rfl (XS.ifNo X0.here hx rfl (hb hby d3_1) rfl (by decide) k)) ?_
 obtain ⟨T1445, h1445, X1445, e1445, E1445, A1445, D1445, -, st1445⟩ := newO X0 hx hZ hown (ww hw 11 rfl) (ww hw 12 rfl) (ww hw 13 rfl) e0 (g := (mkF m 4 (Sh15 0 c0 c1 c2) [])) rfl (hb hby d3_4) (by decide) (by decide)
 obtain ⟨b1445, g1445⟩ : ∃ z, z = h0.size := ⟨_, rfl⟩
 rw [← g1445] at A1445 D1445 st1445
 have g_b1445 : n0 ≤ b1445 := Nat.le_trans Z0 (Nat.le_of_eq g1445.symm)
 have sz_b1445 : h0.size ≤ b1445 := Nat.le_trans (Keep.refl h0 []).1 (Nat.le_of_eq g1445.symm)
 have f1445_1 := (Keep.refl h0 []).ext E1445
 have f1445_2 := Nat.le_trans Z0 E1445.1
 have f1445_3 := Nat.le_trans (Nat.zero_le _) E1445.1
 have f1445_4 := O0.ext E1445
 have F1445value : Fld Z h1445 b1445 "java/lang/String" "value" "[B" .null := D1445 (Or.inr (ww hw 27 rfl)) (ty := (.array .byte)) (by decide)
 have F1445coder : Fld Z h1445 b1445 "java/lang/String" "coder" "B" (.int (0 : Int32)) := D1445 (Or.inr (ww hw 28 rfl)) (ty := .byte) (by decide)
 refine GoU.sg (mkF m 7 (Sh15 0 c0 c1 c2) [(.ref b1445)]) (fun t k => st1445 t k) ?_
 refine GoU.sg (mkF m 9 (Sh15 0 c0 c1 c2) [(.int 0), (.ref b1445), (.ref b1445)]) (fun t k => XS.dup X1445.here hx rfl (hb hby d3_7) rfl rfl (XS.iconst X1445.here hx rfl (hb hby d3_8) k)) ?_
 obtain ⟨T1446, h1446, k1446, X1446, e1446, E1446, A1446, st1446⟩ := newP X1445 hx hZ (ww hw 14 rfl) e1445 (g := (mkF m 9 (Sh15 0 c0 c1 c2) [(.int 0), (.ref b1445), (.ref b1445)])) rfl (hb hby d3_9) rfl (by decide) (cap := 0) (by decide) (by decide) (by decide) (by decide)
 obtain ⟨b1446, g1446⟩ : ∃ z, z = h1445.size := ⟨_, rfl⟩
 rw [← g1446] at A1446 st1446
 have ne_b1445_b1446 : b1445 ≠ b1446 := Nat.ne_of_lt (Nat.lt_of_lt_of_eq A1445.lt g1446.symm)
 have f1446_5 := f1445_1.ext E1446
 have f1446_6 := Nat.le_trans f1445_2 E1446.1
 have f1446_7 := Nat.le_trans f1445_3 E1446.1
 have f1446_8 := f1445_4.ext E1446
 have f1446_9 := A1445.ext E1446
 have f1446_10 := F1445value.ext E1446
 have f1446_11 := F1445coder.ext E1446
 have V1446 : Arv Z h1446 b1446 k1446 .char (0 : Int32) [] (.int (0 : Int32)) := (Arv.new A1446 (by decide)).pad (pad_rep [] (.int (0 : Int32)) 0)
 refine GoU.sg (mkF m 11 (Sh15 0 c0 c1 c2) [(.ref b1446), (.ref b1445), (.ref b1445)]) (fun t k => st1446 t k) ?_
 obtain ⟨_, T1447, L1447, X1447, hS1447, hZ1447, hown1447, hQ1447, st1447⟩ := own_specU X1446 hx hZ hS0 f1446_7 (y := Y4) rfl hown (ww hw 15 rfl) (ww hw 16 rfl) (ww hw 13 rfl) (ww hw 17 rfl) (by decide) 1 (a := b1445) (PV := fun vm => IB Z vm []) (rmE1 l Z a0 hw [] b1445 b1446 k1446 h1446 n0 f1446_6 f1446_9 f1446_10 f1446_11 V1446 g_b1445 ne_b1445_b1446    f1446_8 hc_7 hcw) (fun vm1 q => own_ibW I0 q.interned_eq) (by decide) (by decide) e1446 (by decide) (by decide) (g := (mkF m 11 (Sh15 0 c0 c1 c2) [(.ref b1446), (.ref b1445), (.ref b1445)])) rfl (by rw [hml]; rfl) (argsL := [(.ref b1446)]) (rest := [(.ref b1445)]) (lenOf pd_285bC29V rfl) rfl (by show 2 * 0 + _ ≤ _; exact Nat.le_of_eq rfl) (hb hby d3_11)
 obtain ⟨k1447_la, k1447_lb, k1447_kc, rfl, N1447q, K1447, p1447_0, p1447_1, p1447_2, p1447_3, p1447_4, p1447_5, p1447_6, LQ1447⟩ := hQ1447
 have N1447 := Fr.app N0 N1447q
 have f1447_12 := f1446_5.trans K1447 (allS (Or.inr sz_b1445) all0)
 refine GoU.sg (mkF m 14 (Sh15 0 c0 c1 c2) [(.ref b1445)]) (fun t k => st1447 t k) ?_
 refine GoU.retA X1447 hS1447 (Nat.le_refl _) hx Bd.returns rfl rfl rfl (hb hby d3_14) Bd.notSynchronized ?_ (by decide) (by decide)
 exact ⟨b1445, k1447_la, k1447_lb, k1447_kc, rfl, N1447, f1447_12, p1447_0, p1447_1, p1447_2, p1447_3, p1447_4, p1447_5, p1447_6, sz_b1445, Lit.stays (s := s) LQ1447 X1447.warmed.wide⟩
theorem ef5_rmW2 (m : MethodId) (a1 : Addr) (a2 : Addr) : entryFrame m #[(.ref a1), (.ref a2), (.int (0 : Int32)), (.int (0 : Int32)), .null] 6 = (mkF m 0 #[.val (.ref a1), .val (.ref a2), .val (.int 0), .val (.int 0), .val .null, .unset] []) := by first | (simp [entryFrame, mkF, argsToLocals, Value.category, maxLocals]; done) | rfl
def QW2 (Z : State) (a1 : Addr) (a2 : Addr) (la : Addr) (lb : Addr) (kc : ClassId) (h0 : Heap) (n0 : Nat) (v : Option Value) (h : Heap) (vm : Vm) (L : List Loc) : Prop := v = none ∧ Fr n0 L ∧ (Keep h0 h [a1]) ∧ (Exa Z h a1 "java/lang/String") ∧ (Fld Z h a1 "java/lang/String" "value" "[B" (.ref lb)) ∧ (Fld Z h a1 "java/lang/String" "coder" "B" (.int 0)) ∧ (Arv Z h lb kc .byte (0 : Int32) [] (.int 0))
theorem rmW2 (l : Launch) (Z : State) (a0 : Array Value) (hw : ∀ d ∈ tables_1, d.before a0 Z = true) (ws : List Jvm.Cond) (a1 : Addr) (a2 : Addr) (la : Addr) (lb : Addr) (kc : ClassId) (h0 : Heap) (n0 : Nat) (Z0 : n0 ≤ h0.size) (P0 : Exa Z h0 a1 "java/lang/String") (P1 : Fld Z h0 a1 "java/lang/String" "value" "[B" .null) (P2 : Fld Z h0 a1 "java/lang/String" "coder" "B" (.int (0 : Int32))) (P3 : Exa Z h0 la "java/lang/String") (P4 : Fld Z h0 la "java/lang/String" "value" "[B" (.ref lb)) (P5 : Fld Z h0 la "java/lang/String" "coder" "B" (.int (0 : Int32))) (P6 : Arv Z h0 lb kc .byte (0 : Int32) [] (.int (0 : Int32))) (g_a1 : n0 ≤ a1)     (O0 : Old Z n0 h0) (hc_7 : Jvm.Lit.constHeld Z "java/lang/String" 7) (hcw : Jvm.Lit.compactW.before a0 Z = true) :
    MetFree l Y5 (head1 (Jvm.Cond.code Y5 jdk_42_method_149_code 6 none :: ws) ({ frames := 1, cells := 0, slots := 0, locals := 12 } : Room)) (fun a U => a = #[(.ref a1), (.ref a2), (.int (0 : Int32)), (.int (0 : Int32)), .null] ∧ Z.Warmed39 U.vm ∧ U.heap = h0 ∧ Lit (Z.setVm U.vm) "java/lang/String" 7 la) (fun _ _ _ _ _ => True) (fun _ U o U' => ∃ v L, o = .returned v ∧ (QW2 Z a1 a2 la lb kc h0 n0) v U'.heap U'.vm L ∧ ReturnedEndW U o U' L 0 0) := by
 refine MetFree.of_bodySF (plainFor_of_name pn_java_lang_String) hisR ?_
 intro p e s m args below meth c s₁ Bd hml0 hP hK
 obtain ⟨rfl, hZ, hh, I0⟩ := hP
 have hkeep : ∀ (b : Addr) (cl : Cell), Z.heap[b]? = some cl → s.heap[b]? = some cl := fun b cl q => by rw [hh]; exact O0.2.2 b cl q
 have wSt := own_wS hw
 have hS0 : s.Since s.vm 0 := (State.WarmedH.refl s).since 0
 have hx := Bd.exec
 have hby := Bd.bytes
 have hml : c.maxLocals = 6 := hml0
 have hown : s.vm.findClass "java/lang/String" = some m.cls := findClass_of_methodNamed Bd.named
 have hnm := (name_of_methodNamed Bd.named Bd.method).1
 have X0 : Stand p l e ({ frames := 1, cells := 0, slots := 0, locals := 12 } : Room) (s.setVm s.vm) m #[(.ref a1), (.ref a2), (.int (0 : Int32)), (.int (0 : Int32)), .null] below meth c s₁ [] 0 0 := Stand.of_body Bd
 have e0 : s₁.heap = h0 := by rw [← hh, Bd.state]; rfl
 have N0 := Fr.nil n0
 refine GoU.mk ?_
 refine GoU.st (fun t k => castTop (ef5_rmW2 m a1 a2) k) ?_
 show GoU p e below s (QW2 Z a1 a2 la lb kc h0 n0) 0 0 (s₁.setTop (mkF m 0 (Sh0 a1 a2 0 0) []))
 refine GoU.sg (mkF m 1 (Sh0 a1 a2 0 0) [(.ref a1)]) (fun t k => XS.aloadN X0.here hx rfl (hb hby d5_0) rfl rfl k) ?_
 obtain ⟨T1448, X1448, e1448, st1448⟩ := initO X0 hx hZ hown (ww hw 22 rfl) (ww hw 23 rfl) (ww hw 24 rfl) e0 (g := (mkF m 1 (Sh0 a1 a2 0 0) [(.ref a1)])) rfl (by rw [hml]; rfl) rfl (hb hby d5_1) (by decide) (W := 0) (by show 2 * 0 + _ ≤ _; exact Nat.le_of_eq rfl) (by decide)
 refine GoU.sg (mkF m 4 (Sh0 a1 a2 0 0) []) (fun t k => st1448 t k) ?_
 refine GoU.sg (mkF m 9 (Sh0 a1 a2 0 0) [(.ref a1)]) (fun t k => XS.iloadN X1448.here hx rfl (hb hby d5_4) rfl (XS.ifNo X1448.here hx rfl (hb hby d5_5) rfl (by decide) (XS.aloadN X1448.here hx rfl (hb hby d5_8) rfl rfl k))) ?_
 refine GoU.sg (mkF m 11 (Sh0 a1 a2 0 0) [(.ref la), (.ref a1)]) (fun t k => ldcAgain X1448 hx hZ hown (ww hw 25 rfl) I0 (g := (mkF m 9 (Sh0 a1 a2 0 0) [(.ref a1)])) rfl (hb hby d5_9) t k) ?_
 obtain ⟨T1450, X1450, e1450, st1450⟩ := getF X1448 hx hZ hown (host := "") (Or.inl (ww hw 31 rfl)) Via.refl e1448 P4 (g := (mkF m 11 (Sh0 a1 a2 0 0) [(.ref la), (.ref a1)])) rfl rfl (hb hby d5_11)
 refine GoU.sg (mkF m 14 (Sh0 a1 a2 0 0) [(.ref lb), (.ref a1)]) (fun t k => st1450 t k) ?_
 have ne_la : la ≠ a1 := Fld.ne P4 P1 (by simp)
 have ne_lb : a1 ≠ lb := Exa.neArv P0 P6 (ww hw 12 rfl)
 obtain ⟨T1451, h1451, X1451, e1451, W1451, st1451⟩ := putF X1450 hx hZ hown (host := "") (Or.inl (ww hw 31 rfl)) Via.refl e1450 P1 P0 (Or.inr ⟨(ww hw 27 rfl), rfl, hnm⟩) (ww hw 12 rfl) (ty := (.array .byte)) (by decide) rfl rfl (g := (mkF m 14 (Sh0 a1 a2 0 0) [(.ref lb), (.ref a1)])) rfl rfl (hb hby d5_14)
 have N1451 := Fr.snoc X1451 N0 g_a1
 have f1451_1 := P0.wr W1451
 have f1451_2 := P2.other W1451 (Or.inr (slot_ne (t := .byte) (t' := (.array .byte)) (Or.inr (ww hw 28 rfl)) (Or.inr (ww hw 27 rfl)) (by decide) (by decide) (by decide)))
 have f1451_5 := P5.other W1451 (Or.inl ne_la)
 have f1451_6 := P6.other W1451 (Ne.symm ne_lb)
 have f1451_7 := (Keep.refl h0 [a1]).wr W1451 (Or.inl (List.mem_of_getElem? (i := 0) rfl))
 have f1451_9 := Nat.le_trans (Nat.zero_le _) (Nat.le_of_eq W1451.size.symm)
 have F1451value : Fld Z h1451 a1 "java/lang/String" "value" "[B" (.ref lb) := P1.same W1451
 refine GoU.sg (mkF m 17 (Sh0 a1 a2 0 0) []) (fun t k => st1451 t k) ?_
 refine GoU.sg (mkF m 18 (Sh0 a1 a2 0 0) [(.ref a1)]) (fun t k => XS.aloadN X1451.here hx rfl (hb hby d5_17) rfl rfl k) ?_
 refine GoU.sg (mkF m 20 (Sh0 a1 a2 0 0) [(.ref la), (.ref a1)]) (fun t k => ldcAgain X1451 hx hZ hown (ww hw 25 rfl) I0 (g := (mkF m 18 (Sh0 a1 a2 0 0) [(.ref a1)])) rfl (hb hby d5_18) t k) ?_
 obtain ⟨T1453, X1453, e1453, st1453⟩ := getF X1451 hx hZ hown (host := "") (Or.inl (ww hw 32 rfl)) Via.refl e1451 f1451_5 (g := (mkF m 20 (Sh0 a1 a2 0 0) [(.ref la), (.ref a1)])) rfl rfl (hb hby d5_20)
 refine GoU.sg (mkF m 23 (Sh0 a1 a2 0 0) [(.int 0), (.ref a1)]) (fun t k => st1453 t k) ?_
 obtain ⟨T1454, h1454, X1454, e1454, W1454, st1454⟩ := putF X1453 hx hZ hown (host := "") (Or.inl (ww hw 32 rfl)) Via.refl e1453 f1451_2 f1451_1 (Or.inr ⟨(ww hw 28 rfl), rfl, hnm⟩) (ww hw 12 rfl) (ty := .byte) (by decide) rfl rfl (g := (mkF m 23 (Sh0 a1 a2 0 0) [(.int 0), (.ref a1)])) rfl rfl (hb hby d5_23)
 have N1454 := Fr.snoc X1454 N1451 g_a1
 have f1454_11 := f1451_1.wr W1454
 have f1454_12 := F1451value.other W1454 (Or.inr (slot_ne (t := (.array .byte)) (t' := .byte) (Or.inr (ww hw 27 rfl)) (Or.inr (ww hw 28 rfl)) (by decide) (by decide) (by decide)))
 have f1454_16 := f1451_6.other W1454 (Ne.symm ne_lb)
 have f1454_17 := f1451_7.wr W1454 (Or.inl (List.mem_of_getElem? (i := 0) rfl))
 have f1454_19 := Nat.le_trans f1451_9 (Nat.le_of_eq W1454.size.symm)
 have F1454coder : Fld Z h1454 a1 "java/lang/String" "coder" "B" (.int (0 : Int32)) := f1451_2.same W1454
 refine GoU.sg (mkF m 26 (Sh0 a1 a2 0 0) []) (fun t k => st1454 t k) ?_
 refine GoU.retV X1454 hS0 (by rw [e1454]; exact f1454_19) hx Bd.returns (hb hby d5_26) Bd.notSynchronized ?_ (by decide) (by decide)
 rw [e1454]
 exact ⟨rfl, N1454, f1454_17, f1454_11, f1454_12, F1454coder, f1454_16⟩
theorem ef4_rmW1 (m : MethodId) (a1 : Addr) (a2 : Addr) : entryFrame m #[(.ref a1), (.ref a2)] 2 = (mkF m 0 #[.val (.ref a1), .val (.ref a2)] []) := by first | (simp [entryFrame, mkF, argsToLocals, Value.category, maxLocals]; done) | rfl
def QW1 (Z : State) (a1 : Addr) (a2 : Addr) (ka2 : ClassId) (la : Addr) (lb : Addr) (kc : ClassId) (h0 : Heap) (n0 : Nat) (v : Option Value) (h : Heap) (vm : Vm) (L : List Loc) : Prop := v = none ∧ Fr n0 L ∧ (Keep h0 h [a1]) ∧ (Exa Z h a1 "java/lang/String") ∧ (Fld Z h a1 "java/lang/String" "value" "[B" (.ref lb)) ∧ (Fld Z h a1 "java/lang/String" "coder" "B" (.int 0)) ∧ (Arv Z h lb kc .byte (0 : Int32) [] (.int 0))
theorem rmW1 (l : Launch) (Z : State) (a0 : Array Value) (hw : ∀ d ∈ tables_1, d.before a0 Z = true) (ws : List Jvm.Cond) (a1 : Addr) (a2 : Addr) (ka2 : ClassId) (la : Addr) (lb : Addr) (kc : ClassId) (h0 : Heap) (n0 : Nat) (Z0 : n0 ≤ h0.size) (P0 : Exa Z h0 a1 "java/lang/String") (P1 : Fld Z h0 a1 "java/lang/String" "value" "[B" .null) (P2 : Fld Z h0 a1 "java/lang/String" "coder" "B" (.int (0 : Int32))) (P3 : Arv Z h0 a2 ka2 .char (0 : Int32) [] (.int (0 : Int32))) (P4 : Exa Z h0 la "java/lang/String") (P5 : Fld Z h0 la "java/lang/String" "value" "[B" (.ref lb)) (P6 : Fld Z h0 la "java/lang/String" "coder" "B" (.int (0 : Int32))) (P7 : Arv Z h0 lb kc .byte (0 : Int32) [] (.int (0 : Int32))) (g_a1 : n0 ≤ a1) (ne_a1_a2 : a1 ≠ a2)    (O0 : Old Z n0 h0) (hc_7 : Jvm.Lit.constHeld Z "java/lang/String" 7) (hcw : Jvm.Lit.compactW.before a0 Z = true) :
    MetFree l Y4 (head1 (Jvm.Cond.code Y4 jdk_42_method_3_code 2 none :: ws) ({ frames := 2, cells := 0, slots := 0, locals := 29 } : Room)) (fun a U => a = #[(.ref a1), (.ref a2)] ∧ Z.Warmed39 U.vm ∧ U.heap = h0 ∧ Lit (Z.setVm U.vm) "java/lang/String" 7 la) (fun _ _ _ _ _ => True) (fun _ U o U' => ∃ v L, o = .returned v ∧ (QW1 Z a1 a2 ka2 la lb kc h0 n0) v U'.heap U'.vm L ∧ ReturnedEndW U o U' L 0 0) := by
 refine MetFree.of_bodySF (plainFor_of_name pn_java_lang_String) hisR ?_
 intro p e s m args below meth c s₁ Bd hml0 hP hK
 obtain ⟨rfl, hZ, hh, I0⟩ := hP
 have hkeep : ∀ (b : Addr) (cl : Cell), Z.heap[b]? = some cl → s.heap[b]? = some cl := fun b cl q => by rw [hh]; exact O0.2.2 b cl q
 have wSt := own_wS hw
 have hS0 : s.Since s.vm 0 := (State.WarmedH.refl s).since 0
 have hx := Bd.exec
 have hby := Bd.bytes
 have hml : c.maxLocals = 2 := hml0
 have hown : s.vm.findClass "java/lang/String" = some m.cls := findClass_of_methodNamed Bd.named
 have hnm := (name_of_methodNamed Bd.named Bd.method).1
 have X0 : Stand p l e ({ frames := 2, cells := 0, slots := 0, locals := 29 } : Room) (s.setVm s.vm) m #[(.ref a1), (.ref a2)] below meth c s₁ [] 0 0 := Stand.of_body Bd
 have e0 : s₁.heap = h0 := by rw [← hh, Bd.state]; rfl
 have N0 := Fr.nil n0
 refine GoU.mk ?_
 refine GoU.st (fun t k => castTop (ef4_rmW1 m a1 a2) k) ?_
 show GoU p e below s (QW1 Z a1 a2 ka2 la lb kc h0 n0) 0 0 (s₁.setTop (mkF m 0 #[.val (.ref a1), .val (.ref a2)] []))
 refine GoU.sg (mkF m 4 #[.val (.ref a1), .val (.ref a2)] [(.ref a2), (.int 0), (.ref a2), (.ref a1)]) (fun t k => XS.aloadN X0.here hx rfl (hb hby d4_0) rfl rfl (XS.aloadN X0.here hx rfl (hb hby d4_1) rfl rfl (XS.iconst X0.here hx rfl (hb hby d4_2) (XS.aloadN X0.here hx rfl (hb hby d4_3) rfl rfl k)))) ?_
 obtain ⟨cl1455, Ar1455, q1455, Sz1455, Nn1455, Hh1455, Gg1455⟩ := id P3
 have st1455 := X0.arraylength hx (hq_ e0 Ar1455.1) (State.isArrayOf_alike hZ.alike Ar1455.2.1) (g := (mkF m 4 #[.val (.ref a1), .val (.ref a2)] [(.ref a2), (.int 0), (.ref a2), (.ref a1)])) rfl rfl (hb hby d4_4)
 rw [len_of Sz1455 Nn1455] at st1455
 refine GoU.sg (mkF m 5 #[.val (.ref a1), .val (.ref a2)] [(.int 0), (.int 0), (.ref a2), (.ref a1)]) (fun t k => st1455 t k) ?_
 refine GoU.sg (mkF m 6 #[.val (.ref a1), .val (.ref a2)] [.null, (.int 0), (.int 0), (.ref a2), (.ref a1)]) (fun t k => XS.aconstNull X0.here hx rfl (hb hby d4_5) k) ?_
 obtain ⟨_, T1456, L1456, X1456, hS1456, hZ1456, hown1456, hQ1456, st1456⟩ := own_specU X0 hx hZ hS0 (Nat.zero_le _) (y := Y5) rfl hown (ww hw 18 rfl) (ww hw 19 rfl) (ww hw 13 rfl) (ww hw 21 rfl) (by decide) 0 (a := a1) (PV := fun vm => Lit (Z.setVm vm) "java/lang/String" 7 la) (rmW2 l Z a0 hw [] a1 a2 la lb kc h0 n0 Z0 P0 P1 P2 P4 P5 P6 P7 g_a1     O0 hc_7 hcw) (fun vm1 q => Lit.stays (s := s) I0 q.wide) (by decide) (by decide) e0 (by decide) (by decide) (g := (mkF m 6 #[.val (.ref a1), .val (.ref a2)] [.null, (.int 0), (.int 0), (.ref a2), (.ref a1)])) rfl (by rw [hml]; rfl) (argsL := [(.ref a2), (.int (0 : Int32)), (.int (0 : Int32)), .null]) (rest := []) (lenOf pd_285bCIILjava2flang2fVoid3b29V rfl) rfl (by show 2 * 0 + _ ≤ _; exact Nat.le_of_eq rfl) (hb hby d4_6)
 obtain ⟨rfl, N1456q, K1456, p1456_0, p1456_1, p1456_2, p1456_3⟩ := hQ1456
 have N1456 := Fr.app N0 N1456q
 have f1456_3 := (Keep.refl h0 [a1]).trans K1456 (allS (Or.inl (List.mem_of_getElem? (i := 0) rfl)) all0)
 refine GoU.sg (mkF m 9 #[.val (.ref a1), .val (.ref a2)] []) (fun t k => st1456 t k) ?_
 refine GoU.retV X1456 hS1456 (Nat.le_refl _) hx Bd.returns (hb hby d4_9) Bd.notSynchronized ?_ (by decide) (by decide)
 exact ⟨rfl, N1456, f1456_3, p1456_0, p1456_1, p1456_2, p1456_3⟩
theorem ef3_rmW0 (m : MethodId) (c0 : Int32) (c1 : Int32) (c2 : Int32) : entryFrame m #[(.int (0 : Int32)), (.int c0), (.int c1), (.int c2)] 4 = (mkF m 0 #[.val (.int 0), .val (.int c0), .val (.int c1), .val (.int c2)] []) := by first | (simp [entryFrame, mkF, argsToLocals, Value.category, maxLocals]; done) | rfl
def QW0 (Z : State) (c0 : Int32) (c1 : Int32) (c2 : Int32) (la : Addr) (lb : Addr) (kc : ClassId) (h0 : Heap) (n0 : Nat) (v : Option Value) (h : Heap) (vm : Vm) (L : List Loc) : Prop := ∃ e0 : Addr, v = some (.ref e0) ∧ Fr n0 L ∧ (Keep h0 h []) ∧ (Exa Z h e0 "java/lang/String") ∧ (Fld Z h e0 "java/lang/String" "value" "[B" (.ref lb)) ∧ (Fld Z h e0 "java/lang/String" "coder" "B" (.int 0)) ∧ (Arv Z h lb kc .byte (0 : Int32) [] (.int 0)) ∧ (h0.size ≤ e0)
theorem rmW0 (l : Launch) (Z : State) (a0 : Array Value) (hw : ∀ d ∈ tables_1, d.before a0 Z = true) (ws : List Jvm.Cond) (c0 : Int32) (c1 : Int32) (c2 : Int32) (la : Addr) (lb : Addr) (kc : ClassId) (h0 : Heap) (n0 : Nat) (Z0 : n0 ≤ h0.size) (P0 : Exa Z h0 la "java/lang/String") (P1 : Fld Z h0 la "java/lang/String" "value" "[B" (.ref lb)) (P2 : Fld Z h0 la "java/lang/String" "coder" "B" (.int (0 : Int32))) (P3 : Arv Z h0 lb kc .byte (0 : Int32) [] (.int (0 : Int32)))      (O0 : Old Z n0 h0) (hc_7 : Jvm.Lit.constHeld Z "java/lang/String" 7) (hcw : Jvm.Lit.compactW.before a0 Z = true) :
    MetFree l Y3 (head1 (Jvm.Cond.code Y3 method_6_code 4 (some (.object "java/lang/String")) :: ws) ({ frames := 3, cells := 2, slots := 4, locals := 43 } : Room)) (fun a U => a = #[(.int (0 : Int32)), (.int c0), (.int c1), (.int c2)] ∧ Z.Warmed39 U.vm ∧ U.heap = h0 ∧ Lit (Z.setVm U.vm) "java/lang/String" 7 la) (fun _ _ _ _ _ => True) (fun _ U o U' => ∃ v L, o = .returned v ∧ (QW0 Z c0 c1 c2 la lb kc h0 n0) v U'.heap U'.vm L ∧ ReturnedEndW U o U' L 2 4) := by
 refine MetFree.of_bodySF (plainFor_of_name pn_com_example_throttle_throttle_SipSyntaxStartsWithIgnoringAsciiCasePinLaw) hisR ?_
 intro p e s m args below meth c s₁ Bd hml0 hP hK
 obtain ⟨rfl, hZ, hh, I0⟩ := hP
 have hkeep : ∀ (b : Addr) (cl : Cell), Z.heap[b]? = some cl → s.heap[b]? = some cl := fun b cl q => by rw [hh]; exact O0.2.2 b cl q
 have wSt := own_wS hw
 have hS0 : s.Since s.vm 0 := (State.WarmedH.refl s).since 0
 have hx := Bd.exec
 have hby := Bd.bytes
 have hml : c.maxLocals = 4 := hml0
 have hown : s.vm.findClass "com/example/throttle/throttle/SipSyntaxStartsWithIgnoringAsciiCasePinLaw" = some m.cls := findClass_of_methodNamed Bd.named
 have hnm := (name_of_methodNamed Bd.named Bd.method).1
 have X0 : Stand p l e ({ frames := 3, cells := 2, slots := 4, locals := 43 } : Room) (s.setVm s.vm) m #[(.int (0 : Int32)), (.int c0), (.int c1), (.int c2)] below meth c s₁ [] 0 0 := Stand.of_body Bd
 have e0 : s₁.heap = h0 := by rw [← hh, Bd.state]; rfl
 have N0 := Fr.nil n0
 refine GoU.mk ?_
 refine GoU.st (fun t k => castTop (ef3_rmW0 m c0 c1 c2) k) ?_
 show GoU p e below s (QW0 Z c0 c1 c2 la lb kc h0 n0) 2 4 (s₁.setTop (mkF m 0 (Sh15 0 c0 c1 c2) []))
 refine GoU.sg (mkF m 4 (Sh15 0 c0 c1 c2) []) (fun t k => XS.iloadN X0.here hx rfl (hb hby d3_0) rfl (XS.ifNo X0.here hx rfl (hb hby d3_1) rfl (by decide) k)) ?_
 obtain ⟨T1457, h1457, X1457, e1457, E1457, A1457, D1457, -, st1457⟩ := newO X0 hx hZ hown (ww hw 11 rfl) (ww hw 12 rfl) (ww hw 13 rfl) e0 (g := (mkF m 4 (Sh15 0 c0 c1 c2) [])) rfl (hb hby d3_4) (by decide) (by decide)
 obtain ⟨b1457, g1457⟩ : ∃ z, z = h0.size := ⟨_, rfl⟩
 rw [← g1457] at A1457 D1457 st1457
 have g_b1457 : n0 ≤ b1457 := Nat.le_trans Z0 (Nat.le_of_eq g1457.symm)
 have sz_b1457 : h0.size ≤ b1457 := Nat.le_trans (Keep.refl h0 []).1 (Nat.le_of_eq g1457.symm)
 have f1457_1 := P0.ext E1457
 have f1457_2 := P1.ext E1457
 have f1457_3 := P2.ext E1457
 have f1457_4 := P3.ext E1457
 have f1457_5 := (Keep.refl h0 []).ext E1457
 have f1457_6 := Nat.le_trans Z0 E1457.1
 have f1457_7 := Nat.le_trans (Nat.zero_le _) E1457.1
 have f1457_8 := O0.ext E1457
 have F1457value : Fld Z h1457 b1457 "java/lang/String" "value" "[B" .null := D1457 (Or.inr (ww hw 27 rfl)) (ty := (.array .byte)) (by decide)
 have F1457coder : Fld Z h1457 b1457 "java/lang/String" "coder" "B" (.int (0 : Int32)) := D1457 (Or.inr (ww hw 28 rfl)) (ty := .byte) (by decide)
 refine GoU.sg (mkF m 7 (Sh15 0 c0 c1 c2) [(.ref b1457)]) (fun t k => st1457 t k) ?_
 refine GoU.sg (mkF m 9 (Sh15 0 c0 c1 c2) [(.int 0), (.ref b1457), (.ref b1457)]) (fun t k => XS.dup X1457.here hx rfl (hb hby d3_7) rfl rfl (XS.iconst X1457.here hx rfl (hb hby d3_8) k)) ?_
 obtain ⟨T1458, h1458, k1458, X1458, e1458, E1458, A1458, st1458⟩ := newP X1457 hx hZ (ww hw 14 rfl) e1457 (g := (mkF m 9 (Sh15 0 c0 c1 c2) [(.int 0), (.ref b1457), (.ref b1457)])) rfl (hb hby d3_9) rfl (by decide) (cap := 0) (by decide) (by decide) (by decide) (by decide)
 obtain ⟨b1458, g1458⟩ : ∃ z, z = h1457.size := ⟨_, rfl⟩
 rw [← g1458] at A1458 st1458
 have ne_b1457_b1458 : b1457 ≠ b1458 := Nat.ne_of_lt (Nat.lt_of_lt_of_eq A1457.lt g1458.symm)
 have f1458_9 := f1457_1.ext E1458
 have f1458_10 := f1457_2.ext E1458
 have f1458_11 := f1457_3.ext E1458
 have f1458_12 := f1457_4.ext E1458
 have f1458_13 := f1457_5.ext E1458
 have f1458_14 := Nat.le_trans f1457_6 E1458.1
 have f1458_15 := Nat.le_trans f1457_7 E1458.1
 have f1458_16 := f1457_8.ext E1458
 have f1458_17 := A1457.ext E1458
 have f1458_18 := F1457value.ext E1458
 have f1458_19 := F1457coder.ext E1458
 have V1458 : Arv Z h1458 b1458 k1458 .char (0 : Int32) [] (.int (0 : Int32)) := (Arv.new A1458 (by decide)).pad (pad_rep [] (.int (0 : Int32)) 0)
 refine GoU.sg (mkF m 11 (Sh15 0 c0 c1 c2) [(.ref b1458), (.ref b1457), (.ref b1457)]) (fun t k => st1458 t k) ?_
 obtain ⟨_, T1459, L1459, X1459, hS1459, hZ1459, hown1459, hQ1459, st1459⟩ := own_specU X1458 hx hZ hS0 f1458_15 (y := Y4) rfl hown (ww hw 15 rfl) (ww hw 16 rfl) (ww hw 13 rfl) (ww hw 17 rfl) (by decide) 1 (a := b1457) (PV := fun vm => Lit (Z.setVm vm) "java/lang/String" 7 la) (rmW1 l Z a0 hw [] b1457 b1458 k1458 la lb kc h1458 n0 f1458_14 f1458_17 f1458_18 f1458_19 V1458 f1458_9 f1458_10 f1458_11 f1458_12 g_b1457 ne_b1457_b1458    f1458_16 hc_7 hcw) (fun vm1 q => Lit.stays (s := s) I0 q.wide) (by decide) (by decide) e1458 (by decide) (by decide) (g := (mkF m 11 (Sh15 0 c0 c1 c2) [(.ref b1458), (.ref b1457), (.ref b1457)])) rfl (by rw [hml]; rfl) (argsL := [(.ref b1458)]) (rest := [(.ref b1457)]) (lenOf pd_285bC29V rfl) rfl (by show 2 * 0 + _ ≤ _; exact Nat.le_of_eq rfl) (hb hby d3_11)
 obtain ⟨rfl, N1459q, K1459, p1459_0, p1459_1, p1459_2, p1459_3⟩ := hQ1459
 have N1459 := Fr.app N0 N1459q
 have f1459_23 := f1458_13.trans K1459 (allS (Or.inr sz_b1457) all0)
 refine GoU.sg (mkF m 14 (Sh15 0 c0 c1 c2) [(.ref b1457)]) (fun t k => st1459 t k) ?_
 refine GoU.retA X1459 hS1459 (Nat.le_refl _) hx Bd.returns rfl rfl rfl (hb hby d3_14) Bd.notSynchronized ?_ (by decide) (by decide)
 exact ⟨b1457, rfl, N1459, f1459_23, p1459_0, p1459_1, p1459_2, p1459_3, sz_b1457⟩
def QW00 (Z : State) (a1 : Addr) (a2 : Addr) (cs : Int32) (vf : Value) (h0 : Heap) (n0 : Nat) (v : Option Value) (h : Heap) (L : List Loc) : Prop := v = some (.int 1) ∧ Fr n0 L ∧ (h = h0)
theorem rmW00 (l : Launch) (Z : State) (a0 : Array Value) (hw : HW a0 Z) (a1 : Addr) (a2 : Addr) (cs : Int32) (vf : Value) (h0 : Heap) (n0 : Nat) (P0 : Exa Z h0 a1 "java/lang/String") (P1 : Exa Z h0 a2 "java/lang/String") (P2 : Sta Z h0 "java/lang/String" "COMPACT_STRINGS" "Z" (.int cs)) (P3 : Sta Z h0 "java/lang/StringUTF16" "$assertionsDisabled" "Z" (.int 1)) (P4 : Sta Z h0 "java/lang/StringUTF16" "HI_BYTE_SHIFT" "I" (.int 0)) (P5 : Sta Z h0 "java/lang/StringUTF16" "LO_BYTE_SHIFT" "I" (.int 8)) (P6 : Sta Z h0 "jdk/internal/util/Preconditions" "SIOOBE_FORMATTER" "Ljava/util/function/BiFunction;" vf) (hS1 : Str0 Z h0 a1 ) (hS2 : Str0 Z h0 a2 ) (hvf : vf.isRef = true) (ncs : ¬ (cs = (0 : Int32))) :
  MM l Z Y7 prog_10_method_5_code 5 (some .boolean) 5 0 0 67 #[(.ref a1), (.ref a2)] h0 (QW00 Z a1 a2 cs vf h0 n0) := by
 refine own_start (fun m => (mkF m 0 (Sh16 a1 a2) [])) (plainFor_of_name pn_com_example_throttle_throttle_SipSyntax) (by simp [entryFrame, mkF, argsToLocals, Value.category]) n0 ?_
 intro p e s m below meth c s₁ Bd hx hby hml hZ hown hnm X0 e0 N0
 refine GoW.sg (mkF m 1 (Sh16 a1 a2) [(.ref a1)]) (fun t k => XS.aloadN X0.here hx rfl (hb hby d7_0) rfl rfl k) ?_
 obtain ⟨_, T1602, L1602, X1602, hQ1602, st1602⟩ := own_virt X0 hx hZ (y := Y8) hown (ww hw 37 rfl) (ww hw 38 rfl) (ww hw 40 rfl) (ww hw 39 rfl) (ww hw 41 rfl) (ww hw 13 rfl) (by decide) 0 (a := a1) (rmLen0 l Z a0 hw a1  cs h0 n0 P0 hS1 P2 ncs) (by decide) (by decide) e0 P0 (by decide) (by decide) (g := (mkF m 1 (Sh16 a1 a2) [(.ref a1)])) rfl (by rw [hml]; rfl) (argsL := []) (rest := []) (lenOf pd_2829I rfl) rfl (by show 2 * 0 + _ ≤ _; exact Nat.le_of_eq rfl) (hb hby d7_1)
 obtain ⟨rfl, N1602q, e1602⟩ := hQ1602
 have N1602 := Fr.app N0 N1602q
 refine GoW.sg (mkF m 4 (Sh16 a1 a2) [(.int 0)]) (fun t k => st1602 t k) ?_
 refine GoW.sg (mkF m 5 (Sh16 a1 a2) [(.ref a2), (.int 0)]) (fun t k => XS.aloadN X1602.here hx rfl (hb hby d7_4) rfl rfl k) ?_
 obtain ⟨_, T1603, L1603, X1603, hQ1603, st1603⟩ := own_virt X1602 hx hZ (y := Y8) hown (ww hw 37 rfl) (ww hw 38 rfl) (ww hw 40 rfl) (ww hw 39 rfl) (ww hw 41 rfl) (ww hw 13 rfl) (by decide) 1 (a := a2) (rmLen0 l Z a0 hw a2  cs h0 n0 P1 hS2 P2 ncs) (by decide) (by decide) e1602 P1 (by decide) (by decide) (g := (mkF m 5 (Sh16 a1 a2) [(.ref a2), (.int 0)])) rfl (by rw [hml]; rfl) (argsL := []) (rest := [(.int (0 : Int32))]) (lenOf pd_2829I rfl) rfl (by show 2 * 0 + _ ≤ _; exact Nat.le_of_eq rfl) (hb hby d7_5)
 obtain ⟨rfl, N1603q, e1603⟩ := hQ1603
 have N1603 := Fr.app N1602 N1603q
 refine GoW.sg (mkF m 8 (Sh16 a1 a2) [(.int 0), (.int 0)]) (fun t k => st1603 t k) ?_
 refine GoW.sg (mkF m 17 (Sh17 a1 a2 0) [(.ref a2), (.int 0)]) (fun t k => XS.icmpYes X1603.here hx rfl (pc0 := 8) (pc' := 13) rfl (hb hby d7_8) rfl (by decide) (by decide) (by decide) (XS.iconst X1603.here hx rfl (hb hby d7_13) (XS.istoreN X1603.here hx rfl (hb hby d7_14) rfl (l' := (Sh17 a1 a2 0)) rfl (XS.iloadN X1603.here hx rfl (hb hby d7_15) rfl (XS.aloadN X1603.here hx rfl (hb hby d7_16) rfl rfl k))))) ?_
 obtain ⟨_, T1604, L1604, X1604, hQ1604, st1604⟩ := own_virt X1603 hx hZ (y := Y8) hown (ww hw 37 rfl) (ww hw 38 rfl) (ww hw 40 rfl) (ww hw 39 rfl) (ww hw 41 rfl) (ww hw 13 rfl) (by decide) 1 (a := a2) (rmLen0 l Z a0 hw a2  cs h0 n0 P1 hS2 P2 ncs) (by decide) (by decide) e1603 P1 (by decide) (by decide) (g := (mkF m 17 (Sh17 a1 a2 0) [(.ref a2), (.int 0)])) rfl (by rw [hml]; rfl) (argsL := []) (rest := [(.int (0 : Int32))]) (lenOf pd_2829I rfl) rfl (by show 2 * 0 + _ ≤ _; exact Nat.le_of_eq rfl) (hb hby d7_17)
 obtain ⟨rfl, N1604q, e1604⟩ := hQ1604
 have N1604 := Fr.app N1603 N1604q
 refine GoW.sg (mkF m 20 (Sh17 a1 a2 0) [(.int 0), (.int 0)]) (fun t k => st1604 t k) ?_
 refine GoW.sg (mkF m 71 (Sh17 a1 a2 0) [(.int 1)]) (fun t k => XS.icmpYes X1604.here hx rfl (pc0 := 20) (pc' := 70) rfl (hb hby d7_20) rfl (by decide) (by decide) (by decide) (XS.iconst X1604.here hx rfl (hb hby d7_70) k)) ?_
 refine GoW.retN X1604 hx (t := .boolean) Bd.returns (by simp) (hb hby d7_71) Bd.notSynchronized ?_ (by decide) (by decide)
 rw [e1604]
 exact ⟨rfl, N1604, rfl⟩
def QW01 (Z : State) (a1 : Addr) (a2 : Addr) (y0 : Int32) (cs : Int32) (vf : Value) (h0 : Heap) (n0 : Nat) (v : Option Value) (h : Heap) (L : List Loc) : Prop := v = some (.int 0) ∧ Fr n0 L ∧ (h = h0)
theorem rmW01 (l : Launch) (Z : State) (a0 : Array Value) (hw : HW a0 Z) (a1 : Addr) (a2 : Addr) (y0 : Int32) (cs : Int32) (vf : Value) (h0 : Heap) (n0 : Nat) (P0 : Exa Z h0 a1 "java/lang/String") (P1 : Exa Z h0 a2 "java/lang/String") (P2 : Sta Z h0 "java/lang/String" "COMPACT_STRINGS" "Z" (.int cs)) (P3 : Sta Z h0 "java/lang/StringUTF16" "$assertionsDisabled" "Z" (.int 1)) (P4 : Sta Z h0 "java/lang/StringUTF16" "HI_BYTE_SHIFT" "I" (.int 0)) (P5 : Sta Z h0 "java/lang/StringUTF16" "LO_BYTE_SHIFT" "I" (.int 8)) (P6 : Sta Z h0 "jdk/internal/util/Preconditions" "SIOOBE_FORMATTER" "Ljava/util/function/BiFunction;" vf) (hS1 : Str0 Z h0 a1 ) (hS2 : Str1 Z h0 a2 y0) (hvf : vf.isRef = true) (lo_y0 : ¬ (y0 < (0 : Int32))) (hi_y0 : ¬ ((65535 : Int32) < y0)) (ncs : ¬ (cs = (0 : Int32))) :
  MM l Z Y7 prog_10_method_5_code 5 (some .boolean) 5 0 0 67 #[(.ref a1), (.ref a2)] h0 (QW01 Z a1 a2 y0 cs vf h0 n0) := by
 refine own_start (fun m => (mkF m 0 (Sh16 a1 a2) [])) (plainFor_of_name pn_com_example_throttle_throttle_SipSyntax) (by simp [entryFrame, mkF, argsToLocals, Value.category]) n0 ?_
 intro p e s m below meth c s₁ Bd hx hby hml hZ hown hnm X0 e0 N0
 refine GoW.sg (mkF m 1 (Sh16 a1 a2) [(.ref a1)]) (fun t k => XS.aloadN X0.here hx rfl (hb hby d7_0) rfl rfl k) ?_
 obtain ⟨_, T1605, L1605, X1605, hQ1605, st1605⟩ := own_virt X0 hx hZ (y := Y8) hown (ww hw 37 rfl) (ww hw 38 rfl) (ww hw 40 rfl) (ww hw 39 rfl) (ww hw 41 rfl) (ww hw 13 rfl) (by decide) 0 (a := a1) (rmLen0 l Z a0 hw a1  cs h0 n0 P0 hS1 P2 ncs) (by decide) (by decide) e0 P0 (by decide) (by decide) (g := (mkF m 1 (Sh16 a1 a2) [(.ref a1)])) rfl (by rw [hml]; rfl) (argsL := []) (rest := []) (lenOf pd_2829I rfl) rfl (by show 2 * 0 + _ ≤ _; exact Nat.le_of_eq rfl) (hb hby d7_1)
 obtain ⟨rfl, N1605q, e1605⟩ := hQ1605
 have N1605 := Fr.app N0 N1605q
 refine GoW.sg (mkF m 4 (Sh16 a1 a2) [(.int 0)]) (fun t k => st1605 t k) ?_
 refine GoW.sg (mkF m 5 (Sh16 a1 a2) [(.ref a2), (.int 0)]) (fun t k => XS.aloadN X1605.here hx rfl (hb hby d7_4) rfl rfl k) ?_
 obtain ⟨_, T1606, L1606, X1606, hQ1606, st1606⟩ := own_virt X1605 hx hZ (y := Y8) hown (ww hw 37 rfl) (ww hw 38 rfl) (ww hw 40 rfl) (ww hw 39 rfl) (ww hw 41 rfl) (ww hw 13 rfl) (by decide) 1 (a := a2) (rmLen1 l Z a0 hw a2 y0 cs h0 n0 P1 hS2 P2 ncs) (by decide) (by decide) e1605 P1 (by decide) (by decide) (g := (mkF m 5 (Sh16 a1 a2) [(.ref a2), (.int 0)])) rfl (by rw [hml]; rfl) (argsL := []) (rest := [(.int (0 : Int32))]) (lenOf pd_2829I rfl) rfl (by show 2 * 0 + _ ≤ _; exact Nat.le_of_eq rfl) (hb hby d7_5)
 obtain ⟨rfl, N1606q, e1606⟩ := hQ1606
 have N1606 := Fr.app N1605 N1606q
 refine GoW.sg (mkF m 8 (Sh16 a1 a2) [(.int 1), (.int 0)]) (fun t k => st1606 t k) ?_
 refine GoW.sg (mkF m 12 (Sh16 a1 a2) [(.int 0)]) (fun t k => XS.icmpNo X1606.here hx rfl (hb hby d7_8) rfl (by decide) (XS.iconst X1606.here hx rfl (hb hby d7_11) k)) ?_
 refine GoW.retN X1606 hx (t := .boolean) Bd.returns (by simp) (hb hby d7_12) Bd.notSynchronized ?_ (by decide) (by decide)
 rw [e1606]
 exact ⟨rfl, N1606, rfl⟩
def QW02 (Z : State) (a1 : Addr) (a2 : Addr) (y0 : Int32) (y1 : Int32) (cs : Int32) (vf : Value) (h0 : Heap) (n0 : Nat) (v : Option Value) (h : Heap) (L : List Loc) : Prop := v = some (.int 0) ∧ Fr n0 L ∧ (h = h0)
theorem rmW02 (l : Launch) (Z : State) (a0 : Array Value) (hw : HW a0 Z) (a1 : Addr) (a2 : Addr) (y0 : Int32) (y1 : Int32) (cs : Int32) (vf : Value) (h0 : Heap) (n0 : Nat) (P0 : Exa Z h0 a1 "java/lang/String") (P1 : Exa Z h0 a2 "java/lang/String") (P2 : Sta Z h0 "java/lang/String" "COMPACT_STRINGS" "Z" (.int cs)) (P3 : Sta Z h0 "java/lang/StringUTF16" "$assertionsDisabled" "Z" (.int 1)) (P4 : Sta Z h0 "java/lang/StringUTF16" "HI_BYTE_SHIFT" "I" (.int 0)) (P5 : Sta Z h0 "java/lang/StringUTF16" "LO_BYTE_SHIFT" "I" (.int 8)) (P6 : Sta Z h0 "jdk/internal/util/Preconditions" "SIOOBE_FORMATTER" "Ljava/util/function/BiFunction;" vf) (hS1 : Str0 Z h0 a1 ) (hS2 : Str2 Z h0 a2 y0 y1) (hvf : vf.isRef = true) (lo_y0 : ¬ (y0 < (0 : Int32))) (hi_y0 : ¬ ((65535 : Int32) < y0)) (lo_y1 : ¬ (y1 < (0 : Int32))) (hi_y1 : ¬ ((65535 : Int32) < y1)) (ncs : ¬ (cs = (0 : Int32))) :
  MM l Z Y7 prog_10_method_5_code 5 (some .boolean) 5 0 0 67 #[(.ref a1), (.ref a2)] h0 (QW02 Z a1 a2 y0 y1 cs vf h0 n0) := by
 refine own_start (fun m => (mkF m 0 (Sh16 a1 a2) [])) (plainFor_of_name pn_com_example_throttle_throttle_SipSyntax) (by simp [entryFrame, mkF, argsToLocals, Value.category]) n0 ?_
 intro p e s m below meth c s₁ Bd hx hby hml hZ hown hnm X0 e0 N0
 refine GoW.sg (mkF m 1 (Sh16 a1 a2) [(.ref a1)]) (fun t k => XS.aloadN X0.here hx rfl (hb hby d7_0) rfl rfl k) ?_
 obtain ⟨_, T1607, L1607, X1607, hQ1607, st1607⟩ := own_virt X0 hx hZ (y := Y8) hown (ww hw 37 rfl) (ww hw 38 rfl) (ww hw 40 rfl) (ww hw 39 rfl) (ww hw 41 rfl) (ww hw 13 rfl) (by decide) 0 (a := a1) (rmLen0 l Z a0 hw a1  cs h0 n0 P0 hS1 P2 ncs) (by decide) (by decide) e0 P0 (by decide) (by decide) (g := (mkF m 1 (Sh16 a1 a2) [(.ref a1)])) rfl (by rw [hml]; rfl) (argsL := []) (rest := []) (lenOf pd_2829I rfl) rfl (by show 2 * 0 + _ ≤ _; exact Nat.le_of_eq rfl) (hb hby d7_1)
 obtain ⟨rfl, N1607q, e1607⟩ := hQ1607
 have N1607 := Fr.app N0 N1607q
 refine GoW.sg (mkF m 4 (Sh16 a1 a2) [(.int 0)]) (fun t k => st1607 t k) ?_
 refine GoW.sg (mkF m 5 (Sh16 a1 a2) [(.ref a2), (.int 0)]) (fun t k => XS.aloadN X1607.here hx rfl (hb hby d7_4) rfl rfl k) ?_
 obtain ⟨_, T1608, L1608, X1608, hQ1608, st1608⟩ := own_virt X1607 hx hZ (y := Y8) hown (ww hw 37 rfl) (ww hw 38 rfl) (ww hw 40 rfl) (ww hw 39 rfl) (ww hw 41 rfl) (ww hw 13 rfl) (by decide) 1 (a := a2) (rmLen2 l Z a0 hw a2 y0 y1 cs h0 n0 P1 hS2 P2 ncs) (by decide) (by decide) e1607 P1 (by decide) (by decide) (g := (mkF m 5 (Sh16 a1 a2) [(.ref a2), (.int 0)])) rfl (by rw [hml]; rfl) (argsL := []) (rest := [(.int (0 : Int32))]) (lenOf pd_2829I rfl) rfl (by show 2 * 0 + _ ≤ _; exact Nat.le_of_eq rfl) (hb hby d7_5)
 obtain ⟨rfl, N1608q, e1608⟩ := hQ1608
 have N1608 := Fr.app N1607 N1608q
 refine GoW.sg (mkF m 8 (Sh16 a1 a2) [(.int 2), (.int 0)]) (fun t k => st1608 t k) ?_
 refine GoW.sg (mkF m 12 (Sh16 a1 a2) [(.int 0)]) (fun t k => XS.icmpNo X1608.here hx rfl (hb hby d7_8) rfl (by decide) (XS.iconst X1608.here hx rfl (hb hby d7_11) k)) ?_
 refine GoW.retN X1608 hx (t := .boolean) Bd.returns (by simp) (hb hby d7_12) Bd.notSynchronized ?_ (by decide) (by decide)
 rw [e1608]
 exact ⟨rfl, N1608, rfl⟩
def QW03 (Z : State) (a1 : Addr) (a2 : Addr) (y0 : Int32) (y1 : Int32) (y2 : Int32) (cs : Int32) (vf : Value) (h0 : Heap) (n0 : Nat) (v : Option Value) (h : Heap) (L : List Loc) : Prop := v = some (.int 0) ∧ Fr n0 L ∧ (h = h0)
theorem rmW03 (l : Launch) (Z : State) (a0 : Array Value) (hw : HW a0 Z) (a1 : Addr) (a2 : Addr) (y0 : Int32) (y1 : Int32) (y2 : Int32) (cs : Int32) (vf : Value) (h0 : Heap) (n0 : Nat) (P0 : Exa Z h0 a1 "java/lang/String") (P1 : Exa Z h0 a2 "java/lang/String") (P2 : Sta Z h0 "java/lang/String" "COMPACT_STRINGS" "Z" (.int cs)) (P3 : Sta Z h0 "java/lang/StringUTF16" "$assertionsDisabled" "Z" (.int 1)) (P4 : Sta Z h0 "java/lang/StringUTF16" "HI_BYTE_SHIFT" "I" (.int 0)) (P5 : Sta Z h0 "java/lang/StringUTF16" "LO_BYTE_SHIFT" "I" (.int 8)) (P6 : Sta Z h0 "jdk/internal/util/Preconditions" "SIOOBE_FORMATTER" "Ljava/util/function/BiFunction;" vf) (hS1 : Str0 Z h0 a1 ) (hS2 : Str3 Z h0 a2 y0 y1 y2) (hvf : vf.isRef = true) (lo_y0 : ¬ (y0 < (0 : Int32))) (hi_y0 : ¬ ((65535 : Int32) < y0)) (lo_y1 : ¬ (y1 < (0 : Int32))) (hi_y1 : ¬ ((65535 : Int32) < y1)) (lo_y2 : ¬ (y2 < (0 : Int32))) (hi_y2 : ¬ ((65535 : Int32) < y2)) (ncs : ¬ (cs = (0 : Int32))) :
  MM l Z Y7 prog_10_method_5_code 5 (some .boolean) 5 0 0 67 #[(.ref a1), (.ref a2)] h0 (QW03 Z a1 a2 y0 y1 y2 cs vf h0 n0) := by
 refine own_start (fun m => (mkF m 0 (Sh16 a1 a2) [])) (plainFor_of_name pn_com_example_throttle_throttle_SipSyntax) (by simp [entryFrame, mkF, argsToLocals, Value.category]) n0 ?_
 intro p e s m below meth c s₁ Bd hx hby hml hZ hown hnm X0 e0 N0
 refine GoW.sg (mkF m 1 (Sh16 a1 a2) [(.ref a1)]) (fun t k => XS.aloadN X0.here hx rfl (hb hby d7_0) rfl rfl k) ?_
 obtain ⟨_, T1609, L1609, X1609, hQ1609, st1609⟩ := own_virt X0 hx hZ (y := Y8) hown (ww hw 37 rfl) (ww hw 38 rfl) (ww hw 40 rfl) (ww hw 39 rfl) (ww hw 41 rfl) (ww hw 13 rfl) (by decide) 0 (a := a1) (rmLen0 l Z a0 hw a1  cs h0 n0 P0 hS1 P2 ncs) (by decide) (by decide) e0 P0 (by decide) (by decide) (g := (mkF m 1 (Sh16 a1 a2) [(.ref a1)])) rfl (by rw [hml]; rfl) (argsL := []) (rest := []) (lenOf pd_2829I rfl) rfl (by show 2 * 0 + _ ≤ _; exact Nat.le_of_eq rfl) (hb hby d7_1)
 obtain ⟨rfl, N1609q, e1609⟩ := hQ1609
 have N1609 := Fr.app N0 N1609q
 refine GoW.sg (mkF m 4 (Sh16 a1 a2) [(.int 0)]) (fun t k => st1609 t k) ?_
 refine GoW.sg (mkF m 5 (Sh16 a1 a2) [(.ref a2), (.int 0)]) (fun t k => XS.aloadN X1609.here hx rfl (hb hby d7_4) rfl rfl k) ?_
 obtain ⟨_, T1610, L1610, X1610, hQ1610, st1610⟩ := own_virt X1609 hx hZ (y := Y8) hown (ww hw 37 rfl) (ww hw 38 rfl) (ww hw 40 rfl) (ww hw 39 rfl) (ww hw 41 rfl) (ww hw 13 rfl) (by decide) 1 (a := a2) (rmLen3 l Z a0 hw a2 y0 y1 y2 cs h0 n0 P1 hS2 P2 ncs) (by decide) (by decide) e1609 P1 (by decide) (by decide) (g := (mkF m 5 (Sh16 a1 a2) [(.ref a2), (.int 0)])) rfl (by rw [hml]; rfl) (argsL := []) (rest := [(.int (0 : Int32))]) (lenOf pd_2829I rfl) rfl (by show 2 * 0 + _ ≤ _; exact Nat.le_of_eq rfl) (hb hby d7_5)
 obtain ⟨rfl, N1610q, e1610⟩ := hQ1610
 have N1610 := Fr.app N1609 N1610q
 refine GoW.sg (mkF m 8 (Sh16 a1 a2) [(.int 3), (.int 0)]) (fun t k => st1610 t k) ?_
 refine GoW.sg (mkF m 12 (Sh16 a1 a2) [(.int 0)]) (fun t k => XS.icmpNo X1610.here hx rfl (hb hby d7_8) rfl (by decide) (XS.iconst X1610.here hx rfl (hb hby d7_11) k)) ?_
 refine GoW.retN X1610 hx (t := .boolean) Bd.returns (by simp) (hb hby d7_12) Bd.notSynchronized ?_ (by decide) (by decide)
 rw [e1610]
 exact ⟨rfl, N1610, rfl⟩
def QW10 (Z : State) (a1 : Addr) (a2 : Addr) (x0 : Int32) (cs : Int32) (vf : Value) (h0 : Heap) (n0 : Nat) (v : Option Value) (h : Heap) (L : List Loc) : Prop := v = some (.int 1) ∧ Fr n0 L ∧ (h = h0)
theorem rmW10 (l : Launch) (Z : State) (a0 : Array Value) (hw : HW a0 Z) (a1 : Addr) (a2 : Addr) (x0 : Int32) (cs : Int32) (vf : Value) (h0 : Heap) (n0 : Nat) (P0 : Exa Z h0 a1 "java/lang/String") (P1 : Exa Z h0 a2 "java/lang/String") (P2 : Sta Z h0 "java/lang/String" "COMPACT_STRINGS" "Z" (.int cs)) (P3 : Sta Z h0 "java/lang/StringUTF16" "$assertionsDisabled" "Z" (.int 1)) (P4 : Sta Z h0 "java/lang/StringUTF16" "HI_BYTE_SHIFT" "I" (.int 0)) (P5 : Sta Z h0 "java/lang/StringUTF16" "LO_BYTE_SHIFT" "I" (.int 8)) (P6 : Sta Z h0 "jdk/internal/util/Preconditions" "SIOOBE_FORMATTER" "Ljava/util/function/BiFunction;" vf) (hS1 : Str1 Z h0 a1 x0) (hS2 : Str0 Z h0 a2 ) (hvf : vf.isRef = true) (lo_x0 : ¬ (x0 < (0 : Int32))) (hi_x0 : ¬ ((65535 : Int32) < x0)) (ncs : ¬ (cs = (0 : Int32))) :
  MM l Z Y7 prog_10_method_5_code 5 (some .boolean) 5 0 0 67 #[(.ref a1), (.ref a2)] h0 (QW10 Z a1 a2 x0 cs vf h0 n0) := by
 refine own_start (fun m => (mkF m 0 (Sh16 a1 a2) [])) (plainFor_of_name pn_com_example_throttle_throttle_SipSyntax) (by simp [entryFrame, mkF, argsToLocals, Value.category]) n0 ?_
 intro p e s m below meth c s₁ Bd hx hby hml hZ hown hnm X0 e0 N0
 refine GoW.sg (mkF m 1 (Sh16 a1 a2) [(.ref a1)]) (fun t k => XS.aloadN X0.here hx rfl (hb hby d7_0) rfl rfl k) ?_
 obtain ⟨_, T1611, L1611, X1611, hQ1611, st1611⟩ := own_virt X0 hx hZ (y := Y8) hown (ww hw 37 rfl) (ww hw 38 rfl) (ww hw 40 rfl) (ww hw 39 rfl) (ww hw 41 rfl) (ww hw 13 rfl) (by decide) 0 (a := a1) (rmLen1 l Z a0 hw a1 x0 cs h0 n0 P0 hS1 P2 ncs) (by decide) (by decide) e0 P0 (by decide) (by decide) (g := (mkF m 1 (Sh16 a1 a2) [(.ref a1)])) rfl (by rw [hml]; rfl) (argsL := []) (rest := []) (lenOf pd_2829I rfl) rfl (by show 2 * 0 + _ ≤ _; exact Nat.le_of_eq rfl) (hb hby d7_1)
 obtain ⟨rfl, N1611q, e1611⟩ := hQ1611
 have N1611 := Fr.app N0 N1611q
 refine GoW.sg (mkF m 4 (Sh16 a1 a2) [(.int 1)]) (fun t k => st1611 t k) ?_
 refine GoW.sg (mkF m 5 (Sh16 a1 a2) [(.ref a2), (.int 1)]) (fun t k => XS.aloadN X1611.here hx rfl (hb hby d7_4) rfl rfl k) ?_
 obtain ⟨_, T1612, L1612, X1612, hQ1612, st1612⟩ := own_virt X1611 hx hZ (y := Y8) hown (ww hw 37 rfl) (ww hw 38 rfl) (ww hw 40 rfl) (ww hw 39 rfl) (ww hw 41 rfl) (ww hw 13 rfl) (by decide) 1 (a := a2) (rmLen0 l Z a0 hw a2  cs h0 n0 P1 hS2 P2 ncs) (by decide) (by decide) e1611 P1 (by decide) (by decide) (g := (mkF m 5 (Sh16 a1 a2) [(.ref a2), (.int 1)])) rfl (by rw [hml]; rfl) (argsL := []) (rest := [(.int (1 : Int32))]) (lenOf pd_2829I rfl) rfl (by show 2 * 0 + _ ≤ _; exact Nat.le_of_eq rfl) (hb hby d7_5)
 obtain ⟨rfl, N1612q, e1612⟩ := hQ1612
 have N1612 := Fr.app N1611 N1612q
 refine GoW.sg (mkF m 8 (Sh16 a1 a2) [(.int 0), (.int 1)]) (fun t k => st1612 t k) ?_
 refine GoW.sg (mkF m 17 (Sh17 a1 a2 0) [(.ref a2), (.int 0)]) (fun t k => XS.icmpYes X1612.here hx rfl (pc0 := 8) (pc' := 13) rfl (hb hby d7_8) rfl (by decide) (by decide) (by decide) (XS.iconst X1612.here hx rfl (hb hby d7_13) (XS.istoreN X1612.here hx rfl (hb hby d7_14) rfl (l' := (Sh17 a1 a2 0)) rfl (XS.iloadN X1612.here hx rfl (hb hby d7_15) rfl (XS.aloadN X1612.here hx rfl (hb hby d7_16) rfl rfl k))))) ?_
 obtain ⟨_, T1613, L1613, X1613, hQ1613, st1613⟩ := own_virt X1612 hx hZ (y := Y8) hown (ww hw 37 rfl) (ww hw 38 rfl) (ww hw 40 rfl) (ww hw 39 rfl) (ww hw 41 rfl) (ww hw 13 rfl) (by decide) 1 (a := a2) (rmLen0 l Z a0 hw a2  cs h0 n0 P1 hS2 P2 ncs) (by decide) (by decide) e1612 P1 (by decide) (by decide) (g := (mkF m 17 (Sh17 a1 a2 0) [(.ref a2), (.int 0)])) rfl (by rw [hml]; rfl) (argsL := []) (rest := [(.int (0 : Int32))]) (lenOf pd_2829I rfl) rfl (by show 2 * 0 + _ ≤ _; exact Nat.le_of_eq rfl) (hb hby d7_17)
 obtain ⟨rfl, N1613q, e1613⟩ := hQ1613
 have N1613 := Fr.app N1612 N1613q
 refine GoW.sg (mkF m 20 (Sh17 a1 a2 0) [(.int 0), (.int 0)]) (fun t k => st1613 t k) ?_
 refine GoW.sg (mkF m 71 (Sh17 a1 a2 0) [(.int 1)]) (fun t k => XS.icmpYes X1613.here hx rfl (pc0 := 20) (pc' := 70) rfl (hb hby d7_20) rfl (by decide) (by decide) (by decide) (XS.iconst X1613.here hx rfl (hb hby d7_70) k)) ?_
 refine GoW.retN X1613 hx (t := .boolean) Bd.returns (by simp) (hb hby d7_71) Bd.notSynchronized ?_ (by decide) (by decide)
 rw [e1613]
 exact ⟨rfl, N1613, rfl⟩
def FW11_1 (x0 : Int32) (y0 : Int32) (cs : Int32) (b1620 : Int32) : Int32 := (if b1620 = y0 then (1 : Int32) else (0 : Int32))
def FW11 (x0 : Int32) (y0 : Int32) (cs : Int32) : Int32 := (FW11_1 x0 y0 cs (if x0 < (65 : Int32) then x0 else (if (90 : Int32) < x0 then x0 else (x0 + (32 : Int32)).toUInt32.toUInt16.toUInt32.toInt32)))
def QW11 (Z : State) (a1 : Addr) (a2 : Addr) (x0 : Int32) (y0 : Int32) (cs : Int32) (vf : Value) (h0 : Heap) (n0 : Nat) (v : Option Value) (h : Heap) (L : List Loc) : Prop := v = some (.int (FW11 x0 y0 cs)) ∧ Fr n0 L ∧ (h = h0)
theorem rmW11 (l : Launch) (Z : State) (a0 : Array Value) (hw : HW a0 Z) (a1 : Addr) (a2 : Addr) (x0 : Int32) (y0 : Int32) (cs : Int32) (vf : Value) (h0 : Heap) (n0 : Nat) (P0 : Exa Z h0 a1 "java/lang/String") (P1 : Exa Z h0 a2 "java/lang/String") (P2 : Sta Z h0 "java/lang/String" "COMPACT_STRINGS" "Z" (.int cs)) (P3 : Sta Z h0 "java/lang/StringUTF16" "$assertionsDisabled" "Z" (.int 1)) (P4 : Sta Z h0 "java/lang/StringUTF16" "HI_BYTE_SHIFT" "I" (.int 0)) (P5 : Sta Z h0 "java/lang/StringUTF16" "LO_BYTE_SHIFT" "I" (.int 8)) (P6 : Sta Z h0 "jdk/internal/util/Preconditions" "SIOOBE_FORMATTER" "Ljava/util/function/BiFunction;" vf) (hS1 : Str1 Z h0 a1 x0) (hS2 : Str1 Z h0 a2 y0) (hvf : vf.isRef = true) (lo_x0 : ¬ (x0 < (0 : Int32))) (hi_x0 : ¬ ((65535 : Int32) < x0)) (lo_y0 : ¬ (y0 < (0 : Int32))) (hi_y0 : ¬ ((65535 : Int32) < y0)) (ncs : ¬ (cs = (0 : Int32))) :
  MM l Z Y7 prog_10_method_5_code 5 (some .boolean) 5 0 0 67 #[(.ref a1), (.ref a2)] h0 (QW11 Z a1 a2 x0 y0 cs vf h0 n0) := by
 refine own_start (fun m => (mkF m 0 (Sh16 a1 a2) [])) (plainFor_of_name pn_com_example_throttle_throttle_SipSyntax) (by simp [entryFrame, mkF, argsToLocals, Value.category]) n0 ?_
 intro p e s m below meth c s₁ Bd hx hby hml hZ hown hnm X0 e0 N0
 refine GoW.sg (mkF m 1 (Sh16 a1 a2) [(.ref a1)]) (fun t k => XS.aloadN X0.here hx rfl (hb hby d7_0) rfl rfl k) ?_
 obtain ⟨_, T1614, L1614, X1614, hQ1614, st1614⟩ := own_virt X0 hx hZ (y := Y8) hown (ww hw 37 rfl) (ww hw 38 rfl) (ww hw 40 rfl) (ww hw 39 rfl) (ww hw 41 rfl) (ww hw 13 rfl) (by decide) 0 (a := a1) (rmLen1 l Z a0 hw a1 x0 cs h0 n0 P0 hS1 P2 ncs) (by decide) (by decide) e0 P0 (by decide) (by decide) (g := (mkF m 1 (Sh16 a1 a2) [(.ref a1)])) rfl (by rw [hml]; rfl) (argsL := []) (rest := []) (lenOf pd_2829I rfl) rfl (by show 2 * 0 + _ ≤ _; exact Nat.le_of_eq rfl) (hb hby d7_1)
 obtain ⟨rfl, N1614q, e1614⟩ := hQ1614
 have N1614 := Fr.app N0 N1614q
 refine GoW.sg (mkF m 4 (Sh16 a1 a2) [(.int 1)]) (fun t k => st1614 t k) ?_
 refine GoW.sg (mkF m 5 (Sh16 a1 a2) [(.ref a2), (.int 1)]) (fun t k => XS.aloadN X1614.here hx rfl (hb hby d7_4) rfl rfl k) ?_
 obtain ⟨_, T1615, L1615, X1615, hQ1615, st1615⟩ := own_virt X1614 hx hZ (y := Y8) hown (ww hw 37 rfl) (ww hw 38 rfl) (ww hw 40 rfl) (ww hw 39 rfl) (ww hw 41 rfl) (ww hw 13 rfl) (by decide) 1 (a := a2) (rmLen1 l Z a0 hw a2 y0 cs h0 n0 P1 hS2 P2 ncs) (by decide) (by decide) e1614 P1 (by decide) (by decide) (g := (mkF m 5 (Sh16 a1 a2) [(.ref a2), (.int 1)])) rfl (by rw [hml]; rfl) (argsL := []) (rest := [(.int (1 : Int32))]) (lenOf pd_2829I rfl) rfl (by show 2 * 0 + _ ≤ _; exact Nat.le_of_eq rfl) (hb hby d7_5)
 obtain ⟨rfl, N1615q, e1615⟩ := hQ1615
 have N1615 := Fr.app N1614 N1615q
 refine GoW.sg (mkF m 8 (Sh16 a1 a2) [(.int 1), (.int 1)]) (fun t k => st1615 t k) ?_
 refine GoW.sg (mkF m 17 (Sh17 a1 a2 0) [(.ref a2), (.int 0)]) (fun t k => XS.icmpYes X1615.here hx rfl (pc0 := 8) (pc' := 13) rfl (hb hby d7_8) rfl (by decide) (by decide) (by decide) (XS.iconst X1615.here hx rfl (hb hby d7_13) (XS.istoreN X1615.here hx rfl (hb hby d7_14) rfl (l' := (Sh17 a1 a2 0)) rfl (XS.iloadN X1615.here hx rfl (hb hby d7_15) rfl (XS.aloadN X1615.here hx rfl (hb hby d7_16) rfl rfl k))))) ?_
 obtain ⟨_, T1616, L1616, X1616, hQ1616, st1616⟩ := own_virt X1615 hx hZ (y := Y8) hown (ww hw 37 rfl) (ww hw 38 rfl) (ww hw 40 rfl) (ww hw 39 rfl) (ww hw 41 rfl) (ww hw 13 rfl) (by decide) 1 (a := a2) (rmLen1 l Z a0 hw a2 y0 cs h0 n0 P1 hS2 P2 ncs) (by decide) (by decide) e1615 P1 (by decide) (by decide) (g := (mkF m 17 (Sh17 a1 a2 0) [(.ref a2), (.int 0)])) rfl (by rw [hml]; rfl) (argsL := []) (rest := [(.int (0 : Int32))]) (lenOf pd_2829I rfl) rfl (by show 2 * 0 + _ ≤ _; exact Nat.le_of_eq rfl) (hb hby d7_17)
 obtain ⟨rfl, N1616q, e1616⟩ := hQ1616
 have N1616 := Fr.app N1615 N1616q
 refine GoW.sg (mkF m 20 (Sh17 a1 a2 0) [(.int 1), (.int 0)]) (fun t k => st1616 t k) ?_
 refine GoW.sg (mkF m 25 (Sh17 a1 a2 0) [(.int 0), (.ref a1)]) (fun t k => XS.icmpNo X1616.here hx rfl (hb hby d7_20) rfl (by decide) (XS.aloadN X1616.here hx rfl (hb hby d7_23) rfl rfl (XS.iloadN X1616.here hx rfl (hb hby d7_24) rfl k))) ?_
 obtain ⟨_, T1617, L1617, X1617, hQ1617, st1617⟩ := own_virt X1616 hx hZ (y := Y19) hown (ww hw 80 rfl) (ww hw 81 rfl) (ww hw 83 rfl) (ww hw 82 rfl) (ww hw 84 rfl) (ww hw 13 rfl) (by decide) 0 (a := a1) (rmCh10 l Z a0 hw a1 x0 cs vf h0 n0 P0 hS1 P2 P3 P4 P5 P6 hvf lo_x0 hi_x0 ncs) (by decide) (by decide) e1616 P0 (by decide) (by decide) (g := (mkF m 25 (Sh17 a1 a2 0) [(.int 0), (.ref a1)])) rfl (by rw [hml]; rfl) (argsL := [(.int (0 : Int32))]) (rest := []) (lenOf pd_28I29C rfl) rfl (by show 2 * 0 + _ ≤ _; exact Nat.le_of_eq rfl) (hb hby d7_25)
 obtain ⟨rfl, N1617q, e1617⟩ := hQ1617
 have N1617 := Fr.app N1616 N1617q
 refine GoW.sg (mkF m 28 (Sh17 a1 a2 0) [(.int x0)]) (fun t k => st1617 t k) ?_
 refine GoW.sg (mkF m 32 (Sh18 a1 a2 0 x0) [(.int 65), (.int x0)]) (fun t k => XS.istoreN X1617.here hx rfl (hb hby d7_28) rfl (l' := (Sh18 a1 a2 0 x0)) rfl (XS.iloadN X1617.here hx rfl (hb hby d7_29) rfl (XS.bipush X1617.here hx rfl (hb hby d7_30) k))) ?_
 have J50_1621 : ∀ b1620 : Int32, b1620 = (if x0 < (65 : Int32) then x0 else (if (90 : Int32) < x0 then x0 else (x0 + (32 : Int32)).toUInt32.toUInt16.toUInt32.toInt32)) → GoW p e below s (QW11 Z a1 a2 x0 y0 cs vf h0 n0) 0 0 (T1617.setTop (mkF m 50 (Sh18 a1 a2 0 x0) [(.int b1620)])) := by
  intro b1620 hb1620
  have hFb1620 : (FW11 x0 y0 cs) = (FW11_1 x0 y0 cs b1620) := by unfold FW11; rw [hb1620]
  refine GoW.sg (mkF m 56 (Sh19 a1 a2 0 x0 b1620) [(.int 0), (.ref a2), (.int b1620)]) (fun t k => XS.istore X1617.here hx rfl (hb hby d7_50) rfl (l' := (Sh19 a1 a2 0 x0 b1620)) rfl (XS.iload X1617.here hx rfl (hb hby d7_52) rfl (XS.aloadN X1617.here hx rfl (hb hby d7_54) rfl rfl (XS.iloadN X1617.here hx rfl (hb hby d7_55) rfl k)))) ?_
  obtain ⟨_, T1624, L1624, X1624, hQ1624, st1624⟩ := own_virt X1617 hx hZ (y := Y19) hown (ww hw 80 rfl) (ww hw 81 rfl) (ww hw 83 rfl) (ww hw 82 rfl) (ww hw 84 rfl) (ww hw 13 rfl) (by decide) 1 (a := a2) (rmCh10 l Z a0 hw a2 y0 cs vf h0 n0 P1 hS2 P2 P3 P4 P5 P6 hvf lo_y0 hi_y0 ncs) (by decide) (by decide) e1617 P1 (by decide) (by decide) (g := (mkF m 56 (Sh19 a1 a2 0 x0 b1620) [(.int 0), (.ref a2), (.int b1620)])) rfl (by rw [hml]; rfl) (argsL := [(.int (0 : Int32))]) (rest := [(.int b1620)]) (lenOf pd_28I29C rfl) rfl (by show 2 * 0 + _ ≤ _; exact Nat.le_of_eq rfl) (hb hby d7_56)
  obtain ⟨rfl, N1624q, e1624⟩ := hQ1624
  have N1624 := Fr.app N1617 N1624q
  refine GoW.sg (mkF m 59 (Sh19 a1 a2 0 x0 b1620) [(.int y0), (.int b1620)]) (fun t k => st1624 t k) ?_
  by_cases c1625 : b1620 = y0
  ·refine GoW.sg (mkF m 17 (Sh19 a1 a2 1 x0 b1620) [(.ref a2), (.int 1)]) (fun t k => XS.icmpYes X1624.here hx rfl (pc0 := 59) (pc' := 64) rfl (hb hby d7_59) rfl (teq c1625).1 (by decide) (by decide) (XS.iinc X1624.here hx rfl (hb hby d7_64) rfl (l' := (Sh19 a1 a2 1 x0 b1620)) rfl (XS.goto X1624.here hx rfl (pc0 := 67) (pc' := 15) rfl (hb hby d7_67) (by decide) (by decide) (XS.iloadN X1624.here hx rfl (hb hby d7_15) rfl (XS.aloadN X1624.here hx rfl (hb hby d7_16) rfl rfl k))))) ?_
   obtain ⟨_, T1626, L1626, X1626, hQ1626, st1626⟩ := own_virt X1624 hx hZ (y := Y8) hown (ww hw 37 rfl) (ww hw 38 rfl) (ww hw 40 rfl) (ww hw 39 rfl) (ww hw 41 rfl) (ww hw 13 rfl) (by decide) 1 (a := a2) (rmLen1 l Z a0 hw a2 y0 cs h0 n0 P1 hS2 P2 ncs) (by decide) (by decide) e1624 P1 (by decide) (by decide) (g := (mkF m 17 (Sh19 a1 a2 1 x0 b1620) [(.ref a2), (.int 1)])) rfl (by rw [hml]; rfl) (argsL := []) (rest := [(.int (1 : Int32))]) (lenOf pd_2829I rfl) rfl (by show 2 * 0 + _ ≤ _; exact Nat.le_of_eq rfl) (hb hby d7_17)
   obtain ⟨rfl, N1626q, e1626⟩ := hQ1626
   have N1626 := Fr.app N1624 N1626q
   refine GoW.sg (mkF m 20 (Sh19 a1 a2 1 x0 b1620) [(.int 1), (.int 1)]) (fun t k => st1626 t k) ?_
   refine GoW.sg (mkF m 71 (Sh19 a1 a2 1 x0 b1620) [(.int 1)]) (fun t k => XS.icmpYes X1626.here hx rfl (pc0 := 20) (pc' := 70) rfl (hb hby d7_20) rfl (by decide) (by decide) (by decide) (XS.iconst X1626.here hx rfl (hb hby d7_70) k)) ?_
   refine GoW.retN X1626 hx (t := .boolean) Bd.returns (by simp) (hb hby d7_71) Bd.notSynchronized ?_ (by decide) (by decide)
   rw [e1626]
   have hq : (FW11 x0 y0 cs) = (1 : Int32) := by rw [hFb1620]; unfold FW11_1; rw [if_pos c1625]; try rfl
   exact ⟨by rw [hq] <;> rfl, N1626, rfl⟩
  ·refine GoW.sg (mkF m 63 (Sh19 a1 a2 0 x0 b1620) [(.int 0)]) (fun t k => XS.icmpNo X1624.here hx rfl (hb hby d7_59) rfl (feq c1625).1 (XS.iconst X1624.here hx rfl (hb hby d7_62) k)) ?_
   refine GoW.retN X1624 hx (t := .boolean) Bd.returns (by simp) (hb hby d7_63) Bd.notSynchronized ?_ (by decide) (by decide)
   rw [e1624]
   have hq : (FW11 x0 y0 cs) = (0 : Int32) := by rw [hFb1620]; unfold FW11_1; rw [if_neg c1625]; try rfl
   exact ⟨by rw [hq] <;> rfl, N1624, rfl⟩
 by_cases c1622 : x0 < (65 : Int32)
 ·refine GoW.sg (mkF m 50 (Sh18 a1 a2 0 x0) [(.int x0)]) (fun t k => XS.icmpYes X1617.here hx rfl (pc0 := 32) (pc' := 49) rfl (hb hby d7_32) rfl (tlt c1622).1 (by decide) (by decide) (XS.iloadN X1617.here hx rfl (hb hby d7_49) rfl k)) ?_
  exact J50_1621 _ (by rw [if_pos c1622])
 ·refine GoW.sg (mkF m 38 (Sh18 a1 a2 0 x0) [(.int 90), (.int x0)]) (fun t k => XS.icmpNo X1617.here hx rfl (hb hby d7_32) rfl (flt c1622).1 (XS.iloadN X1617.here hx rfl (hb hby d7_35) rfl (XS.bipush X1617.here hx rfl (hb hby d7_36) k))) ?_
  by_cases c1623 : (90 : Int32) < x0
  ·refine GoW.sg (mkF m 50 (Sh18 a1 a2 0 x0) [(.int x0)]) (fun t k => XS.icmpYes X1617.here hx rfl (pc0 := 38) (pc' := 49) rfl (hb hby d7_38) rfl (tlt c1623).2.2.1 (by decide) (by decide) (XS.iloadN X1617.here hx rfl (hb hby d7_49) rfl k)) ?_
   exact J50_1621 _ (by rw [if_neg c1622, if_pos c1623])
  ·refine GoW.sg (mkF m 50 (Sh18 a1 a2 0 x0) [(.int (x0 + (32 : Int32)).toUInt32.toUInt16.toUInt32.toInt32)]) (fun t k => XS.icmpNo X1617.here hx rfl (hb hby d7_38) rfl (flt c1623).2.2.1 (XS.iloadN X1617.here hx rfl (hb hby d7_41) rfl (XS.bipush X1617.here hx rfl (hb hby d7_42) (XS.iadd X1617.here hx rfl (hb hby d7_44) rfl (XS.i2c X1617.here hx rfl (hb hby d7_45) rfl (XS.goto X1617.here hx rfl (pc0 := 46) (pc' := 50) rfl (hb hby d7_46) (by decide) (by decide) k)))))) ?_
   exact J50_1621 _ (by rw [if_neg c1622, if_neg c1623])
def QW12 (Z : State) (a1 : Addr) (a2 : Addr) (x0 : Int32) (y0 : Int32) (y1 : Int32) (cs : Int32) (vf : Value) (h0 : Heap) (n0 : Nat) (v : Option Value) (h : Heap) (L : List Loc) : Prop := v = some (.int 0) ∧ Fr n0 L ∧ (h = h0)
theorem rmW12 (l : Launch) (Z : State) (a0 : Array Value) (hw : HW a0 Z) (a1 : Addr) (a2 : Addr) (x0 : Int32) (y0 : Int32) (y1 : Int32) (cs : Int32) (vf : Value) (h0 : Heap) (n0 : Nat) (P0 : Exa Z h0 a1 "java/lang/String") (P1 : Exa Z h0 a2 "java/lang/String") (P2 : Sta Z h0 "java/lang/String" "COMPACT_STRINGS" "Z" (.int cs)) (P3 : Sta Z h0 "java/lang/StringUTF16" "$assertionsDisabled" "Z" (.int 1)) (P4 : Sta Z h0 "java/lang/StringUTF16" "HI_BYTE_SHIFT" "I" (.int 0)) (P5 : Sta Z h0 "java/lang/StringUTF16" "LO_BYTE_SHIFT" "I" (.int 8)) (P6 : Sta Z h0 "jdk/internal/util/Preconditions" "SIOOBE_FORMATTER" "Ljava/util/function/BiFunction;" vf) (hS1 : Str1 Z h0 a1 x0) (hS2 : Str2 Z h0 a2 y0 y1) (hvf : vf.isRef = true) (lo_x0 : ¬ (x0 < (0 : Int32))) (hi_x0 : ¬ ((65535 : Int32) < x0)) (lo_y0 : ¬ (y0 < (0 : Int32))) (hi_y0 : ¬ ((65535 : Int32) < y0)) (lo_y1 : ¬ (y1 < (0 : Int32))) (hi_y1 : ¬ ((65535 : Int32) < y1)) (ncs : ¬ (cs = (0 : Int32))) :
  MM l Z Y7 prog_10_method_5_code 5 (some .boolean) 5 0 0 67 #[(.ref a1), (.ref a2)] h0 (QW12 Z a1 a2 x0 y0 y1 cs vf h0 n0) := by
 refine own_start (fun m => (mkF m 0 (Sh16 a1 a2) [])) (plainFor_of_name pn_com_example_throttle_throttle_SipSyntax) (by simp [entryFrame, mkF, argsToLocals, Value.category]) n0 ?_
 intro p e s m below meth c s₁ Bd hx hby hml hZ hown hnm X0 e0 N0
 refine GoW.sg (mkF m 1 (Sh16 a1 a2) [(.ref a1)]) (fun t k => XS.aloadN X0.here hx rfl (hb hby d7_0) rfl rfl k) ?_
 obtain ⟨_, T1627, L1627, X1627, hQ1627, st1627⟩ := own_virt X0 hx hZ (y := Y8) hown (ww hw 37 rfl) (ww hw 38 rfl) (ww hw 40 rfl) (ww hw 39 rfl) (ww hw 41 rfl) (ww hw 13 rfl) (by decide) 0 (a := a1) (rmLen1 l Z a0 hw a1 x0 cs h0 n0 P0 hS1 P2 ncs) (by decide) (by decide) e0 P0 (by decide) (by decide) (g := (mkF m 1 (Sh16 a1 a2) [(.ref a1)])) rfl (by rw [hml]; rfl) (argsL := []) (rest := []) (lenOf pd_2829I rfl) rfl (by show 2 * 0 + _ ≤ _; exact Nat.le_of_eq rfl) (hb hby d7_1)
 obtain ⟨rfl, N1627q, e1627⟩ := hQ1627
 have N1627 := Fr.app N0 N1627q
 refine GoW.sg (mkF m 4 (Sh16 a1 a2) [(.int 1)]) (fun t k => st1627 t k) ?_
 refine GoW.sg (mkF m 5 (Sh16 a1 a2) [(.ref a2), (.int 1)]) (fun t k => XS.aloadN X1627.here hx rfl (hb hby d7_4) rfl rfl k) ?_
 obtain ⟨_, T1628, L1628, X1628, hQ1628, st1628⟩ := own_virt X1627 hx hZ (y := Y8) hown (ww hw 37 rfl) (ww hw 38 rfl) (ww hw 40 rfl) (ww hw 39 rfl) (ww hw 41 rfl) (ww hw 13 rfl) (by decide) 1 (a := a2) (rmLen2 l Z a0 hw a2 y0 y1 cs h0 n0 P1 hS2 P2 ncs) (by decide) (by decide) e1627 P1 (by decide) (by decide) (g := (mkF m 5 (Sh16 a1 a2) [(.ref a2), (.int 1)])) rfl (by rw [hml]; rfl) (argsL := []) (rest := [(.int (1 : Int32))]) (lenOf pd_2829I rfl) rfl (by show 2 * 0 + _ ≤ _; exact Nat.le_of_eq rfl) (hb hby d7_5)
 obtain ⟨rfl, N1628q, e1628⟩ := hQ1628
 have N1628 := Fr.app N1627 N1628q
 refine GoW.sg (mkF m 8 (Sh16 a1 a2) [(.int 2), (.int 1)]) (fun t k => st1628 t k) ?_
 refine GoW.sg (mkF m 12 (Sh16 a1 a2) [(.int 0)]) (fun t k => XS.icmpNo X1628.here hx rfl (hb hby d7_8) rfl (by decide) (XS.iconst X1628.here hx rfl (hb hby d7_11) k)) ?_
 refine GoW.retN X1628 hx (t := .boolean) Bd.returns (by simp) (hb hby d7_12) Bd.notSynchronized ?_ (by decide) (by decide)
 rw [e1628]
 exact ⟨rfl, N1628, rfl⟩
def QW13 (Z : State) (a1 : Addr) (a2 : Addr) (x0 : Int32) (y0 : Int32) (y1 : Int32) (y2 : Int32) (cs : Int32) (vf : Value) (h0 : Heap) (n0 : Nat) (v : Option Value) (h : Heap) (L : List Loc) : Prop := v = some (.int 0) ∧ Fr n0 L ∧ (h = h0)
theorem rmW13 (l : Launch) (Z : State) (a0 : Array Value) (hw : HW a0 Z) (a1 : Addr) (a2 : Addr) (x0 : Int32) (y0 : Int32) (y1 : Int32) (y2 : Int32) (cs : Int32) (vf : Value) (h0 : Heap) (n0 : Nat) (P0 : Exa Z h0 a1 "java/lang/String") (P1 : Exa Z h0 a2 "java/lang/String") (P2 : Sta Z h0 "java/lang/String" "COMPACT_STRINGS" "Z" (.int cs)) (P3 : Sta Z h0 "java/lang/StringUTF16" "$assertionsDisabled" "Z" (.int 1)) (P4 : Sta Z h0 "java/lang/StringUTF16" "HI_BYTE_SHIFT" "I" (.int 0)) (P5 : Sta Z h0 "java/lang/StringUTF16" "LO_BYTE_SHIFT" "I" (.int 8)) (P6 : Sta Z h0 "jdk/internal/util/Preconditions" "SIOOBE_FORMATTER" "Ljava/util/function/BiFunction;" vf) (hS1 : Str1 Z h0 a1 x0) (hS2 : Str3 Z h0 a2 y0 y1 y2) (hvf : vf.isRef = true) (lo_x0 : ¬ (x0 < (0 : Int32))) (hi_x0 : ¬ ((65535 : Int32) < x0)) (lo_y0 : ¬ (y0 < (0 : Int32))) (hi_y0 : ¬ ((65535 : Int32) < y0)) (lo_y1 : ¬ (y1 < (0 : Int32))) (hi_y1 : ¬ ((65535 : Int32) < y1)) (lo_y2 : ¬ (y2 < (0 : Int32))) (hi_y2 : ¬ ((65535 : Int32) < y2)) (ncs : ¬ (cs = (0 : Int32))) :
  MM l Z Y7 prog_10_method_5_code 5 (some .boolean) 5 0 0 67 #[(.ref a1), (.ref a2)] h0 (QW13 Z a1 a2 x0 y0 y1 y2 cs vf h0 n0) := by
 refine own_start (fun m => (mkF m 0 (Sh16 a1 a2) [])) (plainFor_of_name pn_com_example_throttle_throttle_SipSyntax) (by simp [entryFrame, mkF, argsToLocals, Value.category]) n0 ?_
 intro p e s m below meth c s₁ Bd hx hby hml hZ hown hnm X0 e0 N0
 refine GoW.sg (mkF m 1 (Sh16 a1 a2) [(.ref a1)]) (fun t k => XS.aloadN X0.here hx rfl (hb hby d7_0) rfl rfl k) ?_
 obtain ⟨_, T1629, L1629, X1629, hQ1629, st1629⟩ := own_virt X0 hx hZ (y := Y8) hown (ww hw 37 rfl) (ww hw 38 rfl) (ww hw 40 rfl) (ww hw 39 rfl) (ww hw 41 rfl) (ww hw 13 rfl) (by decide) 0 (a := a1) (rmLen1 l Z a0 hw a1 x0 cs h0 n0 P0 hS1 P2 ncs) (by decide) (by decide) e0 P0 (by decide) (by decide) (g := (mkF m 1 (Sh16 a1 a2) [(.ref a1)])) rfl (by rw [hml]; rfl) (argsL := []) (rest := []) (lenOf pd_2829I rfl) rfl (by show 2 * 0 + _ ≤ _; exact Nat.le_of_eq rfl) (hb hby d7_1)
 obtain ⟨rfl, N1629q, e1629⟩ := hQ1629
 have N1629 := Fr.app N0 N1629q
 refine GoW.sg (mkF m 4 (Sh16 a1 a2) [(.int 1)]) (fun t k => st1629 t k) ?_
 refine GoW.sg (mkF m 5 (Sh16 a1 a2) [(.ref a2), (.int 1)]) (fun t k => XS.aloadN X1629.here hx rfl (hb hby d7_4) rfl rfl k) ?_
 obtain ⟨_, T1630, L1630, X1630, hQ1630, st1630⟩ := own_virt X1629 hx hZ (y := Y8) hown (ww hw 37 rfl) (ww hw 38 rfl) (ww hw 40 rfl) (ww hw 39 rfl) (ww hw 41 rfl) (ww hw 13 rfl) (by decide) 1 (a := a2) (rmLen3 l Z a0 hw a2 y0 y1 y2 cs h0 n0 P1 hS2 P2 ncs) (by decide) (by decide) e1629 P1 (by decide) (by decide) (g := (mkF m 5 (Sh16 a1 a2) [(.ref a2), (.int 1)])) rfl (by rw [hml]; rfl) (argsL := []) (rest := [(.int (1 : Int32))]) (lenOf pd_2829I rfl) rfl (by show 2 * 0 + _ ≤ _; exact Nat.le_of_eq rfl) (hb hby d7_5)
 obtain ⟨rfl, N1630q, e1630⟩ := hQ1630
 have N1630 := Fr.app N1629 N1630q
 refine GoW.sg (mkF m 8 (Sh16 a1 a2) [(.int 3), (.int 1)]) (fun t k => st1630 t k) ?_
 refine GoW.sg (mkF m 12 (Sh16 a1 a2) [(.int 0)]) (fun t k => XS.icmpNo X1630.here hx rfl (hb hby d7_8) rfl (by decide) (XS.iconst X1630.here hx rfl (hb hby d7_11) k)) ?_
 refine GoW.retN X1630 hx (t := .boolean) Bd.returns (by simp) (hb hby d7_12) Bd.notSynchronized ?_ (by decide) (by decide)
 rw [e1630]
 exact ⟨rfl, N1630, rfl⟩
def QW20 (Z : State) (a1 : Addr) (a2 : Addr) (x0 : Int32) (x1 : Int32) (cs : Int32) (vf : Value) (h0 : Heap) (n0 : Nat) (v : Option Value) (h : Heap) (L : List Loc) : Prop := v = some (.int 1) ∧ Fr n0 L ∧ (h = h0)
theorem rmW20 (l : Launch) (Z : State) (a0 : Array Value) (hw : HW a0 Z) (a1 : Addr) (a2 : Addr) (x0 : Int32) (x1 : Int32) (cs : Int32) (vf : Value) (h0 : Heap) (n0 : Nat) (P0 : Exa Z h0 a1 "java/lang/String") (P1 : Exa Z h0 a2 "java/lang/String") (P2 : Sta Z h0 "java/lang/String" "COMPACT_STRINGS" "Z" (.int cs)) (P3 : Sta Z h0 "java/lang/StringUTF16" "$assertionsDisabled" "Z" (.int 1)) (P4 : Sta Z h0 "java/lang/StringUTF16" "HI_BYTE_SHIFT" "I" (.int 0)) (P5 : Sta Z h0 "java/lang/StringUTF16" "LO_BYTE_SHIFT" "I" (.int 8)) (P6 : Sta Z h0 "jdk/internal/util/Preconditions" "SIOOBE_FORMATTER" "Ljava/util/function/BiFunction;" vf) (hS1 : Str2 Z h0 a1 x0 x1) (hS2 : Str0 Z h0 a2 ) (hvf : vf.isRef = true) (lo_x0 : ¬ (x0 < (0 : Int32))) (hi_x0 : ¬ ((65535 : Int32) < x0)) (lo_x1 : ¬ (x1 < (0 : Int32))) (hi_x1 : ¬ ((65535 : Int32) < x1)) (ncs : ¬ (cs = (0 : Int32))) :
  MM l Z Y7 prog_10_method_5_code 5 (some .boolean) 5 0 0 67 #[(.ref a1), (.ref a2)] h0 (QW20 Z a1 a2 x0 x1 cs vf h0 n0) := by
 refine own_start (fun m => (mkF m 0 (Sh16 a1 a2) [])) (plainFor_of_name pn_com_example_throttle_throttle_SipSyntax) (by simp [entryFrame, mkF, argsToLocals, Value.category]) n0 ?_
 intro p e s m below meth c s₁ Bd hx hby hml hZ hown hnm X0 e0 N0
 refine GoW.sg (mkF m 1 (Sh16 a1 a2) [(.ref a1)]) (fun t k => XS.aloadN X0.here hx rfl (hb hby d7_0) rfl rfl k) ?_
 obtain ⟨_, T1631, L1631, X1631, hQ1631, st1631⟩ := own_virt X0 hx hZ (y := Y8) hown (ww hw 37 rfl) (ww hw 38 rfl) (ww hw 40 rfl) (ww hw 39 rfl) (ww hw 41 rfl) (ww hw 13 rfl) (by decide) 0 (a := a1) (rmLen2 l Z a0 hw a1 x0 x1 cs h0 n0 P0 hS1 P2 ncs) (by decide) (by decide) e0 P0 (by decide) (by decide) (g := (mkF m 1 (Sh16 a1 a2) [(.ref a1)])) rfl (by rw [hml]; rfl) (argsL := []) (rest := []) (lenOf pd_2829I rfl) rfl (by show 2 * 0 + _ ≤ _; exact Nat.le_of_eq rfl) (hb hby d7_1)
 obtain ⟨rfl, N1631q, e1631⟩ := hQ1631
 have N1631 := Fr.app N0 N1631q
 refine GoW.sg (mkF m 4 (Sh16 a1 a2) [(.int 2)]) (fun t k => st1631 t k) ?_
 refine GoW.sg (mkF m 5 (Sh16 a1 a2) [(.ref a2), (.int 2)]) (fun t k => XS.aloadN X1631.here hx rfl (hb hby d7_4) rfl rfl k) ?_
 obtain ⟨_, T1632, L1632, X1632, hQ1632, st1632⟩ := own_virt X1631 hx hZ (y := Y8) hown (ww hw 37 rfl) (ww hw 38 rfl) (ww hw 40 rfl) (ww hw 39 rfl) (ww hw 41 rfl) (ww hw 13 rfl) (by decide) 1 (a := a2) (rmLen0 l Z a0 hw a2  cs h0 n0 P1 hS2 P2 ncs) (by decide) (by decide) e1631 P1 (by decide) (by decide) (g := (mkF m 5 (Sh16 a1 a2) [(.ref a2), (.int 2)])) rfl (by rw [hml]; rfl) (argsL := []) (rest := [(.int (2 : Int32))]) (lenOf pd_2829I rfl) rfl (by show 2 * 0 + _ ≤ _; exact Nat.le_of_eq rfl) (hb hby d7_5)
 obtain ⟨rfl, N1632q, e1632⟩ := hQ1632
 have N1632 := Fr.app N1631 N1632q
 refine GoW.sg (mkF m 8 (Sh16 a1 a2) [(.int 0), (.int 2)]) (fun t k => st1632 t k) ?_
 refine GoW.sg (mkF m 17 (Sh17 a1 a2 0) [(.ref a2), (.int 0)]) (fun t k => XS.icmpYes X1632.here hx rfl (pc0 := 8) (pc' := 13) rfl (hb hby d7_8) rfl (by decide) (by decide) (by decide) (XS.iconst X1632.here hx rfl (hb hby d7_13) (XS.istoreN X1632.here hx rfl (hb hby d7_14) rfl (l' := (Sh17 a1 a2 0)) rfl (XS.iloadN X1632.here hx rfl (hb hby d7_15) rfl (XS.aloadN X1632.here hx rfl (hb hby d7_16) rfl rfl k))))) ?_
 obtain ⟨_, T1633, L1633, X1633, hQ1633, st1633⟩ := own_virt X1632 hx hZ (y := Y8) hown (ww hw 37 rfl) (ww hw 38 rfl) (ww hw 40 rfl) (ww hw 39 rfl) (ww hw 41 rfl) (ww hw 13 rfl) (by decide) 1 (a := a2) (rmLen0 l Z a0 hw a2  cs h0 n0 P1 hS2 P2 ncs) (by decide) (by decide) e1632 P1 (by decide) (by decide) (g := (mkF m 17 (Sh17 a1 a2 0) [(.ref a2), (.int 0)])) rfl (by rw [hml]; rfl) (argsL := []) (rest := [(.int (0 : Int32))]) (lenOf pd_2829I rfl) rfl (by show 2 * 0 + _ ≤ _; exact Nat.le_of_eq rfl) (hb hby d7_17)
 obtain ⟨rfl, N1633q, e1633⟩ := hQ1633
 have N1633 := Fr.app N1632 N1633q
 refine GoW.sg (mkF m 20 (Sh17 a1 a2 0) [(.int 0), (.int 0)]) (fun t k => st1633 t k) ?_
 refine GoW.sg (mkF m 71 (Sh17 a1 a2 0) [(.int 1)]) (fun t k => XS.icmpYes X1633.here hx rfl (pc0 := 20) (pc' := 70) rfl (hb hby d7_20) rfl (by decide) (by decide) (by decide) (XS.iconst X1633.here hx rfl (hb hby d7_70) k)) ?_
 refine GoW.retN X1633 hx (t := .boolean) Bd.returns (by simp) (hb hby d7_71) Bd.notSynchronized ?_ (by decide) (by decide)
 rw [e1633]
 exact ⟨rfl, N1633, rfl⟩
def FW21_1 (x0 : Int32) (x1 : Int32) (y0 : Int32) (cs : Int32) (b1640 : Int32) : Int32 := (if b1640 = y0 then (1 : Int32) else (0 : Int32))
def FW21 (x0 : Int32) (x1 : Int32) (y0 : Int32) (cs : Int32) : Int32 := (FW21_1 x0 x1 y0 cs (if x0 < (65 : Int32) then x0 else (if (90 : Int32) < x0 then x0 else (x0 + (32 : Int32)).toUInt32.toUInt16.toUInt32.toInt32)))
def QW21 (Z : State) (a1 : Addr) (a2 : Addr) (x0 : Int32) (x1 : Int32) (y0 : Int32) (cs : Int32) (vf : Value) (h0 : Heap) (n0 : Nat) (v : Option Value) (h : Heap) (L : List Loc) : Prop := v = some (.int (FW21 x0 x1 y0 cs)) ∧ Fr n0 L ∧ (h = h0)
theorem rmW21 (l : Launch) (Z : State) (a0 : Array Value) (hw : HW a0 Z) (a1 : Addr) (a2 : Addr) (x0 : Int32) (x1 : Int32) (y0 : Int32) (cs : Int32) (vf : Value) (h0 : Heap) (n0 : Nat) (P0 : Exa Z h0 a1 "java/lang/String") (P1 : Exa Z h0 a2 "java/lang/String") (P2 : Sta Z h0 "java/lang/String" "COMPACT_STRINGS" "Z" (.int cs)) (P3 : Sta Z h0 "java/lang/StringUTF16" "$assertionsDisabled" "Z" (.int 1)) (P4 : Sta Z h0 "java/lang/StringUTF16" "HI_BYTE_SHIFT" "I" (.int 0)) (P5 : Sta Z h0 "java/lang/StringUTF16" "LO_BYTE_SHIFT" "I" (.int 8)) (P6 : Sta Z h0 "jdk/internal/util/Preconditions" "SIOOBE_FORMATTER" "Ljava/util/function/BiFunction;" vf) (hS1 : Str2 Z h0 a1 x0 x1) (hS2 : Str1 Z h0 a2 y0) (hvf : vf.isRef = true) (lo_x0 : ¬ (x0 < (0 : Int32))) (hi_x0 : ¬ ((65535 : Int32) < x0)) (lo_x1 : ¬ (x1 < (0 : Int32))) (hi_x1 : ¬ ((65535 : Int32) < x1)) (lo_y0 : ¬ (y0 < (0 : Int32))) (hi_y0 : ¬ ((65535 : Int32) < y0)) (ncs : ¬ (cs = (0 : Int32))) :
  MM l Z Y7 prog_10_method_5_code 5 (some .boolean) 5 0 0 67 #[(.ref a1), (.ref a2)] h0 (QW21 Z a1 a2 x0 x1 y0 cs vf h0 n0) := by
 refine own_start (fun m => (mkF m 0 (Sh16 a1 a2) [])) (plainFor_of_name pn_com_example_throttle_throttle_SipSyntax) (by simp [entryFrame, mkF, argsToLocals, Value.category]) n0 ?_
 intro p e s m below meth c s₁ Bd hx hby hml hZ hown hnm X0 e0 N0
 refine GoW.sg (mkF m 1 (Sh16 a1 a2) [(.ref a1)]) (fun t k => XS.aloadN X0.here hx rfl (hb hby d7_0) rfl rfl k) ?_
 obtain ⟨_, T1634, L1634, X1634, hQ1634, st1634⟩ := own_virt X0 hx hZ (y := Y8) hown (ww hw 37 rfl) (ww hw 38 rfl) (ww hw 40 rfl) (ww hw 39 rfl) (ww hw 41 rfl) (ww hw 13 rfl) (by decide) 0 (a := a1) (rmLen2 l Z a0 hw a1 x0 x1 cs h0 n0 P0 hS1 P2 ncs) (by decide) (by decide) e0 P0 (by decide) (by decide) (g := (mkF m 1 (Sh16 a1 a2) [(.ref a1)])) rfl (by rw [hml]; rfl) (argsL := []) (rest := []) (lenOf pd_2829I rfl) rfl (by show 2 * 0 + _ ≤ _; exact Nat.le_of_eq rfl) (hb hby d7_1)
 obtain ⟨rfl, N1634q, e1634⟩ := hQ1634
 have N1634 := Fr.app N0 N1634q
 refine GoW.sg (mkF m 4 (Sh16 a1 a2) [(.int 2)]) (fun t k => st1634 t k) ?_
 refine GoW.sg (mkF m 5 (Sh16 a1 a2) [(.ref a2), (.int 2)]) (fun t k => XS.aloadN X1634.here hx rfl (hb hby d7_4) rfl rfl k) ?_
 obtain ⟨_, T1635, L1635, X1635, hQ1635, st1635⟩ := own_virt X1634 hx hZ (y := Y8) hown (ww hw 37 rfl) (ww hw 38 rfl) (ww hw 40 rfl) (ww hw 39 rfl) (ww hw 41 rfl) (ww hw 13 rfl) (by decide) 1 (a := a2) (rmLen1 l Z a0 hw a2 y0 cs h0 n0 P1 hS2 P2 ncs) (by decide) (by decide) e1634 P1 (by decide) (by decide) (g := (mkF m 5 (Sh16 a1 a2) [(.ref a2), (.int 2)])) rfl (by rw [hml]; rfl) (argsL := []) (rest := [(.int (2 : Int32))]) (lenOf pd_2829I rfl) rfl (by show 2 * 0 + _ ≤ _; exact Nat.le_of_eq rfl) (hb hby d7_5)
 obtain ⟨rfl, N1635q, e1635⟩ := hQ1635
 have N1635 := Fr.app N1634 N1635q
 refine GoW.sg (mkF m 8 (Sh16 a1 a2) [(.int 1), (.int 2)]) (fun t k => st1635 t k) ?_
 refine GoW.sg (mkF m 17 (Sh17 a1 a2 0) [(.ref a2), (.int 0)]) (fun t k => XS.icmpYes X1635.here hx rfl (pc0 := 8) (pc' := 13) rfl (hb hby d7_8) rfl (by decide) (by decide) (by decide) (XS.iconst X1635.here hx rfl (hb hby d7_13) (XS.istoreN X1635.here hx rfl (hb hby d7_14) rfl (l' := (Sh17 a1 a2 0)) rfl (XS.iloadN X1635.here hx rfl (hb hby d7_15) rfl (XS.aloadN X1635.here hx rfl (hb hby d7_16) rfl rfl k))))) ?_
 obtain ⟨_, T1636, L1636, X1636, hQ1636, st1636⟩ := own_virt X1635 hx hZ (y := Y8) hown (ww hw 37 rfl) (ww hw 38 rfl) (ww hw 40 rfl) (ww hw 39 rfl) (ww hw 41 rfl) (ww hw 13 rfl) (by decide) 1 (a := a2) (rmLen1 l Z a0 hw a2 y0 cs h0 n0 P1 hS2 P2 ncs) (by decide) (by decide) e1635 P1 (by decide) (by decide) (g := (mkF m 17 (Sh17 a1 a2 0) [(.ref a2), (.int 0)])) rfl (by rw [hml]; rfl) (argsL := []) (rest := [(.int (0 : Int32))]) (lenOf pd_2829I rfl) rfl (by show 2 * 0 + _ ≤ _; exact Nat.le_of_eq rfl) (hb hby d7_17)
 obtain ⟨rfl, N1636q, e1636⟩ := hQ1636
 have N1636 := Fr.app N1635 N1636q
 refine GoW.sg (mkF m 20 (Sh17 a1 a2 0) [(.int 1), (.int 0)]) (fun t k => st1636 t k) ?_
 refine GoW.sg (mkF m 25 (Sh17 a1 a2 0) [(.int 0), (.ref a1)]) (fun t k => XS.icmpNo X1636.here hx rfl (hb hby d7_20) rfl (by decide) (XS.aloadN X1636.here hx rfl (hb hby d7_23) rfl rfl (XS.iloadN X1636.here hx rfl (hb hby d7_24) rfl k))) ?_
 obtain ⟨_, T1637, L1637, X1637, hQ1637, st1637⟩ := own_virt X1636 hx hZ (y := Y19) hown (ww hw 80 rfl) (ww hw 81 rfl) (ww hw 83 rfl) (ww hw 82 rfl) (ww hw 84 rfl) (ww hw 13 rfl) (by decide) 0 (a := a1) (rmCh20 l Z a0 hw a1 x0 x1 cs vf h0 n0 P0 hS1 P2 P3 P4 P5 P6 hvf lo_x0 hi_x0 lo_x1 hi_x1 ncs) (by decide) (by decide) e1636 P0 (by decide) (by decide) (g := (mkF m 25 (Sh17 a1 a2 0) [(.int 0), (.ref a1)])) rfl (by rw [hml]; rfl) (argsL := [(.int (0 : Int32))]) (rest := []) (lenOf pd_28I29C rfl) rfl (by show 2 * 0 + _ ≤ _; exact Nat.le_of_eq rfl) (hb hby d7_25)
 obtain ⟨rfl, N1637q, e1637⟩ := hQ1637
 have N1637 := Fr.app N1636 N1637q
 refine GoW.sg (mkF m 28 (Sh17 a1 a2 0) [(.int x0)]) (fun t k => st1637 t k) ?_
 refine GoW.sg (mkF m 32 (Sh18 a1 a2 0 x0) [(.int 65), (.int x0)]) (fun t k => XS.istoreN X1637.here hx rfl (hb hby d7_28) rfl (l' := (Sh18 a1 a2 0 x0)) rfl (XS.iloadN X1637.here hx rfl (hb hby d7_29) rfl (XS.bipush X1637.here hx rfl (hb hby d7_30) k))) ?_
 have J50_1641 : ∀ b1640 : Int32, b1640 = (if x0 < (65 : Int32) then x0 else (if (90 : Int32) < x0 then x0 else (x0 + (32 : Int32)).toUInt32.toUInt16.toUInt32.toInt32)) → GoW p e below s (QW21 Z a1 a2 x0 x1 y0 cs vf h0 n0) 0 0 (T1637.setTop (mkF m 50 (Sh18 a1 a2 0 x0) [(.int b1640)])) := by
  intro b1640 hb1640
  have hFb1640 : (FW21 x0 x1 y0 cs) = (FW21_1 x0 x1 y0 cs b1640) := by unfold FW21; rw [hb1640]
  refine GoW.sg (mkF m 56 (Sh19 a1 a2 0 x0 b1640) [(.int 0), (.ref a2), (.int b1640)]) (fun t k => XS.istore X1637.here hx rfl (hb hby d7_50) rfl (l' := (Sh19 a1 a2 0 x0 b1640)) rfl (XS.iload X1637.here hx rfl (hb hby d7_52) rfl (XS.aloadN X1637.here hx rfl (hb hby d7_54) rfl rfl (XS.iloadN X1637.here hx rfl (hb hby d7_55) rfl k)))) ?_
  obtain ⟨_, T1644, L1644, X1644, hQ1644, st1644⟩ := own_virt X1637 hx hZ (y := Y19) hown (ww hw 80 rfl) (ww hw 81 rfl) (ww hw 83 rfl) (ww hw 82 rfl) (ww hw 84 rfl) (ww hw 13 rfl) (by decide) 1 (a := a2) (rmCh10 l Z a0 hw a2 y0 cs vf h0 n0 P1 hS2 P2 P3 P4 P5 P6 hvf lo_y0 hi_y0 ncs) (by decide) (by decide) e1637 P1 (by decide) (by decide) (g := (mkF m 56 (Sh19 a1 a2 0 x0 b1640) [(.int 0), (.ref a2), (.int b1640)])) rfl (by rw [hml]; rfl) (argsL := [(.int (0 : Int32))]) (rest := [(.int b1640)]) (lenOf pd_28I29C rfl) rfl (by show 2 * 0 + _ ≤ _; exact Nat.le_of_eq rfl) (hb hby d7_56)
  obtain ⟨rfl, N1644q, e1644⟩ := hQ1644
  have N1644 := Fr.app N1637 N1644q
  refine GoW.sg (mkF m 59 (Sh19 a1 a2 0 x0 b1640) [(.int y0), (.int b1640)]) (fun t k => st1644 t k) ?_
  by_cases c1645 : b1640 = y0
  ·refine GoW.sg (mkF m 17 (Sh19 a1 a2 1 x0 b1640) [(.ref a2), (.int 1)]) (fun t k => XS.icmpYes X1644.here hx rfl (pc0 := 59) (pc' := 64) rfl (hb hby d7_59) rfl (teq c1645).1 (by decide) (by decide) (XS.iinc X1644.here hx rfl (hb hby d7_64) rfl (l' := (Sh19 a1 a2 1 x0 b1640)) rfl (XS.goto X1644.here hx rfl (pc0 := 67) (pc' := 15) rfl (hb hby d7_67) (by decide) (by decide) (XS.iloadN X1644.here hx rfl (hb hby d7_15) rfl (XS.aloadN X1644.here hx rfl (hb hby d7_16) rfl rfl k))))) ?_
   obtain ⟨_, T1646, L1646, X1646, hQ1646, st1646⟩ := own_virt X1644 hx hZ (y := Y8) hown (ww hw 37 rfl) (ww hw 38 rfl) (ww hw 40 rfl) (ww hw 39 rfl) (ww hw 41 rfl) (ww hw 13 rfl) (by decide) 1 (a := a2) (rmLen1 l Z a0 hw a2 y0 cs h0 n0 P1 hS2 P2 ncs) (by decide) (by decide) e1644 P1 (by decide) (by decide) (g := (mkF m 17 (Sh19 a1 a2 1 x0 b1640) [(.ref a2), (.int 1)])) rfl (by rw [hml]; rfl) (argsL := []) (rest := [(.int (1 : Int32))]) (lenOf pd_2829I rfl) rfl (by show 2 * 0 + _ ≤ _; exact Nat.le_of_eq rfl) (hb hby d7_17)
   obtain ⟨rfl, N1646q, e1646⟩ := hQ1646
   have N1646 := Fr.app N1644 N1646q
   refine GoW.sg (mkF m 20 (Sh19 a1 a2 1 x0 b1640) [(.int 1), (.int 1)]) (fun t k => st1646 t k) ?_
   refine GoW.sg (mkF m 71 (Sh19 a1 a2 1 x0 b1640) [(.int 1)]) (fun t k => XS.icmpYes X1646.here hx rfl (pc0 := 20) (pc' := 70) rfl (hb hby d7_20) rfl (by decide) (by decide) (by decide) (XS.iconst X1646.here hx rfl (hb hby d7_70) k)) ?_
   refine GoW.retN X1646 hx (t := .boolean) Bd.returns (by simp) (hb hby d7_71) Bd.notSynchronized ?_ (by decide) (by decide)
   rw [e1646]
   have hq : (FW21 x0 x1 y0 cs) = (1 : Int32) := by rw [hFb1640]; unfold FW21_1; rw [if_pos c1645]; try rfl
   exact ⟨by rw [hq] <;> rfl, N1646, rfl⟩
  ·refine GoW.sg (mkF m 63 (Sh19 a1 a2 0 x0 b1640) [(.int 0)]) (fun t k => XS.icmpNo X1644.here hx rfl (hb hby d7_59) rfl (feq c1645).1 (XS.iconst X1644.here hx rfl (hb hby d7_62) k)) ?_
   refine GoW.retN X1644 hx (t := .boolean) Bd.returns (by simp) (hb hby d7_63) Bd.notSynchronized ?_ (by decide) (by decide)
   rw [e1644]
   have hq : (FW21 x0 x1 y0 cs) = (0 : Int32) := by rw [hFb1640]; unfold FW21_1; rw [if_neg c1645]; try rfl
   exact ⟨by rw [hq] <;> rfl, N1644, rfl⟩
 by_cases c1642 : x0 < (65 : Int32)
 ·refine GoW.sg (mkF m 50 (Sh18 a1 a2 0 x0) [(.int x0)]) (fun t k => XS.icmpYes X1637.here hx rfl (pc0 := 32) (pc' := 49) rfl (hb hby d7_32) rfl (tlt c1642).1 (by decide) (by decide) (XS.iloadN X1637.here hx rfl (hb hby d7_49) rfl k)) ?_
  exact J50_1641 _ (by rw [if_pos c1642])
 ·refine GoW.sg (mkF m 38 (Sh18 a1 a2 0 x0) [(.int 90), (.int x0)]) (fun t k => XS.icmpNo X1637.here hx rfl (hb hby d7_32) rfl (flt c1642).1 (XS.iloadN X1637.here hx rfl (hb hby d7_35) rfl (XS.bipush X1637.here hx rfl (hb hby d7_36) k))) ?_
  by_cases c1643 : (90 : Int32) < x0
  ·refine GoW.sg (mkF m 50 (Sh18 a1 a2 0 x0) [(.int x0)]) (fun t k => XS.icmpYes X1637.here hx rfl (pc0 := 38) (pc' := 49) rfl (hb hby d7_38) rfl (tlt c1643).2.2.1 (by decide) (by decide) (XS.iloadN X1637.here hx rfl (hb hby d7_49) rfl k)) ?_
   exact J50_1641 _ (by rw [if_neg c1642, if_pos c1643])
  ·refine GoW.sg (mkF m 50 (Sh18 a1 a2 0 x0) [(.int (x0 + (32 : Int32)).toUInt32.toUInt16.toUInt32.toInt32)]) (fun t k => XS.icmpNo X1637.here hx rfl (hb hby d7_38) rfl (flt c1643).2.2.1 (XS.iloadN X1637.here hx rfl (hb hby d7_41) rfl (XS.bipush X1637.here hx rfl (hb hby d7_42) (XS.iadd X1637.here hx rfl (hb hby d7_44) rfl (XS.i2c X1637.here hx rfl (hb hby d7_45) rfl (XS.goto X1637.here hx rfl (pc0 := 46) (pc' := 50) rfl (hb hby d7_46) (by decide) (by decide) k)))))) ?_
   exact J50_1641 _ (by rw [if_neg c1642, if_neg c1643])
def FW22_2 (x0 : Int32) (x1 : Int32) (y0 : Int32) (y1 : Int32) (cs : Int32) (b1653 : Int32) (b1663 : Int32) : Int32 := (if b1663 = y1 then (1 : Int32) else (0 : Int32))
def FW22_1 (x0 : Int32) (x1 : Int32) (y0 : Int32) (y1 : Int32) (cs : Int32) (b1653 : Int32) : Int32 := (if b1653 = y0 then (FW22_2 x0 x1 y0 y1 cs b1653 (if x1 < (65 : Int32) then x1 else (if (90 : Int32) < x1 then x1 else (x1 + (32 : Int32)).toUInt32.toUInt16.toUInt32.toInt32))) else (0 : Int32))
def FW22 (x0 : Int32) (x1 : Int32) (y0 : Int32) (y1 : Int32) (cs : Int32) : Int32 := (FW22_1 x0 x1 y0 y1 cs (if x0 < (65 : Int32) then x0 else (if (90 : Int32) < x0 then x0 else (x0 + (32 : Int32)).toUInt32.toUInt16.toUInt32.toInt32)))
def QW22 (Z : State) (a1 : Addr) (a2 : Addr) (x0 : Int32) (x1 : Int32) (y0 : Int32) (y1 : Int32) (cs : Int32) (vf : Value) (h0 : Heap) (n0 : Nat) (v : Option Value) (h : Heap) (L : List Loc) : Prop := v = some (.int (FW22 x0 x1 y0 y1 cs)) ∧ Fr n0 L ∧ (h = h0)
theorem rmW22 (l : Launch) (Z : State) (a0 : Array Value) (hw : HW a0 Z) (a1 : Addr) (a2 : Addr) (x0 : Int32) (x1 : Int32) (y0 : Int32) (y1 : Int32) (cs : Int32) (vf : Value) (h0 : Heap) (n0 : Nat) (P0 : Exa Z h0 a1 "java/lang/String") (P1 : Exa Z h0 a2 "java/lang/String") (P2 : Sta Z h0 "java/lang/String" "COMPACT_STRINGS" "Z" (.int cs)) (P3 : Sta Z h0 "java/lang/StringUTF16" "$assertionsDisabled" "Z" (.int 1)) (P4 : Sta Z h0 "java/lang/StringUTF16" "HI_BYTE_SHIFT" "I" (.int 0)) (P5 : Sta Z h0 "java/lang/StringUTF16" "LO_BYTE_SHIFT" "I" (.int 8)) (P6 : Sta Z h0 "jdk/internal/util/Preconditions" "SIOOBE_FORMATTER" "Ljava/util/function/BiFunction;" vf) (hS1 : Str2 Z h0 a1 x0 x1) (hS2 : Str2 Z h0 a2 y0 y1) (hvf : vf.isRef = true) (lo_x0 : ¬ (x0 < (0 : Int32))) (hi_x0 : ¬ ((65535 : Int32) < x0)) (lo_x1 : ¬ (x1 < (0 : Int32))) (hi_x1 : ¬ ((65535 : Int32) < x1)) (lo_y0 : ¬ (y0 < (0 : Int32))) (hi_y0 : ¬ ((65535 : Int32) < y0)) (lo_y1 : ¬ (y1 < (0 : Int32))) (hi_y1 : ¬ ((65535 : Int32) < y1)) (ncs : ¬ (cs = (0 : Int32))) :
  MM l Z Y7 prog_10_method_5_code 5 (some .boolean) 5 0 0 67 #[(.ref a1), (.ref a2)] h0 (QW22 Z a1 a2 x0 x1 y0 y1 cs vf h0 n0) := by
 refine own_start (fun m => (mkF m 0 (Sh16 a1 a2) [])) (plainFor_of_name pn_com_example_throttle_throttle_SipSyntax) (by simp [entryFrame, mkF, argsToLocals, Value.category]) n0 ?_
 intro p e s m below meth c s₁ Bd hx hby hml hZ hown hnm X0 e0 N0
 refine GoW.sg (mkF m 1 (Sh16 a1 a2) [(.ref a1)]) (fun t k => XS.aloadN X0.here hx rfl (hb hby d7_0) rfl rfl k) ?_
 obtain ⟨_, T1647, L1647, X1647, hQ1647, st1647⟩ := own_virt X0 hx hZ (y := Y8) hown (ww hw 37 rfl) (ww hw 38 rfl) (ww hw 40 rfl) (ww hw 39 rfl) (ww hw 41 rfl) (ww hw 13 rfl) (by decide) 0 (a := a1) (rmLen2 l Z a0 hw a1 x0 x1 cs h0 n0 P0 hS1 P2 ncs) (by decide) (by decide) e0 P0 (by decide) (by decide) (g := (mkF m 1 (Sh16 a1 a2) [(.ref a1)])) rfl (by rw [hml]; rfl) (argsL := []) (rest := []) (lenOf pd_2829I rfl) rfl (by show 2 * 0 + _ ≤ _; exact Nat.le_of_eq rfl) (hb hby d7_1)
 obtain ⟨rfl, N1647q, e1647⟩ := hQ1647
 have N1647 := Fr.app N0 N1647q
 refine GoW.sg (mkF m 4 (Sh16 a1 a2) [(.int 2)]) (fun t k => st1647 t k) ?_
 refine GoW.sg (mkF m 5 (Sh16 a1 a2) [(.ref a2), (.int 2)]) (fun t k => XS.aloadN X1647.here hx rfl (hb hby d7_4) rfl rfl k) ?_
 obtain ⟨_, T1648, L1648, X1648, hQ1648, st1648⟩ := own_virt X1647 hx hZ (y := Y8) hown (ww hw 37 rfl) (ww hw 38 rfl) (ww hw 40 rfl) (ww hw 39 rfl) (ww hw 41 rfl) (ww hw 13 rfl) (by decide) 1 (a := a2) (rmLen2 l Z a0 hw a2 y0 y1 cs h0 n0 P1 hS2 P2 ncs) (by decide) (by decide) e1647 P1 (by decide) (by decide) (g := (mkF m 5 (Sh16 a1 a2) [(.ref a2), (.int 2)])) rfl (by rw [hml]; rfl) (argsL := []) (rest := [(.int (2 : Int32))]) (lenOf pd_2829I rfl) rfl (by show 2 * 0 + _ ≤ _; exact Nat.le_of_eq rfl) (hb hby d7_5)
 obtain ⟨rfl, N1648q, e1648⟩ := hQ1648
 have N1648 := Fr.app N1647 N1648q
 refine GoW.sg (mkF m 8 (Sh16 a1 a2) [(.int 2), (.int 2)]) (fun t k => st1648 t k) ?_
 refine GoW.sg (mkF m 17 (Sh17 a1 a2 0) [(.ref a2), (.int 0)]) (fun t k => XS.icmpYes X1648.here hx rfl (pc0 := 8) (pc' := 13) rfl (hb hby d7_8) rfl (by decide) (by decide) (by decide) (XS.iconst X1648.here hx rfl (hb hby d7_13) (XS.istoreN X1648.here hx rfl (hb hby d7_14) rfl (l' := (Sh17 a1 a2 0)) rfl (XS.iloadN X1648.here hx rfl (hb hby d7_15) rfl (XS.aloadN X1648.here hx rfl (hb hby d7_16) rfl rfl k))))) ?_
 obtain ⟨_, T1649, L1649, X1649, hQ1649, st1649⟩ := own_virt X1648 hx hZ (y := Y8) hown (ww hw 37 rfl) (ww hw 38 rfl) (ww hw 40 rfl) (ww hw 39 rfl) (ww hw 41 rfl) (ww hw 13 rfl) (by decide) 1 (a := a2) (rmLen2 l Z a0 hw a2 y0 y1 cs h0 n0 P1 hS2 P2 ncs) (by decide) (by decide) e1648 P1 (by decide) (by decide) (g := (mkF m 17 (Sh17 a1 a2 0) [(.ref a2), (.int 0)])) rfl (by rw [hml]; rfl) (argsL := []) (rest := [(.int (0 : Int32))]) (lenOf pd_2829I rfl) rfl (by show 2 * 0 + _ ≤ _; exact Nat.le_of_eq rfl) (hb hby d7_17)
 obtain ⟨rfl, N1649q, e1649⟩ := hQ1649
 have N1649 := Fr.app N1648 N1649q
 refine GoW.sg (mkF m 20 (Sh17 a1 a2 0) [(.int 2), (.int 0)]) (fun t k => st1649 t k) ?_
 refine GoW.sg (mkF m 25 (Sh17 a1 a2 0) [(.int 0), (.ref a1)]) (fun t k => XS.icmpNo X1649.here hx rfl (hb hby d7_20) rfl (by decide) (XS.aloadN X1649.here hx rfl (hb hby d7_23) rfl rfl (XS.iloadN X1649.here hx rfl (hb hby d7_24) rfl k))) ?_
 obtain ⟨_, T1650, L1650, X1650, hQ1650, st1650⟩ := own_virt X1649 hx hZ (y := Y19) hown (ww hw 80 rfl) (ww hw 81 rfl) (ww hw 83 rfl) (ww hw 82 rfl) (ww hw 84 rfl) (ww hw 13 rfl) (by decide) 0 (a := a1) (rmCh20 l Z a0 hw a1 x0 x1 cs vf h0 n0 P0 hS1 P2 P3 P4 P5 P6 hvf lo_x0 hi_x0 lo_x1 hi_x1 ncs) (by decide) (by decide) e1649 P0 (by decide) (by decide) (g := (mkF m 25 (Sh17 a1 a2 0) [(.int 0), (.ref a1)])) rfl (by rw [hml]; rfl) (argsL := [(.int (0 : Int32))]) (rest := []) (lenOf pd_28I29C rfl) rfl (by show 2 * 0 + _ ≤ _; exact Nat.le_of_eq rfl) (hb hby d7_25)
 obtain ⟨rfl, N1650q, e1650⟩ := hQ1650
 have N1650 := Fr.app N1649 N1650q
 refine GoW.sg (mkF m 28 (Sh17 a1 a2 0) [(.int x0)]) (fun t k => st1650 t k) ?_
 refine GoW.sg (mkF m 32 (Sh18 a1 a2 0 x0) [(.int 65), (.int x0)]) (fun t k => XS.istoreN X1650.here hx rfl (hb hby d7_28) rfl (l' := (Sh18 a1 a2 0 x0)) rfl (XS.iloadN X1650.here hx rfl (hb hby d7_29) rfl (XS.bipush X1650.here hx rfl (hb hby d7_30) k))) ?_
 have J50_1654 : ∀ b1653 : Int32, b1653 = (if x0 < (65 : Int32) then x0 else (if (90 : Int32) < x0 then x0 else (x0 + (32 : Int32)).toUInt32.toUInt16.toUInt32.toInt32)) → GoW p e below s (QW22 Z a1 a2 x0 x1 y0 y1 cs vf h0 n0) 0 0 (T1650.setTop (mkF m 50 (Sh18 a1 a2 0 x0) [(.int b1653)])) := by
  intro b1653 hb1653
  have hFb1653 : (FW22 x0 x1 y0 y1 cs) = (FW22_1 x0 x1 y0 y1 cs b1653) := by unfold FW22; rw [hb1653]
  refine GoW.sg (mkF m 56 (Sh19 a1 a2 0 x0 b1653) [(.int 0), (.ref a2), (.int b1653)]) (fun t k => XS.istore X1650.here hx rfl (hb hby d7_50) rfl (l' := (Sh19 a1 a2 0 x0 b1653)) rfl (XS.iload X1650.here hx rfl (hb hby d7_52) rfl (XS.aloadN X1650.here hx rfl (hb hby d7_54) rfl rfl (XS.iloadN X1650.here hx rfl (hb hby d7_55) rfl k)))) ?_
  obtain ⟨_, T1657, L1657, X1657, hQ1657, st1657⟩ := own_virt X1650 hx hZ (y := Y19) hown (ww hw 80 rfl) (ww hw 81 rfl) (ww hw 83 rfl) (ww hw 82 rfl) (ww hw 84 rfl) (ww hw 13 rfl) (by decide) 1 (a := a2) (rmCh20 l Z a0 hw a2 y0 y1 cs vf h0 n0 P1 hS2 P2 P3 P4 P5 P6 hvf lo_y0 hi_y0 lo_y1 hi_y1 ncs) (by decide) (by decide) e1650 P1 (by decide) (by decide) (g := (mkF m 56 (Sh19 a1 a2 0 x0 b1653) [(.int 0), (.ref a2), (.int b1653)])) rfl (by rw [hml]; rfl) (argsL := [(.int (0 : Int32))]) (rest := [(.int b1653)]) (lenOf pd_28I29C rfl) rfl (by show 2 * 0 + _ ≤ _; exact Nat.le_of_eq rfl) (hb hby d7_56)
  obtain ⟨rfl, N1657q, e1657⟩ := hQ1657
  have N1657 := Fr.app N1650 N1657q
  refine GoW.sg (mkF m 59 (Sh19 a1 a2 0 x0 b1653) [(.int y0), (.int b1653)]) (fun t k => st1657 t k) ?_
  by_cases c1658 : b1653 = y0
  ·refine GoW.sg (mkF m 17 (Sh19 a1 a2 1 x0 b1653) [(.ref a2), (.int 1)]) (fun t k => XS.icmpYes X1657.here hx rfl (pc0 := 59) (pc' := 64) rfl (hb hby d7_59) rfl (teq c1658).1 (by decide) (by decide) (XS.iinc X1657.here hx rfl (hb hby d7_64) rfl (l' := (Sh19 a1 a2 1 x0 b1653)) rfl (XS.goto X1657.here hx rfl (pc0 := 67) (pc' := 15) rfl (hb hby d7_67) (by decide) (by decide) (XS.iloadN X1657.here hx rfl (hb hby d7_15) rfl (XS.aloadN X1657.here hx rfl (hb hby d7_16) rfl rfl k))))) ?_
   obtain ⟨_, T1659, L1659, X1659, hQ1659, st1659⟩ := own_virt X1657 hx hZ (y := Y8) hown (ww hw 37 rfl) (ww hw 38 rfl) (ww hw 40 rfl) (ww hw 39 rfl) (ww hw 41 rfl) (ww hw 13 rfl) (by decide) 1 (a := a2) (rmLen2 l Z a0 hw a2 y0 y1 cs h0 n0 P1 hS2 P2 ncs) (by decide) (by decide) e1657 P1 (by decide) (by decide) (g := (mkF m 17 (Sh19 a1 a2 1 x0 b1653) [(.ref a2), (.int 1)])) rfl (by rw [hml]; rfl) (argsL := []) (rest := [(.int (1 : Int32))]) (lenOf pd_2829I rfl) rfl (by show 2 * 0 + _ ≤ _; exact Nat.le_of_eq rfl) (hb hby d7_17)
   obtain ⟨rfl, N1659q, e1659⟩ := hQ1659
   have N1659 := Fr.app N1657 N1659q
   refine GoW.sg (mkF m 20 (Sh19 a1 a2 1 x0 b1653) [(.int 2), (.int 1)]) (fun t k => st1659 t k) ?_
   refine GoW.sg (mkF m 25 (Sh19 a1 a2 1 x0 b1653) [(.int 1), (.ref a1)]) (fun t k => XS.icmpNo X1659.here hx rfl (hb hby d7_20) rfl (by decide) (XS.aloadN X1659.here hx rfl (hb hby d7_23) rfl rfl (XS.iloadN X1659.here hx rfl (hb hby d7_24) rfl k))) ?_
   obtain ⟨_, T1660, L1660, X1660, hQ1660, st1660⟩ := own_virt X1659 hx hZ (y := Y19) hown (ww hw 80 rfl) (ww hw 81 rfl) (ww hw 83 rfl) (ww hw 82 rfl) (ww hw 84 rfl) (ww hw 13 rfl) (by decide) 0 (a := a1) (rmCh21 l Z a0 hw a1 x0 x1 cs vf h0 n0 P0 hS1 P2 P3 P4 P5 P6 hvf lo_x0 hi_x0 lo_x1 hi_x1 ncs) (by decide) (by decide) e1659 P0 (by decide) (by decide) (g := (mkF m 25 (Sh19 a1 a2 1 x0 b1653) [(.int 1), (.ref a1)])) rfl (by rw [hml]; rfl) (argsL := [(.int (1 : Int32))]) (rest := []) (lenOf pd_28I29C rfl) rfl (by show 2 * 0 + _ ≤ _; exact Nat.le_of_eq rfl) (hb hby d7_25)
   obtain ⟨rfl, N1660q, e1660⟩ := hQ1660
   have N1660 := Fr.app N1659 N1660q
   refine GoW.sg (mkF m 28 (Sh19 a1 a2 1 x0 b1653) [(.int x1)]) (fun t k => st1660 t k) ?_
   refine GoW.sg (mkF m 32 (Sh19 a1 a2 1 x1 b1653) [(.int 65), (.int x1)]) (fun t k => XS.istoreN X1660.here hx rfl (hb hby d7_28) rfl (l' := (Sh19 a1 a2 1 x1 b1653)) rfl (XS.iloadN X1660.here hx rfl (hb hby d7_29) rfl (XS.bipush X1660.here hx rfl (hb hby d7_30) k))) ?_
   have J50_1664 : ∀ b1663 : Int32, b1663 = (if x1 < (65 : Int32) then x1 else (if (90 : Int32) < x1 then x1 else (x1 + (32 : Int32)).toUInt32.toUInt16.toUInt32.toInt32)) → GoW p e below s (QW22 Z a1 a2 x0 x1 y0 y1 cs vf h0 n0) 0 0 (T1660.setTop (mkF m 50 (Sh19 a1 a2 1 x1 b1653) [(.int b1663)])) := by
    intro b1663 hb1663
    have hFb1663 : (FW22_1 x0 x1 y0 y1 cs b1653) = (FW22_2 x0 x1 y0 y1 cs b1653 b1663) := by unfold FW22_1; rw [if_pos c1658]; rw [hb1663]
    refine GoW.sg (mkF m 56 (Sh19 a1 a2 1 x1 b1663) [(.int 1), (.ref a2), (.int b1663)]) (fun t k => XS.istore X1660.here hx rfl (hb hby d7_50) rfl (l' := (Sh19 a1 a2 1 x1 b1663)) rfl (XS.iload X1660.here hx rfl (hb hby d7_52) rfl (XS.aloadN X1660.here hx rfl (hb hby d7_54) rfl rfl (XS.iloadN X1660.here hx rfl (hb hby d7_55) rfl k)))) ?_
    obtain ⟨_, T1667, L1667, X1667, hQ1667, st1667⟩ := own_virt X1660 hx hZ (y := Y19) hown (ww hw 80 rfl) (ww hw 81 rfl) (ww hw 83 rfl) (ww hw 82 rfl) (ww hw 84 rfl) (ww hw 13 rfl) (by decide) 1 (a := a2) (rmCh21 l Z a0 hw a2 y0 y1 cs vf h0 n0 P1 hS2 P2 P3 P4 P5 P6 hvf lo_y0 hi_y0 lo_y1 hi_y1 ncs) (by decide) (by decide) e1660 P1 (by decide) (by decide) (g := (mkF m 56 (Sh19 a1 a2 1 x1 b1663) [(.int 1), (.ref a2), (.int b1663)])) rfl (by rw [hml]; rfl) (argsL := [(.int (1 : Int32))]) (rest := [(.int b1663)]) (lenOf pd_28I29C rfl) rfl (by show 2 * 0 + _ ≤ _; exact Nat.le_of_eq rfl) (hb hby d7_56)
    obtain ⟨rfl, N1667q, e1667⟩ := hQ1667
    have N1667 := Fr.app N1660 N1667q
    refine GoW.sg (mkF m 59 (Sh19 a1 a2 1 x1 b1663) [(.int y1), (.int b1663)]) (fun t k => st1667 t k) ?_
    by_cases c1668 : b1663 = y1
    ·refine GoW.sg (mkF m 17 (Sh19 a1 a2 2 x1 b1663) [(.ref a2), (.int 2)]) (fun t k => XS.icmpYes X1667.here hx rfl (pc0 := 59) (pc' := 64) rfl (hb hby d7_59) rfl (teq c1668).1 (by decide) (by decide) (XS.iinc X1667.here hx rfl (hb hby d7_64) rfl (l' := (Sh19 a1 a2 2 x1 b1663)) rfl (XS.goto X1667.here hx rfl (pc0 := 67) (pc' := 15) rfl (hb hby d7_67) (by decide) (by decide) (XS.iloadN X1667.here hx rfl (hb hby d7_15) rfl (XS.aloadN X1667.here hx rfl (hb hby d7_16) rfl rfl k))))) ?_
     obtain ⟨_, T1669, L1669, X1669, hQ1669, st1669⟩ := own_virt X1667 hx hZ (y := Y8) hown (ww hw 37 rfl) (ww hw 38 rfl) (ww hw 40 rfl) (ww hw 39 rfl) (ww hw 41 rfl) (ww hw 13 rfl) (by decide) 1 (a := a2) (rmLen2 l Z a0 hw a2 y0 y1 cs h0 n0 P1 hS2 P2 ncs) (by decide) (by decide) e1667 P1 (by decide) (by decide) (g := (mkF m 17 (Sh19 a1 a2 2 x1 b1663) [(.ref a2), (.int 2)])) rfl (by rw [hml]; rfl) (argsL := []) (rest := [(.int (2 : Int32))]) (lenOf pd_2829I rfl) rfl (by show 2 * 0 + _ ≤ _; exact Nat.le_of_eq rfl) (hb hby d7_17)
     obtain ⟨rfl, N1669q, e1669⟩ := hQ1669
     have N1669 := Fr.app N1667 N1669q
     refine GoW.sg (mkF m 20 (Sh19 a1 a2 2 x1 b1663) [(.int 2), (.int 2)]) (fun t k => st1669 t k) ?_
     refine GoW.sg (mkF m 71 (Sh19 a1 a2 2 x1 b1663) [(.int 1)]) (fun t k => XS.icmpYes X1669.here hx rfl (pc0 := 20) (pc' := 70) rfl (hb hby d7_20) rfl (by decide) (by decide) (by decide) (XS.iconst X1669.here hx rfl (hb hby d7_70) k)) ?_
     refine GoW.retN X1669 hx (t := .boolean) Bd.returns (by simp) (hb hby d7_71) Bd.notSynchronized ?_ (by decide) (by decide)
     rw [e1669]
     have hq : (FW22 x0 x1 y0 y1 cs) = (1 : Int32) := by rw [hFb1653, hFb1663]; unfold FW22_2; rw [if_pos c1668]; try rfl
     exact ⟨by rw [hq] <;> rfl, N1669, rfl⟩
    ·refine GoW.sg (mkF m 63 (Sh19 a1 a2 1 x1 b1663) [(.int 0)]) (fun t k => XS.icmpNo X1667.here hx rfl (hb hby d7_59) rfl (feq c1668).1 (XS.iconst X1667.here hx rfl (hb hby d7_62) k)) ?_
     refine GoW.retN X1667 hx (t := .boolean) Bd.returns (by simp) (hb hby d7_63) Bd.notSynchronized ?_ (by decide) (by decide)
     rw [e1667]
     have hq : (FW22 x0 x1 y0 y1 cs) = (0 : Int32) := by rw [hFb1653, hFb1663]; unfold FW22_2; rw [if_neg c1668]; try rfl
     exact ⟨by rw [hq] <;> rfl, N1667, rfl⟩
   by_cases c1665 : x1 < (65 : Int32)
   ·refine GoW.sg (mkF m 50 (Sh19 a1 a2 1 x1 b1653) [(.int x1)]) (fun t k => XS.icmpYes X1660.here hx rfl (pc0 := 32) (pc' := 49) rfl (hb hby d7_32) rfl (tlt c1665).1 (by decide) (by decide) (XS.iloadN X1660.here hx rfl (hb hby d7_49) rfl k)) ?_
    exact J50_1664 _ (by rw [if_pos c1665])
   ·refine GoW.sg (mkF m 38 (Sh19 a1 a2 1 x1 b1653) [(.int 90), (.int x1)]) (fun t k => XS.icmpNo X1660.here hx rfl (hb hby d7_32) rfl (flt c1665).1 (XS.iloadN X1660.here hx rfl (hb hby d7_35) rfl (XS.bipush X1660.here hx rfl (hb hby d7_36) k))) ?_
    by_cases c1666 : (90 : Int32) < x1
    ·refine GoW.sg (mkF m 50 (Sh19 a1 a2 1 x1 b1653) [(.int x1)]) (fun t k => XS.icmpYes X1660.here hx rfl (pc0 := 38) (pc' := 49) rfl (hb hby d7_38) rfl (tlt c1666).2.2.1 (by decide) (by decide) (XS.iloadN X1660.here hx rfl (hb hby d7_49) rfl k)) ?_
     exact J50_1664 _ (by rw [if_neg c1665, if_pos c1666])
    ·refine GoW.sg (mkF m 50 (Sh19 a1 a2 1 x1 b1653) [(.int (x1 + (32 : Int32)).toUInt32.toUInt16.toUInt32.toInt32)]) (fun t k => XS.icmpNo X1660.here hx rfl (hb hby d7_38) rfl (flt c1666).2.2.1 (XS.iloadN X1660.here hx rfl (hb hby d7_41) rfl (XS.bipush X1660.here hx rfl (hb hby d7_42) (XS.iadd X1660.here hx rfl (hb hby d7_44) rfl (XS.i2c X1660.here hx rfl (hb hby d7_45) rfl (XS.goto X1660.here hx rfl (pc0 := 46) (pc' := 50) rfl (hb hby d7_46) (by decide) (by decide) k)))))) ?_
     exact J50_1664 _ (by rw [if_neg c1665, if_neg c1666])
  ·refine GoW.sg (mkF m 63 (Sh19 a1 a2 0 x0 b1653) [(.int 0)]) (fun t k => XS.icmpNo X1657.here hx rfl (hb hby d7_59) rfl (feq c1658).1 (XS.iconst X1657.here hx rfl (hb hby d7_62) k)) ?_
   refine GoW.retN X1657 hx (t := .boolean) Bd.returns (by simp) (hb hby d7_63) Bd.notSynchronized ?_ (by decide) (by decide)
   rw [e1657]
   have hq : (FW22 x0 x1 y0 y1 cs) = (0 : Int32) := by rw [hFb1653]; unfold FW22_1; rw [if_neg c1658]; try rfl
   exact ⟨by rw [hq] <;> rfl, N1657, rfl⟩
 by_cases c1655 : x0 < (65 : Int32)
 ·refine GoW.sg (mkF m 50 (Sh18 a1 a2 0 x0) [(.int x0)]) (fun t k => XS.icmpYes X1650.here hx rfl (pc0 := 32) (pc' := 49) rfl (hb hby d7_32) rfl (tlt c1655).1 (by decide) (by decide) (XS.iloadN X1650.here hx rfl (hb hby d7_49) rfl k)) ?_
  exact J50_1654 _ (by rw [if_pos c1655])
 ·refine GoW.sg (mkF m 38 (Sh18 a1 a2 0 x0) [(.int 90), (.int x0)]) (fun t k => XS.icmpNo X1650.here hx rfl (hb hby d7_32) rfl (flt c1655).1 (XS.iloadN X1650.here hx rfl (hb hby d7_35) rfl (XS.bipush X1650.here hx rfl (hb hby d7_36) k))) ?_
  by_cases c1656 : (90 : Int32) < x0
  ·refine GoW.sg (mkF m 50 (Sh18 a1 a2 0 x0) [(.int x0)]) (fun t k => XS.icmpYes X1650.here hx rfl (pc0 := 38) (pc' := 49) rfl (hb hby d7_38) rfl (tlt c1656).2.2.1 (by decide) (by decide) (XS.iloadN X1650.here hx rfl (hb hby d7_49) rfl k)) ?_
   exact J50_1654 _ (by rw [if_neg c1655, if_pos c1656])
  ·refine GoW.sg (mkF m 50 (Sh18 a1 a2 0 x0) [(.int (x0 + (32 : Int32)).toUInt32.toUInt16.toUInt32.toInt32)]) (fun t k => XS.icmpNo X1650.here hx rfl (hb hby d7_38) rfl (flt c1656).2.2.1 (XS.iloadN X1650.here hx rfl (hb hby d7_41) rfl (XS.bipush X1650.here hx rfl (hb hby d7_42) (XS.iadd X1650.here hx rfl (hb hby d7_44) rfl (XS.i2c X1650.here hx rfl (hb hby d7_45) rfl (XS.goto X1650.here hx rfl (pc0 := 46) (pc' := 50) rfl (hb hby d7_46) (by decide) (by decide) k)))))) ?_
   exact J50_1654 _ (by rw [if_neg c1655, if_neg c1656])
def QW23 (Z : State) (a1 : Addr) (a2 : Addr) (x0 : Int32) (x1 : Int32) (y0 : Int32) (y1 : Int32) (y2 : Int32) (cs : Int32) (vf : Value) (h0 : Heap) (n0 : Nat) (v : Option Value) (h : Heap) (L : List Loc) : Prop := v = some (.int 0) ∧ Fr n0 L ∧ (h = h0)
theorem rmW23 (l : Launch) (Z : State) (a0 : Array Value) (hw : HW a0 Z) (a1 : Addr) (a2 : Addr) (x0 : Int32) (x1 : Int32) (y0 : Int32) (y1 : Int32) (y2 : Int32) (cs : Int32) (vf : Value) (h0 : Heap) (n0 : Nat) (P0 : Exa Z h0 a1 "java/lang/String") (P1 : Exa Z h0 a2 "java/lang/String") (P2 : Sta Z h0 "java/lang/String" "COMPACT_STRINGS" "Z" (.int cs)) (P3 : Sta Z h0 "java/lang/StringUTF16" "$assertionsDisabled" "Z" (.int 1)) (P4 : Sta Z h0 "java/lang/StringUTF16" "HI_BYTE_SHIFT" "I" (.int 0)) (P5 : Sta Z h0 "java/lang/StringUTF16" "LO_BYTE_SHIFT" "I" (.int 8)) (P6 : Sta Z h0 "jdk/internal/util/Preconditions" "SIOOBE_FORMATTER" "Ljava/util/function/BiFunction;" vf) (hS1 : Str2 Z h0 a1 x0 x1) (hS2 : Str3 Z h0 a2 y0 y1 y2) (hvf : vf.isRef = true) (lo_x0 : ¬ (x0 < (0 : Int32))) (hi_x0 : ¬ ((65535 : Int32) < x0)) (lo_x1 : ¬ (x1 < (0 : Int32))) (hi_x1 : ¬ ((65535 : Int32) < x1)) (lo_y0 : ¬ (y0 < (0 : Int32))) (hi_y0 : ¬ ((65535 : Int32) < y0)) (lo_y1 : ¬ (y1 < (0 : Int32))) (hi_y1 : ¬ ((65535 : Int32) < y1)) (lo_y2 : ¬ (y2 < (0 : Int32))) (hi_y2 : ¬ ((65535 : Int32) < y2)) (ncs : ¬ (cs = (0 : Int32))) :
  MM l Z Y7 prog_10_method_5_code 5 (some .boolean) 5 0 0 67 #[(.ref a1), (.ref a2)] h0 (QW23 Z a1 a2 x0 x1 y0 y1 y2 cs vf h0 n0) := by
 refine own_start (fun m => (mkF m 0 (Sh16 a1 a2) [])) (plainFor_of_name pn_com_example_throttle_throttle_SipSyntax) (by simp [entryFrame, mkF, argsToLocals, Value.category]) n0 ?_
 intro p e s m below meth c s₁ Bd hx hby hml hZ hown hnm X0 e0 N0
 refine GoW.sg (mkF m 1 (Sh16 a1 a2) [(.ref a1)]) (fun t k => XS.aloadN X0.here hx rfl (hb hby d7_0) rfl rfl k) ?_
 obtain ⟨_, T1670, L1670, X1670, hQ1670, st1670⟩ := own_virt X0 hx hZ (y := Y8) hown (ww hw 37 rfl) (ww hw 38 rfl) (ww hw 40 rfl) (ww hw 39 rfl) (ww hw 41 rfl) (ww hw 13 rfl) (by decide) 0 (a := a1) (rmLen2 l Z a0 hw a1 x0 x1 cs h0 n0 P0 hS1 P2 ncs) (by decide) (by decide) e0 P0 (by decide) (by decide) (g := (mkF m 1 (Sh16 a1 a2) [(.ref a1)])) rfl (by rw [hml]; rfl) (argsL := []) (rest := []) (lenOf pd_2829I rfl) rfl (by show 2 * 0 + _ ≤ _; exact Nat.le_of_eq rfl) (hb hby d7_1)
 obtain ⟨rfl, N1670q, e1670⟩ := hQ1670
 have N1670 := Fr.app N0 N1670q
 refine GoW.sg (mkF m 4 (Sh16 a1 a2) [(.int 2)]) (fun t k => st1670 t k) ?_
 refine GoW.sg (mkF m 5 (Sh16 a1 a2) [(.ref a2), (.int 2)]) (fun t k => XS.aloadN X1670.here hx rfl (hb hby d7_4) rfl rfl k) ?_
 obtain ⟨_, T1671, L1671, X1671, hQ1671, st1671⟩ := own_virt X1670 hx hZ (y := Y8) hown (ww hw 37 rfl) (ww hw 38 rfl) (ww hw 40 rfl) (ww hw 39 rfl) (ww hw 41 rfl) (ww hw 13 rfl) (by decide) 1 (a := a2) (rmLen3 l Z a0 hw a2 y0 y1 y2 cs h0 n0 P1 hS2 P2 ncs) (by decide) (by decide) e1670 P1 (by decide) (by decide) (g := (mkF m 5 (Sh16 a1 a2) [(.ref a2), (.int 2)])) rfl (by rw [hml]; rfl) (argsL := []) (rest := [(.int (2 : Int32))]) (lenOf pd_2829I rfl) rfl (by show 2 * 0 + _ ≤ _; exact Nat.le_of_eq rfl) (hb hby d7_5)
 obtain ⟨rfl, N1671q, e1671⟩ := hQ1671
 have N1671 := Fr.app N1670 N1671q
 refine GoW.sg (mkF m 8 (Sh16 a1 a2) [(.int 3), (.int 2)]) (fun t k => st1671 t k) ?_
 refine GoW.sg (mkF m 12 (Sh16 a1 a2) [(.int 0)]) (fun t k => XS.icmpNo X1671.here hx rfl (hb hby d7_8) rfl (by decide) (XS.iconst X1671.here hx rfl (hb hby d7_11) k)) ?_
 refine GoW.retN X1671 hx (t := .boolean) Bd.returns (by simp) (hb hby d7_12) Bd.notSynchronized ?_ (by decide) (by decide)
 rw [e1671]
 exact ⟨rfl, N1671, rfl⟩
def QW30 (Z : State) (a1 : Addr) (a2 : Addr) (x0 : Int32) (x1 : Int32) (x2 : Int32) (cs : Int32) (vf : Value) (h0 : Heap) (n0 : Nat) (v : Option Value) (h : Heap) (L : List Loc) : Prop := v = some (.int 1) ∧ Fr n0 L ∧ (h = h0)
theorem rmW30 (l : Launch) (Z : State) (a0 : Array Value) (hw : HW a0 Z) (a1 : Addr) (a2 : Addr) (x0 : Int32) (x1 : Int32) (x2 : Int32) (cs : Int32) (vf : Value) (h0 : Heap) (n0 : Nat) (P0 : Exa Z h0 a1 "java/lang/String") (P1 : Exa Z h0 a2 "java/lang/String") (P2 : Sta Z h0 "java/lang/String" "COMPACT_STRINGS" "Z" (.int cs)) (P3 : Sta Z h0 "java/lang/StringUTF16" "$assertionsDisabled" "Z" (.int 1)) (P4 : Sta Z h0 "java/lang/StringUTF16" "HI_BYTE_SHIFT" "I" (.int 0)) (P5 : Sta Z h0 "java/lang/StringUTF16" "LO_BYTE_SHIFT" "I" (.int 8)) (P6 : Sta Z h0 "jdk/internal/util/Preconditions" "SIOOBE_FORMATTER" "Ljava/util/function/BiFunction;" vf) (hS1 : Str3 Z h0 a1 x0 x1 x2) (hS2 : Str0 Z h0 a2 ) (hvf : vf.isRef = true) (lo_x0 : ¬ (x0 < (0 : Int32))) (hi_x0 : ¬ ((65535 : Int32) < x0)) (lo_x1 : ¬ (x1 < (0 : Int32))) (hi_x1 : ¬ ((65535 : Int32) < x1)) (lo_x2 : ¬ (x2 < (0 : Int32))) (hi_x2 : ¬ ((65535 : Int32) < x2)) (ncs : ¬ (cs = (0 : Int32))) :
  MM l Z Y7 prog_10_method_5_code 5 (some .boolean) 5 0 0 67 #[(.ref a1), (.ref a2)] h0 (QW30 Z a1 a2 x0 x1 x2 cs vf h0 n0) := by
 refine own_start (fun m => (mkF m 0 (Sh16 a1 a2) [])) (plainFor_of_name pn_com_example_throttle_throttle_SipSyntax) (by simp [entryFrame, mkF, argsToLocals, Value.category]) n0 ?_
 intro p e s m below meth c s₁ Bd hx hby hml hZ hown hnm X0 e0 N0
 refine GoW.sg (mkF m 1 (Sh16 a1 a2) [(.ref a1)]) (fun t k => XS.aloadN X0.here hx rfl (hb hby d7_0) rfl rfl k) ?_
 obtain ⟨_, T1672, L1672, X1672, hQ1672, st1672⟩ := own_virt X0 hx hZ (y := Y8) hown (ww hw 37 rfl) (ww hw 38 rfl) (ww hw 40 rfl) (ww hw 39 rfl) (ww hw 41 rfl) (ww hw 13 rfl) (by decide) 0 (a := a1) (rmLen3 l Z a0 hw a1 x0 x1 x2 cs h0 n0 P0 hS1 P2 ncs) (by decide) (by decide) e0 P0 (by decide) (by decide) (g := (mkF m 1 (Sh16 a1 a2) [(.ref a1)])) rfl (by rw [hml]; rfl) (argsL := []) (rest := []) (lenOf pd_2829I rfl) rfl (by show 2 * 0 + _ ≤ _; exact Nat.le_of_eq rfl) (hb hby d7_1)
 obtain ⟨rfl, N1672q, e1672⟩ := hQ1672
 have N1672 := Fr.app N0 N1672q
 refine GoW.sg (mkF m 4 (Sh16 a1 a2) [(.int 3)]) (fun t k => st1672 t k) ?_
 refine GoW.sg (mkF m 5 (Sh16 a1 a2) [(.ref a2), (.int 3)]) (fun t k => XS.aloadN X1672.here hx rfl (hb hby d7_4) rfl rfl k) ?_
 obtain ⟨_, T1673, L1673, X1673, hQ1673, st1673⟩ := own_virt X1672 hx hZ (y := Y8) hown (ww hw 37 rfl) (ww hw 38 rfl) (ww hw 40 rfl) (ww hw 39 rfl) (ww hw 41 rfl) (ww hw 13 rfl) (by decide) 1 (a := a2) (rmLen0 l Z a0 hw a2  cs h0 n0 P1 hS2 P2 ncs) (by decide) (by decide) e1672 P1 (by decide) (by decide) (g := (mkF m 5 (Sh16 a1 a2) [(.ref a2), (.int 3)])) rfl (by rw [hml]; rfl) (argsL := []) (rest := [(.int (3 : Int32))]) (lenOf pd_2829I rfl) rfl (by show 2 * 0 + _ ≤ _; exact Nat.le_of_eq rfl) (hb hby d7_5)
 obtain ⟨rfl, N1673q, e1673⟩ := hQ1673
 have N1673 := Fr.app N1672 N1673q
 refine GoW.sg (mkF m 8 (Sh16 a1 a2) [(.int 0), (.int 3)]) (fun t k => st1673 t k) ?_
 refine GoW.sg (mkF m 17 (Sh17 a1 a2 0) [(.ref a2), (.int 0)]) (fun t k => XS.icmpYes X1673.here hx rfl (pc0 := 8) (pc' := 13) rfl (hb hby d7_8) rfl (by decide) (by decide) (by decide) (XS.iconst X1673.here hx rfl (hb hby d7_13) (XS.istoreN X1673.here hx rfl (hb hby d7_14) rfl (l' := (Sh17 a1 a2 0)) rfl (XS.iloadN X1673.here hx rfl (hb hby d7_15) rfl (XS.aloadN X1673.here hx rfl (hb hby d7_16) rfl rfl k))))) ?_
 obtain ⟨_, T1674, L1674, X1674, hQ1674, st1674⟩ := own_virt X1673 hx hZ (y := Y8) hown (ww hw 37 rfl) (ww hw 38 rfl) (ww hw 40 rfl) (ww hw 39 rfl) (ww hw 41 rfl) (ww hw 13 rfl) (by decide) 1 (a := a2) (rmLen0 l Z a0 hw a2  cs h0 n0 P1 hS2 P2 ncs) (by decide) (by decide) e1673 P1 (by decide) (by decide) (g := (mkF m 17 (Sh17 a1 a2 0) [(.ref a2), (.int 0)])) rfl (by rw [hml]; rfl) (argsL := []) (rest := [(.int (0 : Int32))]) (lenOf pd_2829I rfl) rfl (by show 2 * 0 + _ ≤ _; exact Nat.le_of_eq rfl) (hb hby d7_17)
 obtain ⟨rfl, N1674q, e1674⟩ := hQ1674
 have N1674 := Fr.app N1673 N1674q
 refine GoW.sg (mkF m 20 (Sh17 a1 a2 0) [(.int 0), (.int 0)]) (fun t k => st1674 t k) ?_
 refine GoW.sg (mkF m 71 (Sh17 a1 a2 0) [(.int 1)]) (fun t k => XS.icmpYes X1674.here hx rfl (pc0 := 20) (pc' := 70) rfl (hb hby d7_20) rfl (by decide) (by decide) (by decide) (XS.iconst X1674.here hx rfl (hb hby d7_70) k)) ?_
 refine GoW.retN X1674 hx (t := .boolean) Bd.returns (by simp) (hb hby d7_71) Bd.notSynchronized ?_ (by decide) (by decide)
 rw [e1674]
 exact ⟨rfl, N1674, rfl⟩
def FW31_1 (x0 : Int32) (x1 : Int32) (x2 : Int32) (y0 : Int32) (cs : Int32) (b1681 : Int32) : Int32 := (if b1681 = y0 then (1 : Int32) else (0 : Int32))
def FW31 (x0 : Int32) (x1 : Int32) (x2 : Int32) (y0 : Int32) (cs : Int32) : Int32 := (FW31_1 x0 x1 x2 y0 cs (if x0 < (65 : Int32) then x0 else (if (90 : Int32) < x0 then x0 else (x0 + (32 : Int32)).toUInt32.toUInt16.toUInt32.toInt32)))
def QW31 (Z : State) (a1 : Addr) (a2 : Addr) (x0 : Int32) (x1 : Int32) (x2 : Int32) (y0 : Int32) (cs : Int32) (vf : Value) (h0 : Heap) (n0 : Nat) (v : Option Value) (h : Heap) (L : List Loc) : Prop := v = some (.int (FW31 x0 x1 x2 y0 cs)) ∧ Fr n0 L ∧ (h = h0)
theorem rmW31 (l : Launch) (Z : State) (a0 : Array Value) (hw : HW a0 Z) (a1 : Addr) (a2 : Addr) (x0 : Int32) (x1 : Int32) (x2 : Int32) (y0 : Int32) (cs : Int32) (vf : Value) (h0 : Heap) (n0 : Nat) (P0 : Exa Z h0 a1 "java/lang/String") (P1 : Exa Z h0 a2 "java/lang/String") (P2 : Sta Z h0 "java/lang/String" "COMPACT_STRINGS" "Z" (.int cs)) (P3 : Sta Z h0 "java/lang/StringUTF16" "$assertionsDisabled" "Z" (.int 1)) (P4 : Sta Z h0 "java/lang/StringUTF16" "HI_BYTE_SHIFT" "I" (.int 0)) (P5 : Sta Z h0 "java/lang/StringUTF16" "LO_BYTE_SHIFT" "I" (.int 8)) (P6 : Sta Z h0 "jdk/internal/util/Preconditions" "SIOOBE_FORMATTER" "Ljava/util/function/BiFunction;" vf) (hS1 : Str3 Z h0 a1 x0 x1 x2) (hS2 : Str1 Z h0 a2 y0) (hvf : vf.isRef = true) (lo_x0 : ¬ (x0 < (0 : Int32))) (hi_x0 : ¬ ((65535 : Int32) < x0)) (lo_x1 : ¬ (x1 < (0 : Int32))) (hi_x1 : ¬ ((65535 : Int32) < x1)) (lo_x2 : ¬ (x2 < (0 : Int32))) (hi_x2 : ¬ ((65535 : Int32) < x2)) (lo_y0 : ¬ (y0 < (0 : Int32))) (hi_y0 : ¬ ((65535 : Int32) < y0)) (ncs : ¬ (cs = (0 : Int32))) :
  MM l Z Y7 prog_10_method_5_code 5 (some .boolean) 5 0 0 67 #[(.ref a1), (.ref a2)] h0 (QW31 Z a1 a2 x0 x1 x2 y0 cs vf h0 n0) := by
 refine own_start (fun m => (mkF m 0 (Sh16 a1 a2) [])) (plainFor_of_name pn_com_example_throttle_throttle_SipSyntax) (by simp [entryFrame, mkF, argsToLocals, Value.category]) n0 ?_
 intro p e s m below meth c s₁ Bd hx hby hml hZ hown hnm X0 e0 N0
 refine GoW.sg (mkF m 1 (Sh16 a1 a2) [(.ref a1)]) (fun t k => XS.aloadN X0.here hx rfl (hb hby d7_0) rfl rfl k) ?_
 obtain ⟨_, T1675, L1675, X1675, hQ1675, st1675⟩ := own_virt X0 hx hZ (y := Y8) hown (ww hw 37 rfl) (ww hw 38 rfl) (ww hw 40 rfl) (ww hw 39 rfl) (ww hw 41 rfl) (ww hw 13 rfl) (by decide) 0 (a := a1) (rmLen3 l Z a0 hw a1 x0 x1 x2 cs h0 n0 P0 hS1 P2 ncs) (by decide) (by decide) e0 P0 (by decide) (by decide) (g := (mkF m 1 (Sh16 a1 a2) [(.ref a1)])) rfl (by rw [hml]; rfl) (argsL := []) (rest := []) (lenOf pd_2829I rfl) rfl (by show 2 * 0 + _ ≤ _; exact Nat.le_of_eq rfl) (hb hby d7_1)
 obtain ⟨rfl, N1675q, e1675⟩ := hQ1675
 have N1675 := Fr.app N0 N1675q
 refine GoW.sg (mkF m 4 (Sh16 a1 a2) [(.int 3)]) (fun t k => st1675 t k) ?_
 refine GoW.sg (mkF m 5 (Sh16 a1 a2) [(.ref a2), (.int 3)]) (fun t k => XS.aloadN X1675.here hx rfl (hb hby d7_4) rfl rfl k) ?_
 obtain ⟨_, T1676, L1676, X1676, hQ1676, st1676⟩ := own_virt X1675 hx hZ (y := Y8) hown (ww hw 37 rfl) (ww hw 38 rfl) (ww hw 40 rfl) (ww hw 39 rfl) (ww hw 41 rfl) (ww hw 13 rfl) (by decide) 1 (a := a2) (rmLen1 l Z a0 hw a2 y0 cs h0 n0 P1 hS2 P2 ncs) (by decide) (by decide) e1675 P1 (by decide) (by decide) (g := (mkF m 5 (Sh16 a1 a2) [(.ref a2), (.int 3)])) rfl (by rw [hml]; rfl) (argsL := []) (rest := [(.int (3 : Int32))]) (lenOf pd_2829I rfl) rfl (by show 2 * 0 + _ ≤ _; exact Nat.le_of_eq rfl) (hb hby d7_5)
 obtain ⟨rfl, N1676q, e1676⟩ := hQ1676
 have N1676 := Fr.app N1675 N1676q
 refine GoW.sg (mkF m 8 (Sh16 a1 a2) [(.int 1), (.int 3)]) (fun t k => st1676 t k) ?_
 refine GoW.sg (mkF m 17 (Sh17 a1 a2 0) [(.ref a2), (.int 0)]) (fun t k => XS.icmpYes X1676.here hx rfl (pc0 := 8) (pc' := 13) rfl (hb hby d7_8) rfl (by decide) (by decide) (by decide) (XS.iconst X1676.here hx rfl (hb hby d7_13) (XS.istoreN X1676.here hx rfl (hb hby d7_14) rfl (l' := (Sh17 a1 a2 0)) rfl (XS.iloadN X1676.here hx rfl (hb hby d7_15) rfl (XS.aloadN X1676.here hx rfl (hb hby d7_16) rfl rfl k))))) ?_
 obtain ⟨_, T1677, L1677, X1677, hQ1677, st1677⟩ := own_virt X1676 hx hZ (y := Y8) hown (ww hw 37 rfl) (ww hw 38 rfl) (ww hw 40 rfl) (ww hw 39 rfl) (ww hw 41 rfl) (ww hw 13 rfl) (by decide) 1 (a := a2) (rmLen1 l Z a0 hw a2 y0 cs h0 n0 P1 hS2 P2 ncs) (by decide) (by decide) e1676 P1 (by decide) (by decide) (g := (mkF m 17 (Sh17 a1 a2 0) [(.ref a2), (.int 0)])) rfl (by rw [hml]; rfl) (argsL := []) (rest := [(.int (0 : Int32))]) (lenOf pd_2829I rfl) rfl (by show 2 * 0 + _ ≤ _; exact Nat.le_of_eq rfl) (hb hby d7_17)
 obtain ⟨rfl, N1677q, e1677⟩ := hQ1677
 have N1677 := Fr.app N1676 N1677q
 refine GoW.sg (mkF m 20 (Sh17 a1 a2 0) [(.int 1), (.int 0)]) (fun t k => st1677 t k) ?_
 refine GoW.sg (mkF m 25 (Sh17 a1 a2 0) [(.int 0), (.ref a1)]) (fun t k => XS.icmpNo X1677.here hx rfl (hb hby d7_20) rfl (by decide) (XS.aloadN X1677.here hx rfl (hb hby d7_23) rfl rfl (XS.iloadN X1677.here hx rfl (hb hby d7_24) rfl k))) ?_
 obtain ⟨_, T1678, L1678, X1678, hQ1678, st1678⟩ := own_virt X1677 hx hZ (y := Y19) hown (ww hw 80 rfl) (ww hw 81 rfl) (ww hw 83 rfl) (ww hw 82 rfl) (ww hw 84 rfl) (ww hw 13 rfl) (by decide) 0 (a := a1) (rmCh30 l Z a0 hw a1 x0 x1 x2 cs vf h0 n0 P0 hS1 P2 P3 P4 P5 P6 hvf lo_x0 hi_x0 lo_x1 hi_x1 lo_x2 hi_x2 ncs) (by decide) (by decide) e1677 P0 (by decide) (by decide) (g := (mkF m 25 (Sh17 a1 a2 0) [(.int 0), (.ref a1)])) rfl (by rw [hml]; rfl) (argsL := [(.int (0 : Int32))]) (rest := []) (lenOf pd_28I29C rfl) rfl (by show 2 * 0 + _ ≤ _; exact Nat.le_of_eq rfl) (hb hby d7_25)
 obtain ⟨rfl, N1678q, e1678⟩ := hQ1678
 have N1678 := Fr.app N1677 N1678q
 refine GoW.sg (mkF m 28 (Sh17 a1 a2 0) [(.int x0)]) (fun t k => st1678 t k) ?_
 refine GoW.sg (mkF m 32 (Sh18 a1 a2 0 x0) [(.int 65), (.int x0)]) (fun t k => XS.istoreN X1678.here hx rfl (hb hby d7_28) rfl (l' := (Sh18 a1 a2 0 x0)) rfl (XS.iloadN X1678.here hx rfl (hb hby d7_29) rfl (XS.bipush X1678.here hx rfl (hb hby d7_30) k))) ?_
 have J50_1682 : ∀ b1681 : Int32, b1681 = (if x0 < (65 : Int32) then x0 else (if (90 : Int32) < x0 then x0 else (x0 + (32 : Int32)).toUInt32.toUInt16.toUInt32.toInt32)) → GoW p e below s (QW31 Z a1 a2 x0 x1 x2 y0 cs vf h0 n0) 0 0 (T1678.setTop (mkF m 50 (Sh18 a1 a2 0 x0) [(.int b1681)])) := by
  intro b1681 hb1681
  have hFb1681 : (FW31 x0 x1 x2 y0 cs) = (FW31_1 x0 x1 x2 y0 cs b1681) := by unfold FW31; rw [hb1681]
  refine GoW.sg (mkF m 56 (Sh19 a1 a2 0 x0 b1681) [(.int 0), (.ref a2), (.int b1681)]) (fun t k => XS.istore X1678.here hx rfl (hb hby d7_50) rfl (l' := (Sh19 a1 a2 0 x0 b1681)) rfl (XS.iload X1678.here hx rfl (hb hby d7_52) rfl (XS.aloadN X1678.here hx rfl (hb hby d7_54) rfl rfl (XS.iloadN X1678.here hx rfl (hb hby d7_55) rfl k)))) ?_
  obtain ⟨_, T1685, L1685, X1685, hQ1685, st1685⟩ := own_virt X1678 hx hZ (y := Y19) hown (ww hw 80 rfl) (ww hw 81 rfl) (ww hw 83 rfl) (ww hw 82 rfl) (ww hw 84 rfl) (ww hw 13 rfl) (by decide) 1 (a := a2) (rmCh10 l Z a0 hw a2 y0 cs vf h0 n0 P1 hS2 P2 P3 P4 P5 P6 hvf lo_y0 hi_y0 ncs) (by decide) (by decide) e1678 P1 (by decide) (by decide) (g := (mkF m 56 (Sh19 a1 a2 0 x0 b1681) [(.int 0), (.ref a2), (.int b1681)])) rfl (by rw [hml]; rfl) (argsL := [(.int (0 : Int32))]) (rest := [(.int b1681)]) (lenOf pd_28I29C rfl) rfl (by show 2 * 0 + _ ≤ _; exact Nat.le_of_eq rfl) (hb hby d7_56)
  obtain ⟨rfl, N1685q, e1685⟩ := hQ1685
  have N1685 := Fr.app N1678 N1685q
  refine GoW.sg (mkF m 59 (Sh19 a1 a2 0 x0 b1681) [(.int y0), (.int b1681)]) (fun t k => st1685 t k) ?_
  by_cases c1686 : b1681 = y0
  ·refine GoW.sg (mkF m 17 (Sh19 a1 a2 1 x0 b1681) [(.ref a2), (.int 1)]) (fun t k => XS.icmpYes X1685.here hx rfl (pc0 := 59) (pc' := 64) rfl (hb hby d7_59) rfl (teq c1686).1 (by decide) (by decide) (XS.iinc X1685.here hx rfl (hb hby d7_64) rfl (l' := (Sh19 a1 a2 1 x0 b1681)) rfl (XS.goto X1685.here hx rfl (pc0 := 67) (pc' := 15) rfl (hb hby d7_67) (by decide) (by decide) (XS.iloadN X1685.here hx rfl (hb hby d7_15) rfl (XS.aloadN X1685.here hx rfl (hb hby d7_16) rfl rfl k))))) ?_
   obtain ⟨_, T1687, L1687, X1687, hQ1687, st1687⟩ := own_virt X1685 hx hZ (y := Y8) hown (ww hw 37 rfl) (ww hw 38 rfl) (ww hw 40 rfl) (ww hw 39 rfl) (ww hw 41 rfl) (ww hw 13 rfl) (by decide) 1 (a := a2) (rmLen1 l Z a0 hw a2 y0 cs h0 n0 P1 hS2 P2 ncs) (by decide) (by decide) e1685 P1 (by decide) (by decide) (g := (mkF m 17 (Sh19 a1 a2 1 x0 b1681) [(.ref a2), (.int 1)])) rfl (by rw [hml]; rfl) (argsL := []) (rest := [(.int (1 : Int32))]) (lenOf pd_2829I rfl) rfl (by show 2 * 0 + _ ≤ _; exact Nat.le_of_eq rfl) (hb hby d7_17)
   obtain ⟨rfl, N1687q, e1687⟩ := hQ1687
   have N1687 := Fr.app N1685 N1687q
   refine GoW.sg (mkF m 20 (Sh19 a1 a2 1 x0 b1681) [(.int 1), (.int 1)]) (fun t k => st1687 t k) ?_
   refine GoW.sg (mkF m 71 (Sh19 a1 a2 1 x0 b1681) [(.int 1)]) (fun t k => XS.icmpYes X1687.here hx rfl (pc0 := 20) (pc' := 70) rfl (hb hby d7_20) rfl (by decide) (by decide) (by decide) (XS.iconst X1687.here hx rfl (hb hby d7_70) k)) ?_
   refine GoW.retN X1687 hx (t := .boolean) Bd.returns (by simp) (hb hby d7_71) Bd.notSynchronized ?_ (by decide) (by decide)
   rw [e1687]
   have hq : (FW31 x0 x1 x2 y0 cs) = (1 : Int32) := by rw [hFb1681]; unfold FW31_1; rw [if_pos c1686]; try rfl
   exact ⟨by rw [hq] <;> rfl, N1687, rfl⟩
  ·refine GoW.sg (mkF m 63 (Sh19 a1 a2 0 x0 b1681) [(.int 0)]) (fun t k => XS.icmpNo X1685.here hx rfl (hb hby d7_59) rfl (feq c1686).1 (XS.iconst X1685.here hx rfl (hb hby d7_62) k)) ?_
   refine GoW.retN X1685 hx (t := .boolean) Bd.returns (by simp) (hb hby d7_63) Bd.notSynchronized ?_ (by decide) (by decide)
   rw [e1685]
   have hq : (FW31 x0 x1 x2 y0 cs) = (0 : Int32) := by rw [hFb1681]; unfold FW31_1; rw [if_neg c1686]; try rfl
   exact ⟨by rw [hq] <;> rfl, N1685, rfl⟩
 by_cases c1683 : x0 < (65 : Int32)
 ·refine GoW.sg (mkF m 50 (Sh18 a1 a2 0 x0) [(.int x0)]) (fun t k => XS.icmpYes X1678.here hx rfl (pc0 := 32) (pc' := 49) rfl (hb hby d7_32) rfl (tlt c1683).1 (by decide) (by decide) (XS.iloadN X1678.here hx rfl (hb hby d7_49) rfl k)) ?_
  exact J50_1682 _ (by rw [if_pos c1683])
 ·refine GoW.sg (mkF m 38 (Sh18 a1 a2 0 x0) [(.int 90), (.int x0)]) (fun t k => XS.icmpNo X1678.here hx rfl (hb hby d7_32) rfl (flt c1683).1 (XS.iloadN X1678.here hx rfl (hb hby d7_35) rfl (XS.bipush X1678.here hx rfl (hb hby d7_36) k))) ?_
  by_cases c1684 : (90 : Int32) < x0
  ·refine GoW.sg (mkF m 50 (Sh18 a1 a2 0 x0) [(.int x0)]) (fun t k => XS.icmpYes X1678.here hx rfl (pc0 := 38) (pc' := 49) rfl (hb hby d7_38) rfl (tlt c1684).2.2.1 (by decide) (by decide) (XS.iloadN X1678.here hx rfl (hb hby d7_49) rfl k)) ?_
   exact J50_1682 _ (by rw [if_neg c1683, if_pos c1684])
  ·refine GoW.sg (mkF m 50 (Sh18 a1 a2 0 x0) [(.int (x0 + (32 : Int32)).toUInt32.toUInt16.toUInt32.toInt32)]) (fun t k => XS.icmpNo X1678.here hx rfl (hb hby d7_38) rfl (flt c1684).2.2.1 (XS.iloadN X1678.here hx rfl (hb hby d7_41) rfl (XS.bipush X1678.here hx rfl (hb hby d7_42) (XS.iadd X1678.here hx rfl (hb hby d7_44) rfl (XS.i2c X1678.here hx rfl (hb hby d7_45) rfl (XS.goto X1678.here hx rfl (pc0 := 46) (pc' := 50) rfl (hb hby d7_46) (by decide) (by decide) k)))))) ?_
   exact J50_1682 _ (by rw [if_neg c1683, if_neg c1684])
def FW32_2 (x0 : Int32) (x1 : Int32) (x2 : Int32) (y0 : Int32) (y1 : Int32) (cs : Int32) (b1694 : Int32) (b1704 : Int32) : Int32 := (if b1704 = y1 then (1 : Int32) else (0 : Int32))
def FW32_1 (x0 : Int32) (x1 : Int32) (x2 : Int32) (y0 : Int32) (y1 : Int32) (cs : Int32) (b1694 : Int32) : Int32 := (if b1694 = y0 then (FW32_2 x0 x1 x2 y0 y1 cs b1694 (if x1 < (65 : Int32) then x1 else (if (90 : Int32) < x1 then x1 else (x1 + (32 : Int32)).toUInt32.toUInt16.toUInt32.toInt32))) else (0 : Int32))
def FW32 (x0 : Int32) (x1 : Int32) (x2 : Int32) (y0 : Int32) (y1 : Int32) (cs : Int32) : Int32 := (FW32_1 x0 x1 x2 y0 y1 cs (if x0 < (65 : Int32) then x0 else (if (90 : Int32) < x0 then x0 else (x0 + (32 : Int32)).toUInt32.toUInt16.toUInt32.toInt32)))
def QW32 (Z : State) (a1 : Addr) (a2 : Addr) (x0 : Int32) (x1 : Int32) (x2 : Int32) (y0 : Int32) (y1 : Int32) (cs : Int32) (vf : Value) (h0 : Heap) (n0 : Nat) (v : Option Value) (h : Heap) (L : List Loc) : Prop := v = some (.int (FW32 x0 x1 x2 y0 y1 cs)) ∧ Fr n0 L ∧ (h = h0)
theorem rmW32 (l : Launch) (Z : State) (a0 : Array Value) (hw : HW a0 Z) (a1 : Addr) (a2 : Addr) (x0 : Int32) (x1 : Int32) (x2 : Int32) (y0 : Int32) (y1 : Int32) (cs : Int32) (vf : Value) (h0 : Heap) (n0 : Nat) (P0 : Exa Z h0 a1 "java/lang/String") (P1 : Exa Z h0 a2 "java/lang/String") (P2 : Sta Z h0 "java/lang/String" "COMPACT_STRINGS" "Z" (.int cs)) (P3 : Sta Z h0 "java/lang/StringUTF16" "$assertionsDisabled" "Z" (.int 1)) (P4 : Sta Z h0 "java/lang/StringUTF16" "HI_BYTE_SHIFT" "I" (.int 0)) (P5 : Sta Z h0 "java/lang/StringUTF16" "LO_BYTE_SHIFT" "I" (.int 8)) (P6 : Sta Z h0 "jdk/internal/util/Preconditions" "SIOOBE_FORMATTER" "Ljava/util/function/BiFunction;" vf) (hS1 : Str3 Z h0 a1 x0 x1 x2) (hS2 : Str2 Z h0 a2 y0 y1) (hvf : vf.isRef = true) (lo_x0 : ¬ (x0 < (0 : Int32))) (hi_x0 : ¬ ((65535 : Int32) < x0)) (lo_x1 : ¬ (x1 < (0 : Int32))) (hi_x1 : ¬ ((65535 : Int32) < x1)) (lo_x2 : ¬ (x2 < (0 : Int32))) (hi_x2 : ¬ ((65535 : Int32) < x2)) (lo_y0 : ¬ (y0 < (0 : Int32))) (hi_y0 : ¬ ((65535 : Int32) < y0)) (lo_y1 : ¬ (y1 < (0 : Int32))) (hi_y1 : ¬ ((65535 : Int32) < y1)) (ncs : ¬ (cs = (0 : Int32))) :
  MM l Z Y7 prog_10_method_5_code 5 (some .boolean) 5 0 0 67 #[(.ref a1), (.ref a2)] h0 (QW32 Z a1 a2 x0 x1 x2 y0 y1 cs vf h0 n0) := by
 refine own_start (fun m => (mkF m 0 (Sh16 a1 a2) [])) (plainFor_of_name pn_com_example_throttle_throttle_SipSyntax) (by simp [entryFrame, mkF, argsToLocals, Value.category]) n0 ?_
 intro p e s m below meth c s₁ Bd hx hby hml hZ hown hnm X0 e0 N0
 refine GoW.sg (mkF m 1 (Sh16 a1 a2) [(.ref a1)]) (fun t k => XS.aloadN X0.here hx rfl (hb hby d7_0) rfl rfl k) ?_
 obtain ⟨_, T1688, L1688, X1688, hQ1688, st1688⟩ := own_virt X0 hx hZ (y := Y8) hown (ww hw 37 rfl) (ww hw 38 rfl) (ww hw 40 rfl) (ww hw 39 rfl) (ww hw 41 rfl) (ww hw 13 rfl) (by decide) 0 (a := a1) (rmLen3 l Z a0 hw a1 x0 x1 x2 cs h0 n0 P0 hS1 P2 ncs) (by decide) (by decide) e0 P0 (by decide) (by decide) (g := (mkF m 1 (Sh16 a1 a2) [(.ref a1)])) rfl (by rw [hml]; rfl) (argsL := []) (rest := []) (lenOf pd_2829I rfl) rfl (by show 2 * 0 + _ ≤ _; exact Nat.le_of_eq rfl) (hb hby d7_1)
 obtain ⟨rfl, N1688q, e1688⟩ := hQ1688
 have N1688 := Fr.app N0 N1688q
 refine GoW.sg (mkF m 4 (Sh16 a1 a2) [(.int 3)]) (fun t k => st1688 t k) ?_
 refine GoW.sg (mkF m 5 (Sh16 a1 a2) [(.ref a2), (.int 3)]) (fun t k => XS.aloadN X1688.here hx rfl (hb hby d7_4) rfl rfl k) ?_
 obtain ⟨_, T1689, L1689, X1689, hQ1689, st1689⟩ := own_virt X1688 hx hZ (y := Y8) hown (ww hw 37 rfl) (ww hw 38 rfl) (ww hw 40 rfl) (ww hw 39 rfl) (ww hw 41 rfl) (ww hw 13 rfl) (by decide) 1 (a := a2) (rmLen2 l Z a0 hw a2 y0 y1 cs h0 n0 P1 hS2 P2 ncs) (by decide) (by decide) e1688 P1 (by decide) (by decide) (g := (mkF m 5 (Sh16 a1 a2) [(.ref a2), (.int 3)])) rfl (by rw [hml]; rfl) (argsL := []) (rest := [(.int (3 : Int32))]) (lenOf pd_2829I rfl) rfl (by show 2 * 0 + _ ≤ _; exact Nat.le_of_eq rfl) (hb hby d7_5)
 obtain ⟨rfl, N1689q, e1689⟩ := hQ1689
 have N1689 := Fr.app N1688 N1689q
 refine GoW.sg (mkF m 8 (Sh16 a1 a2) [(.int 2), (.int 3)]) (fun t k => st1689 t k) ?_
 refine GoW.sg (mkF m 17 (Sh17 a1 a2 0) [(.ref a2), (.int 0)]) (fun t k => XS.icmpYes X1689.here hx rfl (pc0 := 8) (pc' := 13) rfl (hb hby d7_8) rfl (by decide) (by decide) (by decide) (XS.iconst X1689.here hx rfl (hb hby d7_13) (XS.istoreN X1689.here hx rfl (hb hby d7_14) rfl (l' := (Sh17 a1 a2 0)) rfl (XS.iloadN X1689.here hx rfl (hb hby d7_15) rfl (XS.aloadN X1689.here hx rfl (hb hby d7_16) rfl rfl k))))) ?_
 obtain ⟨_, T1690, L1690, X1690, hQ1690, st1690⟩ := own_virt X1689 hx hZ (y := Y8) hown (ww hw 37 rfl) (ww hw 38 rfl) (ww hw 40 rfl) (ww hw 39 rfl) (ww hw 41 rfl) (ww hw 13 rfl) (by decide) 1 (a := a2) (rmLen2 l Z a0 hw a2 y0 y1 cs h0 n0 P1 hS2 P2 ncs) (by decide) (by decide) e1689 P1 (by decide) (by decide) (g := (mkF m 17 (Sh17 a1 a2 0) [(.ref a2), (.int 0)])) rfl (by rw [hml]; rfl) (argsL := []) (rest := [(.int (0 : Int32))]) (lenOf pd_2829I rfl) rfl (by show 2 * 0 + _ ≤ _; exact Nat.le_of_eq rfl) (hb hby d7_17)
 obtain ⟨rfl, N1690q, e1690⟩ := hQ1690
 have N1690 := Fr.app N1689 N1690q
 refine GoW.sg (mkF m 20 (Sh17 a1 a2 0) [(.int 2), (.int 0)]) (fun t k => st1690 t k) ?_
 refine GoW.sg (mkF m 25 (Sh17 a1 a2 0) [(.int 0), (.ref a1)]) (fun t k => XS.icmpNo X1690.here hx rfl (hb hby d7_20) rfl (by decide) (XS.aloadN X1690.here hx rfl (hb hby d7_23) rfl rfl (XS.iloadN X1690.here hx rfl (hb hby d7_24) rfl k))) ?_
 obtain ⟨_, T1691, L1691, X1691, hQ1691, st1691⟩ := own_virt X1690 hx hZ (y := Y19) hown (ww hw 80 rfl) (ww hw 81 rfl) (ww hw 83 rfl) (ww hw 82 rfl) (ww hw 84 rfl) (ww hw 13 rfl) (by decide) 0 (a := a1) (rmCh30 l Z a0 hw a1 x0 x1 x2 cs vf h0 n0 P0 hS1 P2 P3 P4 P5 P6 hvf lo_x0 hi_x0 lo_x1 hi_x1 lo_x2 hi_x2 ncs) (by decide) (by decide) e1690 P0 (by decide) (by decide) (g := (mkF m 25 (Sh17 a1 a2 0) [(.int 0), (.ref a1)])) rfl (by rw [hml]; rfl) (argsL := [(.int (0 : Int32))]) (rest := []) (lenOf pd_28I29C rfl) rfl (by show 2 * 0 + _ ≤ _; exact Nat.le_of_eq rfl) (hb hby d7_25)
 obtain ⟨rfl, N1691q, e1691⟩ := hQ1691
 have N1691 := Fr.app N1690 N1691q
 refine GoW.sg (mkF m 28 (Sh17 a1 a2 0) [(.int x0)]) (fun t k => st1691 t k) ?_
 refine GoW.sg (mkF m 32 (Sh18 a1 a2 0 x0) [(.int 65), (.int x0)]) (fun t k => XS.istoreN X1691.here hx rfl (hb hby d7_28) rfl (l' := (Sh18 a1 a2 0 x0)) rfl (XS.iloadN X1691.here hx rfl (hb hby d7_29) rfl (XS.bipush X1691.here hx rfl (hb hby d7_30) k))) ?_
 have J50_1695 : ∀ b1694 : Int32, b1694 = (if x0 < (65 : Int32) then x0 else (if (90 : Int32) < x0 then x0 else (x0 + (32 : Int32)).toUInt32.toUInt16.toUInt32.toInt32)) → GoW p e below s (QW32 Z a1 a2 x0 x1 x2 y0 y1 cs vf h0 n0) 0 0 (T1691.setTop (mkF m 50 (Sh18 a1 a2 0 x0) [(.int b1694)])) := by
  intro b1694 hb1694
  have hFb1694 : (FW32 x0 x1 x2 y0 y1 cs) = (FW32_1 x0 x1 x2 y0 y1 cs b1694) := by unfold FW32; rw [hb1694]
  refine GoW.sg (mkF m 56 (Sh19 a1 a2 0 x0 b1694) [(.int 0), (.ref a2), (.int b1694)]) (fun t k => XS.istore X1691.here hx rfl (hb hby d7_50) rfl (l' := (Sh19 a1 a2 0 x0 b1694)) rfl (XS.iload X1691.here hx rfl (hb hby d7_52) rfl (XS.aloadN X1691.here hx rfl (hb hby d7_54) rfl rfl (XS.iloadN X1691.here hx rfl (hb hby d7_55) rfl k)))) ?_
  obtain ⟨_, T1698, L1698, X1698, hQ1698, st1698⟩ := own_virt X1691 hx hZ (y := Y19) hown (ww hw 80 rfl) (ww hw 81 rfl) (ww hw 83 rfl) (ww hw 82 rfl) (ww hw 84 rfl) (ww hw 13 rfl) (by decide) 1 (a := a2) (rmCh20 l Z a0 hw a2 y0 y1 cs vf h0 n0 P1 hS2 P2 P3 P4 P5 P6 hvf lo_y0 hi_y0 lo_y1 hi_y1 ncs) (by decide) (by decide) e1691 P1 (by decide) (by decide) (g := (mkF m 56 (Sh19 a1 a2 0 x0 b1694) [(.int 0), (.ref a2), (.int b1694)])) rfl (by rw [hml]; rfl) (argsL := [(.int (0 : Int32))]) (rest := [(.int b1694)]) (lenOf pd_28I29C rfl) rfl (by show 2 * 0 + _ ≤ _; exact Nat.le_of_eq rfl) (hb hby d7_56)
  obtain ⟨rfl, N1698q, e1698⟩ := hQ1698
  have N1698 := Fr.app N1691 N1698q
  refine GoW.sg (mkF m 59 (Sh19 a1 a2 0 x0 b1694) [(.int y0), (.int b1694)]) (fun t k => st1698 t k) ?_
  by_cases c1699 : b1694 = y0
  ·refine GoW.sg (mkF m 17 (Sh19 a1 a2 1 x0 b1694) [(.ref a2), (.int 1)]) (fun t k => XS.icmpYes X1698.here hx rfl (pc0 := 59) (pc' := 64) rfl (hb hby d7_59) rfl (teq c1699).1 (by decide) (by decide) (XS.iinc X1698.here hx rfl (hb hby d7_64) rfl (l' := (Sh19 a1 a2 1 x0 b1694)) rfl (XS.goto X1698.here hx rfl (pc0 := 67) (pc' := 15) rfl (hb hby d7_67) (by decide) (by decide) (XS.iloadN X1698.here hx rfl (hb hby d7_15) rfl (XS.aloadN X1698.here hx rfl (hb hby d7_16) rfl rfl k))))) ?_
   obtain ⟨_, T1700, L1700, X1700, hQ1700, st1700⟩ := own_virt X1698 hx hZ (y := Y8) hown (ww hw 37 rfl) (ww hw 38 rfl) (ww hw 40 rfl) (ww hw 39 rfl) (ww hw 41 rfl) (ww hw 13 rfl) (by decide) 1 (a := a2) (rmLen2 l Z a0 hw a2 y0 y1 cs h0 n0 P1 hS2 P2 ncs) (by decide) (by decide) e1698 P1 (by decide) (by decide) (g := (mkF m 17 (Sh19 a1 a2 1 x0 b1694) [(.ref a2), (.int 1)])) rfl (by rw [hml]; rfl) (argsL := []) (rest := [(.int (1 : Int32))]) (lenOf pd_2829I rfl) rfl (by show 2 * 0 + _ ≤ _; exact Nat.le_of_eq rfl) (hb hby d7_17)
   obtain ⟨rfl, N1700q, e1700⟩ := hQ1700
   have N1700 := Fr.app N1698 N1700q
   refine GoW.sg (mkF m 20 (Sh19 a1 a2 1 x0 b1694) [(.int 2), (.int 1)]) (fun t k => st1700 t k) ?_
   refine GoW.sg (mkF m 25 (Sh19 a1 a2 1 x0 b1694) [(.int 1), (.ref a1)]) (fun t k => XS.icmpNo X1700.here hx rfl (hb hby d7_20) rfl (by decide) (XS.aloadN X1700.here hx rfl (hb hby d7_23) rfl rfl (XS.iloadN X1700.here hx rfl (hb hby d7_24) rfl k))) ?_
   obtain ⟨_, T1701, L1701, X1701, hQ1701, st1701⟩ := own_virt X1700 hx hZ (y := Y19) hown (ww hw 80 rfl) (ww hw 81 rfl) (ww hw 83 rfl) (ww hw 82 rfl) (ww hw 84 rfl) (ww hw 13 rfl) (by decide) 0 (a := a1) (rmCh31 l Z a0 hw a1 x0 x1 x2 cs vf h0 n0 P0 hS1 P2 P3 P4 P5 P6 hvf lo_x0 hi_x0 lo_x1 hi_x1 lo_x2 hi_x2 ncs) (by decide) (by decide) e1700 P0 (by decide) (by decide) (g := (mkF m 25 (Sh19 a1 a2 1 x0 b1694) [(.int 1), (.ref a1)])) rfl (by rw [hml]; rfl) (argsL := [(.int (1 : Int32))]) (rest := []) (lenOf pd_28I29C rfl) rfl (by show 2 * 0 + _ ≤ _; exact Nat.le_of_eq rfl) (hb hby d7_25)
   obtain ⟨rfl, N1701q, e1701⟩ := hQ1701
   have N1701 := Fr.app N1700 N1701q
   refine GoW.sg (mkF m 28 (Sh19 a1 a2 1 x0 b1694) [(.int x1)]) (fun t k => st1701 t k) ?_
   refine GoW.sg (mkF m 32 (Sh19 a1 a2 1 x1 b1694) [(.int 65), (.int x1)]) (fun t k => XS.istoreN X1701.here hx rfl (hb hby d7_28) rfl (l' := (Sh19 a1 a2 1 x1 b1694)) rfl (XS.iloadN X1701.here hx rfl (hb hby d7_29) rfl (XS.bipush X1701.here hx rfl (hb hby d7_30) k))) ?_
   have J50_1705 : ∀ b1704 : Int32, b1704 = (if x1 < (65 : Int32) then x1 else (if (90 : Int32) < x1 then x1 else (x1 + (32 : Int32)).toUInt32.toUInt16.toUInt32.toInt32)) → GoW p e below s (QW32 Z a1 a2 x0 x1 x2 y0 y1 cs vf h0 n0) 0 0 (T1701.setTop (mkF m 50 (Sh19 a1 a2 1 x1 b1694) [(.int b1704)])) := by
    intro b1704 hb1704
    have hFb1704 : (FW32_1 x0 x1 x2 y0 y1 cs b1694) = (FW32_2 x0 x1 x2 y0 y1 cs b1694 b1704) := by unfold FW32_1; rw [if_pos c1699]; rw [hb1704]
    refine GoW.sg (mkF m 56 (Sh19 a1 a2 1 x1 b1704) [(.int 1), (.ref a2), (.int b1704)]) (fun t k => XS.istore X1701.here hx rfl (hb hby d7_50) rfl (l' := (Sh19 a1 a2 1 x1 b1704)) rfl (XS.iload X1701.here hx rfl (hb hby d7_52) rfl (XS.aloadN X1701.here hx rfl (hb hby d7_54) rfl rfl (XS.iloadN X1701.here hx rfl (hb hby d7_55) rfl k)))) ?_
    obtain ⟨_, T1708, L1708, X1708, hQ1708, st1708⟩ := own_virt X1701 hx hZ (y := Y19) hown (ww hw 80 rfl) (ww hw 81 rfl) (ww hw 83 rfl) (ww hw 82 rfl) (ww hw 84 rfl) (ww hw 13 rfl) (by decide) 1 (a := a2) (rmCh21 l Z a0 hw a2 y0 y1 cs vf h0 n0 P1 hS2 P2 P3 P4 P5 P6 hvf lo_y0 hi_y0 lo_y1 hi_y1 ncs) (by decide) (by decide) e1701 P1 (by decide) (by decide) (g := (mkF m 56 (Sh19 a1 a2 1 x1 b1704) [(.int 1), (.ref a2), (.int b1704)])) rfl (by rw [hml]; rfl) (argsL := [(.int (1 : Int32))]) (rest := [(.int b1704)]) (lenOf pd_28I29C rfl) rfl (by show 2 * 0 + _ ≤ _; exact Nat.le_of_eq rfl) (hb hby d7_56)
    obtain ⟨rfl, N1708q, e1708⟩ := hQ1708
    have N1708 := Fr.app N1701 N1708q
    refine GoW.sg (mkF m 59 (Sh19 a1 a2 1 x1 b1704) [(.int y1), (.int b1704)]) (fun t k => st1708 t k) ?_
    by_cases c1709 : b1704 = y1
    ·refine GoW.sg (mkF m 17 (Sh19 a1 a2 2 x1 b1704) [(.ref a2), (.int 2)]) (fun t k => XS.icmpYes X1708.here hx rfl (pc0 := 59) (pc' := 64) rfl (hb hby d7_59) rfl (teq c1709).1 (by decide) (by decide) (XS.iinc X1708.here hx rfl (hb hby d7_64) rfl (l' := (Sh19 a1 a2 2 x1 b1704)) rfl (XS.goto X1708.here hx rfl (pc0 := 67) (pc' := 15) rfl (hb hby d7_67) (by decide) (by decide) (XS.iloadN X1708.here hx rfl (hb hby d7_15) rfl (XS.aloadN X1708.here hx rfl (hb hby d7_16) rfl rfl k))))) ?_
     obtain ⟨_, T1710, L1710, X1710, hQ1710, st1710⟩ := own_virt X1708 hx hZ (y := Y8) hown (ww hw 37 rfl) (ww hw 38 rfl) (ww hw 40 rfl) (ww hw 39 rfl) (ww hw 41 rfl) (ww hw 13 rfl) (by decide) 1 (a := a2) (rmLen2 l Z a0 hw a2 y0 y1 cs h0 n0 P1 hS2 P2 ncs) (by decide) (by decide) e1708 P1 (by decide) (by decide) (g := (mkF m 17 (Sh19 a1 a2 2 x1 b1704) [(.ref a2), (.int 2)])) rfl (by rw [hml]; rfl) (argsL := []) (rest := [(.int (2 : Int32))]) (lenOf pd_2829I rfl) rfl (by show 2 * 0 + _ ≤ _; exact Nat.le_of_eq rfl) (hb hby d7_17)
     obtain ⟨rfl, N1710q, e1710⟩ := hQ1710
     have N1710 := Fr.app N1708 N1710q
     refine GoW.sg (mkF m 20 (Sh19 a1 a2 2 x1 b1704) [(.int 2), (.int 2)]) (fun t k => st1710 t k) ?_
     refine GoW.sg (mkF m 71 (Sh19 a1 a2 2 x1 b1704) [(.int 1)]) (fun t k => XS.icmpYes X1710.here hx rfl (pc0 := 20) (pc' := 70) rfl (hb hby d7_20) rfl (by decide) (by decide) (by decide) (XS.iconst X1710.here hx rfl (hb hby d7_70) k)) ?_
     refine GoW.retN X1710 hx (t := .boolean) Bd.returns (by simp) (hb hby d7_71) Bd.notSynchronized ?_ (by decide) (by decide)
     rw [e1710]
     have hq : (FW32 x0 x1 x2 y0 y1 cs) = (1 : Int32) := by rw [hFb1694, hFb1704]; unfold FW32_2; rw [if_pos c1709]; try rfl
     exact ⟨by rw [hq] <;> rfl, N1710, rfl⟩
    ·refine GoW.sg (mkF m 63 (Sh19 a1 a2 1 x1 b1704) [(.int 0)]) (fun t k => XS.icmpNo X1708.here hx rfl (hb hby d7_59) rfl (feq c1709).1 (XS.iconst X1708.here hx rfl (hb hby d7_62) k)) ?_
     refine GoW.retN X1708 hx (t := .boolean) Bd.returns (by simp) (hb hby d7_63) Bd.notSynchronized ?_ (by decide) (by decide)
     rw [e1708]
     have hq : (FW32 x0 x1 x2 y0 y1 cs) = (0 : Int32) := by rw [hFb1694, hFb1704]; unfold FW32_2; rw [if_neg c1709]; try rfl
     exact ⟨by rw [hq] <;> rfl, N1708, rfl⟩
   by_cases c1706 : x1 < (65 : Int32)
   ·refine GoW.sg (mkF m 50 (Sh19 a1 a2 1 x1 b1694) [(.int x1)]) (fun t k => XS.icmpYes X1701.here hx rfl (pc0 := 32) (pc' := 49) rfl (hb hby d7_32) rfl (tlt c1706).1 (by decide) (by decide) (XS.iloadN X1701.here hx rfl (hb hby d7_49) rfl k)) ?_
    exact J50_1705 _ (by rw [if_pos c1706])
   ·refine GoW.sg (mkF m 38 (Sh19 a1 a2 1 x1 b1694) [(.int 90), (.int x1)]) (fun t k => XS.icmpNo X1701.here hx rfl (hb hby d7_32) rfl (flt c1706).1 (XS.iloadN X1701.here hx rfl (hb hby d7_35) rfl (XS.bipush X1701.here hx rfl (hb hby d7_36) k))) ?_
    by_cases c1707 : (90 : Int32) < x1
    ·refine GoW.sg (mkF m 50 (Sh19 a1 a2 1 x1 b1694) [(.int x1)]) (fun t k => XS.icmpYes X1701.here hx rfl (pc0 := 38) (pc' := 49) rfl (hb hby d7_38) rfl (tlt c1707).2.2.1 (by decide) (by decide) (XS.iloadN X1701.here hx rfl (hb hby d7_49) rfl k)) ?_
     exact J50_1705 _ (by rw [if_neg c1706, if_pos c1707])
    ·refine GoW.sg (mkF m 50 (Sh19 a1 a2 1 x1 b1694) [(.int (x1 + (32 : Int32)).toUInt32.toUInt16.toUInt32.toInt32)]) (fun t k => XS.icmpNo X1701.here hx rfl (hb hby d7_38) rfl (flt c1707).2.2.1 (XS.iloadN X1701.here hx rfl (hb hby d7_41) rfl (XS.bipush X1701.here hx rfl (hb hby d7_42) (XS.iadd X1701.here hx rfl (hb hby d7_44) rfl (XS.i2c X1701.here hx rfl (hb hby d7_45) rfl (XS.goto X1701.here hx rfl (pc0 := 46) (pc' := 50) rfl (hb hby d7_46) (by decide) (by decide) k)))))) ?_
     exact J50_1705 _ (by rw [if_neg c1706, if_neg c1707])
  ·refine GoW.sg (mkF m 63 (Sh19 a1 a2 0 x0 b1694) [(.int 0)]) (fun t k => XS.icmpNo X1698.here hx rfl (hb hby d7_59) rfl (feq c1699).1 (XS.iconst X1698.here hx rfl (hb hby d7_62) k)) ?_
   refine GoW.retN X1698 hx (t := .boolean) Bd.returns (by simp) (hb hby d7_63) Bd.notSynchronized ?_ (by decide) (by decide)
   rw [e1698]
   have hq : (FW32 x0 x1 x2 y0 y1 cs) = (0 : Int32) := by rw [hFb1694]; unfold FW32_1; rw [if_neg c1699]; try rfl
   exact ⟨by rw [hq] <;> rfl, N1698, rfl⟩
 by_cases c1696 : x0 < (65 : Int32)
 ·refine GoW.sg (mkF m 50 (Sh18 a1 a2 0 x0) [(.int x0)]) (fun t k => XS.icmpYes X1691.here hx rfl (pc0 := 32) (pc' := 49) rfl (hb hby d7_32) rfl (tlt c1696).1 (by decide) (by decide) (XS.iloadN X1691.here hx rfl (hb hby d7_49) rfl k)) ?_
  exact J50_1695 _ (by rw [if_pos c1696])
 ·refine GoW.sg (mkF m 38 (Sh18 a1 a2 0 x0) [(.int 90), (.int x0)]) (fun t k => XS.icmpNo X1691.here hx rfl (hb hby d7_32) rfl (flt c1696).1 (XS.iloadN X1691.here hx rfl (hb hby d7_35) rfl (XS.bipush X1691.here hx rfl (hb hby d7_36) k))) ?_
  by_cases c1697 : (90 : Int32) < x0
  ·refine GoW.sg (mkF m 50 (Sh18 a1 a2 0 x0) [(.int x0)]) (fun t k => XS.icmpYes X1691.here hx rfl (pc0 := 38) (pc' := 49) rfl (hb hby d7_38) rfl (tlt c1697).2.2.1 (by decide) (by decide) (XS.iloadN X1691.here hx rfl (hb hby d7_49) rfl k)) ?_
   exact J50_1695 _ (by rw [if_neg c1696, if_pos c1697])
  ·refine GoW.sg (mkF m 50 (Sh18 a1 a2 0 x0) [(.int (x0 + (32 : Int32)).toUInt32.toUInt16.toUInt32.toInt32)]) (fun t k => XS.icmpNo X1691.here hx rfl (hb hby d7_38) rfl (flt c1697).2.2.1 (XS.iloadN X1691.here hx rfl (hb hby d7_41) rfl (XS.bipush X1691.here hx rfl (hb hby d7_42) (XS.iadd X1691.here hx rfl (hb hby d7_44) rfl (XS.i2c X1691.here hx rfl (hb hby d7_45) rfl (XS.goto X1691.here hx rfl (pc0 := 46) (pc' := 50) rfl (hb hby d7_46) (by decide) (by decide) k)))))) ?_
   exact J50_1695 _ (by rw [if_neg c1696, if_neg c1697])
def FW33_3 (x0 : Int32) (x1 : Int32) (x2 : Int32) (y0 : Int32) (y1 : Int32) (y2 : Int32) (cs : Int32) (b1717 : Int32) (b1727 : Int32) (b1737 : Int32) : Int32 := (if b1737 = y2 then (1 : Int32) else (0 : Int32))
def FW33_2 (x0 : Int32) (x1 : Int32) (x2 : Int32) (y0 : Int32) (y1 : Int32) (y2 : Int32) (cs : Int32) (b1717 : Int32) (b1727 : Int32) : Int32 := (if b1727 = y1 then (FW33_3 x0 x1 x2 y0 y1 y2 cs b1717 b1727 (if x2 < (65 : Int32) then x2 else (if (90 : Int32) < x2 then x2 else (x2 + (32 : Int32)).toUInt32.toUInt16.toUInt32.toInt32))) else (0 : Int32))
def FW33_1 (x0 : Int32) (x1 : Int32) (x2 : Int32) (y0 : Int32) (y1 : Int32) (y2 : Int32) (cs : Int32) (b1717 : Int32) : Int32 := (if b1717 = y0 then (FW33_2 x0 x1 x2 y0 y1 y2 cs b1717 (if x1 < (65 : Int32) then x1 else (if (90 : Int32) < x1 then x1 else (x1 + (32 : Int32)).toUInt32.toUInt16.toUInt32.toInt32))) else (0 : Int32))
def FW33 (x0 : Int32) (x1 : Int32) (x2 : Int32) (y0 : Int32) (y1 : Int32) (y2 : Int32) (cs : Int32) : Int32 := (FW33_1 x0 x1 x2 y0 y1 y2 cs (if x0 < (65 : Int32) then x0 else (if (90 : Int32) < x0 then x0 else (x0 + (32 : Int32)).toUInt32.toUInt16.toUInt32.toInt32)))
def QW33 (Z : State) (a1 : Addr) (a2 : Addr) (x0 : Int32) (x1 : Int32) (x2 : Int32) (y0 : Int32) (y1 : Int32) (y2 : Int32) (cs : Int32) (vf : Value) (h0 : Heap) (n0 : Nat) (v : Option Value) (h : Heap) (L : List Loc) : Prop := v = some (.int (FW33 x0 x1 x2 y0 y1 y2 cs)) ∧ Fr n0 L ∧ (h = h0)
theorem rmW33 (l : Launch) (Z : State) (a0 : Array Value) (hw : HW a0 Z) (a1 : Addr) (a2 : Addr) (x0 : Int32) (x1 : Int32) (x2 : Int32) (y0 : Int32) (y1 : Int32) (y2 : Int32) (cs : Int32) (vf : Value) (h0 : Heap) (n0 : Nat) (P0 : Exa Z h0 a1 "java/lang/String") (P1 : Exa Z h0 a2 "java/lang/String") (P2 : Sta Z h0 "java/lang/String" "COMPACT_STRINGS" "Z" (.int cs)) (P3 : Sta Z h0 "java/lang/StringUTF16" "$assertionsDisabled" "Z" (.int 1)) (P4 : Sta Z h0 "java/lang/StringUTF16" "HI_BYTE_SHIFT" "I" (.int 0)) (P5 : Sta Z h0 "java/lang/StringUTF16" "LO_BYTE_SHIFT" "I" (.int 8)) (P6 : Sta Z h0 "jdk/internal/util/Preconditions" "SIOOBE_FORMATTER" "Ljava/util/function/BiFunction;" vf) (hS1 : Str3 Z h0 a1 x0 x1 x2) (hS2 : Str3 Z h0 a2 y0 y1 y2) (hvf : vf.isRef = true) (lo_x0 : ¬ (x0 < (0 : Int32))) (hi_x0 : ¬ ((65535 : Int32) < x0)) (lo_x1 : ¬ (x1 < (0 : Int32))) (hi_x1 : ¬ ((65535 : Int32) < x1)) (lo_x2 : ¬ (x2 < (0 : Int32))) (hi_x2 : ¬ ((65535 : Int32) < x2)) (lo_y0 : ¬ (y0 < (0 : Int32))) (hi_y0 : ¬ ((65535 : Int32) < y0)) (lo_y1 : ¬ (y1 < (0 : Int32))) (hi_y1 : ¬ ((65535 : Int32) < y1)) (lo_y2 : ¬ (y2 < (0 : Int32))) (hi_y2 : ¬ ((65535 : Int32) < y2)) (ncs : ¬ (cs = (0 : Int32))) :
  MM l Z Y7 prog_10_method_5_code 5 (some .boolean) 5 0 0 67 #[(.ref a1), (.ref a2)] h0 (QW33 Z a1 a2 x0 x1 x2 y0 y1 y2 cs vf h0 n0) := by
 refine own_start (fun m => (mkF m 0 (Sh16 a1 a2) [])) (plainFor_of_name pn_com_example_throttle_throttle_SipSyntax) (by simp [entryFrame, mkF, argsToLocals, Value.category]) n0 ?_
 intro p e s m below meth c s₁ Bd hx hby hml hZ hown hnm X0 e0 N0
 refine GoW.sg (mkF m 1 (Sh16 a1 a2) [(.ref a1)]) (fun t k => XS.aloadN X0.here hx rfl (hb hby d7_0) rfl rfl k) ?_
 obtain ⟨_, T1711, L1711, X1711, hQ1711, st1711⟩ := own_virt X0 hx hZ (y := Y8) hown (ww hw 37 rfl) (ww hw 38 rfl) (ww hw 40 rfl) (ww hw 39 rfl) (ww hw 41 rfl) (ww hw 13 rfl) (by decide) 0 (a := a1) (rmLen3 l Z a0 hw a1 x0 x1 x2 cs h0 n0 P0 hS1 P2 ncs) (by decide) (by decide) e0 P0 (by decide) (by decide) (g := (mkF m 1 (Sh16 a1 a2) [(.ref a1)])) rfl (by rw [hml]; rfl) (argsL := []) (rest := []) (lenOf pd_2829I rfl) rfl (by show 2 * 0 + _ ≤ _; exact Nat.le_of_eq rfl) (hb hby d7_1)
 obtain ⟨rfl, N1711q, e1711⟩ := hQ1711
 have N1711 := Fr.app N0 N1711q
 refine GoW.sg (mkF m 4 (Sh16 a1 a2) [(.int 3)]) (fun t k => st1711 t k) ?_
 refine GoW.sg (mkF m 5 (Sh16 a1 a2) [(.ref a2), (.int 3)]) (fun t k => XS.aloadN X1711.here hx rfl (hb hby d7_4) rfl rfl k) ?_
 obtain ⟨_, T1712, L1712, X1712, hQ1712, st1712⟩ := own_virt X1711 hx hZ (y := Y8) hown (ww hw 37 rfl) (ww hw 38 rfl) (ww hw 40 rfl) (ww hw 39 rfl) (ww hw 41 rfl) (ww hw 13 rfl) (by decide) 1 (a := a2) (rmLen3 l Z a0 hw a2 y0 y1 y2 cs h0 n0 P1 hS2 P2 ncs) (by decide) (by decide) e1711 P1 (by decide) (by decide) (g := (mkF m 5 (Sh16 a1 a2) [(.ref a2), (.int 3)])) rfl (by rw [hml]; rfl) (argsL := []) (rest := [(.int (3 : Int32))]) (lenOf pd_2829I rfl) rfl (by show 2 * 0 + _ ≤ _; exact Nat.le_of_eq rfl) (hb hby d7_5)
 obtain ⟨rfl, N1712q, e1712⟩ := hQ1712
 have N1712 := Fr.app N1711 N1712q
 refine GoW.sg (mkF m 8 (Sh16 a1 a2) [(.int 3), (.int 3)]) (fun t k => st1712 t k) ?_
 refine GoW.sg (mkF m 17 (Sh17 a1 a2 0) [(.ref a2), (.int 0)]) (fun t k => XS.icmpYes X1712.here hx rfl (pc0 := 8) (pc' := 13) rfl (hb hby d7_8) rfl (by decide) (by decide) (by decide) (XS.iconst X1712.here hx rfl (hb hby d7_13) (XS.istoreN X1712.here hx rfl (hb hby d7_14) rfl (l' := (Sh17 a1 a2 0)) rfl (XS.iloadN X1712.here hx rfl (hb hby d7_15) rfl (XS.aloadN X1712.here hx rfl (hb hby d7_16) rfl rfl k))))) ?_
 obtain ⟨_, T1713, L1713, X1713, hQ1713, st1713⟩ := own_virt X1712 hx hZ (y := Y8) hown (ww hw 37 rfl) (ww hw 38 rfl) (ww hw 40 rfl) (ww hw 39 rfl) (ww hw 41 rfl) (ww hw 13 rfl) (by decide) 1 (a := a2) (rmLen3 l Z a0 hw a2 y0 y1 y2 cs h0 n0 P1 hS2 P2 ncs) (by decide) (by decide) e1712 P1 (by decide) (by decide) (g := (mkF m 17 (Sh17 a1 a2 0) [(.ref a2), (.int 0)])) rfl (by rw [hml]; rfl) (argsL := []) (rest := [(.int (0 : Int32))]) (lenOf pd_2829I rfl) rfl (by show 2 * 0 + _ ≤ _; exact Nat.le_of_eq rfl) (hb hby d7_17)
 obtain ⟨rfl, N1713q, e1713⟩ := hQ1713
 have N1713 := Fr.app N1712 N1713q
 refine GoW.sg (mkF m 20 (Sh17 a1 a2 0) [(.int 3), (.int 0)]) (fun t k => st1713 t k) ?_
 refine GoW.sg (mkF m 25 (Sh17 a1 a2 0) [(.int 0), (.ref a1)]) (fun t k => XS.icmpNo X1713.here hx rfl (hb hby d7_20) rfl (by decide) (XS.aloadN X1713.here hx rfl (hb hby d7_23) rfl rfl (XS.iloadN X1713.here hx rfl (hb hby d7_24) rfl k))) ?_
 obtain ⟨_, T1714, L1714, X1714, hQ1714, st1714⟩ := own_virt X1713 hx hZ (y := Y19) hown (ww hw 80 rfl) (ww hw 81 rfl) (ww hw 83 rfl) (ww hw 82 rfl) (ww hw 84 rfl) (ww hw 13 rfl) (by decide) 0 (a := a1) (rmCh30 l Z a0 hw a1 x0 x1 x2 cs vf h0 n0 P0 hS1 P2 P3 P4 P5 P6 hvf lo_x0 hi_x0 lo_x1 hi_x1 lo_x2 hi_x2 ncs) (by decide) (by decide) e1713 P0 (by decide) (by decide) (g := (mkF m 25 (Sh17 a1 a2 0) [(.int 0), (.ref a1)])) rfl (by rw [hml]; rfl) (argsL := [(.int (0 : Int32))]) (rest := []) (lenOf pd_28I29C rfl) rfl (by show 2 * 0 + _ ≤ _; exact Nat.le_of_eq rfl) (hb hby d7_25)
 obtain ⟨rfl, N1714q, e1714⟩ := hQ1714
 have N1714 := Fr.app N1713 N1714q
 refine GoW.sg (mkF m 28 (Sh17 a1 a2 0) [(.int x0)]) (fun t k => st1714 t k) ?_
 refine GoW.sg (mkF m 32 (Sh18 a1 a2 0 x0) [(.int 65), (.int x0)]) (fun t k => XS.istoreN X1714.here hx rfl (hb hby d7_28) rfl (l' := (Sh18 a1 a2 0 x0)) rfl (XS.iloadN X1714.here hx rfl (hb hby d7_29) rfl (XS.bipush X1714.here hx rfl (hb hby d7_30) k))) ?_
 have J50_1718 : ∀ b1717 : Int32, b1717 = (if x0 < (65 : Int32) then x0 else (if (90 : Int32) < x0 then x0 else (x0 + (32 : Int32)).toUInt32.toUInt16.toUInt32.toInt32)) → GoW p e below s (QW33 Z a1 a2 x0 x1 x2 y0 y1 y2 cs vf h0 n0) 0 0 (T1714.setTop (mkF m 50 (Sh18 a1 a2 0 x0) [(.int b1717)])) := by
  intro b1717 hb1717
  have hFb1717 : (FW33 x0 x1 x2 y0 y1 y2 cs) = (FW33_1 x0 x1 x2 y0 y1 y2 cs b1717) := by unfold FW33; rw [hb1717]
  refine GoW.sg (mkF m 56 (Sh19 a1 a2 0 x0 b1717) [(.int 0), (.ref a2), (.int b1717)]) (fun t k => XS.istore X1714.here hx rfl (hb hby d7_50) rfl (l' := (Sh19 a1 a2 0 x0 b1717)) rfl (XS.iload X1714.here hx rfl (hb hby d7_52) rfl (XS.aloadN X1714.here hx rfl (hb hby d7_54) rfl rfl (XS.iloadN X1714.here hx rfl (hb hby d7_55) rfl k)))) ?_
  obtain ⟨_, T1721, L1721, X1721, hQ1721, st1721⟩ := own_virt X1714 hx hZ (y := Y19) hown (ww hw 80 rfl) (ww hw 81 rfl) (ww hw 83 rfl) (ww hw 82 rfl) (ww hw 84 rfl) (ww hw 13 rfl) (by decide) 1 (a := a2) (rmCh30 l Z a0 hw a2 y0 y1 y2 cs vf h0 n0 P1 hS2 P2 P3 P4 P5 P6 hvf lo_y0 hi_y0 lo_y1 hi_y1 lo_y2 hi_y2 ncs) (by decide) (by decide) e1714 P1 (by decide) (by decide) (g := (mkF m 56 (Sh19 a1 a2 0 x0 b1717) [(.int 0), (.ref a2), (.int b1717)])) rfl (by rw [hml]; rfl) (argsL := [(.int (0 : Int32))]) (rest := [(.int b1717)]) (lenOf pd_28I29C rfl) rfl (by show 2 * 0 + _ ≤ _; exact Nat.le_of_eq rfl) (hb hby d7_56)
  obtain ⟨rfl, N1721q, e1721⟩ := hQ1721
  have N1721 := Fr.app N1714 N1721q
  refine GoW.sg (mkF m 59 (Sh19 a1 a2 0 x0 b1717) [(.int y0), (.int b1717)]) (fun t k => st1721 t k) ?_
  by_cases c1722 : b1717 = y0
  ·refine GoW.sg (mkF m 17 (Sh19 a1 a2 1 x0 b1717) [(.ref a2), (.int 1)]) (fun t k => XS.icmpYes X1721.here hx rfl (pc0 := 59) (pc' := 64) rfl (hb hby d7_59) rfl (teq c1722).1 (by decide) (by decide) (XS.iinc X1721.here hx rfl (hb hby d7_64) rfl (l' := (Sh19 a1 a2 1 x0 b1717)) rfl (XS.goto X1721.here hx rfl (pc0 := 67) (pc' := 15) rfl (hb hby d7_67) (by decide) (by decide) (XS.iloadN X1721.here hx rfl (hb hby d7_15) rfl (XS.aloadN X1721.here hx rfl (hb hby d7_16) rfl rfl k))))) ?_
   obtain ⟨_, T1723, L1723, X1723, hQ1723, st1723⟩ := own_virt X1721 hx hZ (y := Y8) hown (ww hw 37 rfl) (ww hw 38 rfl) (ww hw 40 rfl) (ww hw 39 rfl) (ww hw 41 rfl) (ww hw 13 rfl) (by decide) 1 (a := a2) (rmLen3 l Z a0 hw a2 y0 y1 y2 cs h0 n0 P1 hS2 P2 ncs) (by decide) (by decide) e1721 P1 (by decide) (by decide) (g := (mkF m 17 (Sh19 a1 a2 1 x0 b1717) [(.ref a2), (.int 1)])) rfl (by rw [hml]; rfl) (argsL := []) (rest := [(.int (1 : Int32))]) (lenOf pd_2829I rfl) rfl (by show 2 * 0 + _ ≤ _; exact Nat.le_of_eq rfl) (hb hby d7_17)
   obtain ⟨rfl, N1723q, e1723⟩ := hQ1723
   have N1723 := Fr.app N1721 N1723q
   refine GoW.sg (mkF m 20 (Sh19 a1 a2 1 x0 b1717) [(.int 3), (.int 1)]) (fun t k => st1723 t k) ?_
   refine GoW.sg (mkF m 25 (Sh19 a1 a2 1 x0 b1717) [(.int 1), (.ref a1)]) (fun t k => XS.icmpNo X1723.here hx rfl (hb hby d7_20) rfl (by decide) (XS.aloadN X1723.here hx rfl (hb hby d7_23) rfl rfl (XS.iloadN X1723.here hx rfl (hb hby d7_24) rfl k))) ?_
   obtain ⟨_, T1724, L1724, X1724, hQ1724, st1724⟩ := own_virt X1723 hx hZ (y := Y19) hown (ww hw 80 rfl) (ww hw 81 rfl) (ww hw 83 rfl) (ww hw 82 rfl) (ww hw 84 rfl) (ww hw 13 rfl) (by decide) 0 (a := a1) (rmCh31 l Z a0 hw a1 x0 x1 x2 cs vf h0 n0 P0 hS1 P2 P3 P4 P5 P6 hvf lo_x0 hi_x0 lo_x1 hi_x1 lo_x2 hi_x2 ncs) (by decide) (by decide) e1723 P0 (by decide) (by decide) (g := (mkF m 25 (Sh19 a1 a2 1 x0 b1717) [(.int 1), (.ref a1)])) rfl (by rw [hml]; rfl) (argsL := [(.int (1 : Int32))]) (rest := []) (lenOf pd_28I29C rfl) rfl (by show 2 * 0 + _ ≤ _; exact Nat.le_of_eq rfl) (hb hby d7_25)
   obtain ⟨rfl, N1724q, e1724⟩ := hQ1724
   have N1724 := Fr.app N1723 N1724q
   refine GoW.sg (mkF m 28 (Sh19 a1 a2 1 x0 b1717) [(.int x1)]) (fun t k => st1724 t k) ?_
   refine GoW.sg (mkF m 32 (Sh19 a1 a2 1 x1 b1717) [(.int 65), (.int x1)]) (fun t k => XS.istoreN X1724.here hx rfl (hb hby d7_28) rfl (l' := (Sh19 a1 a2 1 x1 b1717)) rfl (XS.iloadN X1724.here hx rfl (hb hby d7_29) rfl (XS.bipush X1724.here hx rfl (hb hby d7_30) k))) ?_
   have J50_1728 : ∀ b1727 : Int32, b1727 = (if x1 < (65 : Int32) then x1 else (if (90 : Int32) < x1 then x1 else (x1 + (32 : Int32)).toUInt32.toUInt16.toUInt32.toInt32)) → GoW p e below s (QW33 Z a1 a2 x0 x1 x2 y0 y1 y2 cs vf h0 n0) 0 0 (T1724.setTop (mkF m 50 (Sh19 a1 a2 1 x1 b1717) [(.int b1727)])) := by
    intro b1727 hb1727
    have hFb1727 : (FW33_1 x0 x1 x2 y0 y1 y2 cs b1717) = (FW33_2 x0 x1 x2 y0 y1 y2 cs b1717 b1727) := by unfold FW33_1; rw [if_pos c1722]; rw [hb1727]
    refine GoW.sg (mkF m 56 (Sh19 a1 a2 1 x1 b1727) [(.int 1), (.ref a2), (.int b1727)]) (fun t k => XS.istore X1724.here hx rfl (hb hby d7_50) rfl (l' := (Sh19 a1 a2 1 x1 b1727)) rfl (XS.iload X1724.here hx rfl (hb hby d7_52) rfl (XS.aloadN X1724.here hx rfl (hb hby d7_54) rfl rfl (XS.iloadN X1724.here hx rfl (hb hby d7_55) rfl k)))) ?_
    obtain ⟨_, T1731, L1731, X1731, hQ1731, st1731⟩ := own_virt X1724 hx hZ (y := Y19) hown (ww hw 80 rfl) (ww hw 81 rfl) (ww hw 83 rfl) (ww hw 82 rfl) (ww hw 84 rfl) (ww hw 13 rfl) (by decide) 1 (a := a2) (rmCh31 l Z a0 hw a2 y0 y1 y2 cs vf h0 n0 P1 hS2 P2 P3 P4 P5 P6 hvf lo_y0 hi_y0 lo_y1 hi_y1 lo_y2 hi_y2 ncs) (by decide) (by decide) e1724 P1 (by decide) (by decide) (g := (mkF m 56 (Sh19 a1 a2 1 x1 b1727) [(.int 1), (.ref a2), (.int b1727)])) rfl (by rw [hml]; rfl) (argsL := [(.int (1 : Int32))]) (rest := [(.int b1727)]) (lenOf pd_28I29C rfl) rfl (by show 2 * 0 + _ ≤ _; exact Nat.le_of_eq rfl) (hb hby d7_56)
    obtain ⟨rfl, N1731q, e1731⟩ := hQ1731
    have N1731 := Fr.app N1724 N1731q
    refine GoW.sg (mkF m 59 (Sh19 a1 a2 1 x1 b1727) [(.int y1), (.int b1727)]) (fun t k => st1731 t k) ?_
    by_cases c1732 : b1727 = y1
    ·refine GoW.sg (mkF m 17 (Sh19 a1 a2 2 x1 b1727) [(.ref a2), (.int 2)]) (fun t k => XS.icmpYes X1731.here hx rfl (pc0 := 59) (pc' := 64) rfl (hb hby d7_59) rfl (teq c1732).1 (by decide) (by decide) (XS.iinc X1731.here hx rfl (hb hby d7_64) rfl (l' := (Sh19 a1 a2 2 x1 b1727)) rfl (XS.goto X1731.here hx rfl (pc0 := 67) (pc' := 15) rfl (hb hby d7_67) (by decide) (by decide) (XS.iloadN X1731.here hx rfl (hb hby d7_15) rfl (XS.aloadN X1731.here hx rfl (hb hby d7_16) rfl rfl k))))) ?_
     obtain ⟨_, T1733, L1733, X1733, hQ1733, st1733⟩ := own_virt X1731 hx hZ (y := Y8) hown (ww hw 37 rfl) (ww hw 38 rfl) (ww hw 40 rfl) (ww hw 39 rfl) (ww hw 41 rfl) (ww hw 13 rfl) (by decide) 1 (a := a2) (rmLen3 l Z a0 hw a2 y0 y1 y2 cs h0 n0 P1 hS2 P2 ncs) (by decide) (by decide) e1731 P1 (by decide) (by decide) (g := (mkF m 17 (Sh19 a1 a2 2 x1 b1727) [(.ref a2), (.int 2)])) rfl (by rw [hml]; rfl) (argsL := []) (rest := [(.int (2 : Int32))]) (lenOf pd_2829I rfl) rfl (by show 2 * 0 + _ ≤ _; exact Nat.le_of_eq rfl) (hb hby d7_17)
     obtain ⟨rfl, N1733q, e1733⟩ := hQ1733
     have N1733 := Fr.app N1731 N1733q
     refine GoW.sg (mkF m 20 (Sh19 a1 a2 2 x1 b1727) [(.int 3), (.int 2)]) (fun t k => st1733 t k) ?_
     refine GoW.sg (mkF m 25 (Sh19 a1 a2 2 x1 b1727) [(.int 2), (.ref a1)]) (fun t k => XS.icmpNo X1733.here hx rfl (hb hby d7_20) rfl (by decide) (XS.aloadN X1733.here hx rfl (hb hby d7_23) rfl rfl (XS.iloadN X1733.here hx rfl (hb hby d7_24) rfl k))) ?_
     obtain ⟨_, T1734, L1734, X1734, hQ1734, st1734⟩ := own_virt X1733 hx hZ (y := Y19) hown (ww hw 80 rfl) (ww hw 81 rfl) (ww hw 83 rfl) (ww hw 82 rfl) (ww hw 84 rfl) (ww hw 13 rfl) (by decide) 0 (a := a1) (rmCh32 l Z a0 hw a1 x0 x1 x2 cs vf h0 n0 P0 hS1 P2 P3 P4 P5 P6 hvf lo_x0 hi_x0 lo_x1 hi_x1 lo_x2 hi_x2 ncs) (by decide) (by decide) e1733 P0 (by decide) (by decide) (g := (mkF m 25 (Sh19 a1 a2 2 x1 b1727) [(.int 2), (.ref a1)])) rfl (by rw [hml]; rfl) (argsL := [(.int (2 : Int32))]) (rest := []) (lenOf pd_28I29C rfl) rfl (by show 2 * 0 + _ ≤ _; exact Nat.le_of_eq rfl) (hb hby d7_25)
     obtain ⟨rfl, N1734q, e1734⟩ := hQ1734
     have N1734 := Fr.app N1733 N1734q
     refine GoW.sg (mkF m 28 (Sh19 a1 a2 2 x1 b1727) [(.int x2)]) (fun t k => st1734 t k) ?_
     refine GoW.sg (mkF m 32 (Sh19 a1 a2 2 x2 b1727) [(.int 65), (.int x2)]) (fun t k => XS.istoreN X1734.here hx rfl (hb hby d7_28) rfl (l' := (Sh19 a1 a2 2 x2 b1727)) rfl (XS.iloadN X1734.here hx rfl (hb hby d7_29) rfl (XS.bipush X1734.here hx rfl (hb hby d7_30) k))) ?_
     have J50_1738 : ∀ b1737 : Int32, b1737 = (if x2 < (65 : Int32) then x2 else (if (90 : Int32) < x2 then x2 else (x2 + (32 : Int32)).toUInt32.toUInt16.toUInt32.toInt32)) → GoW p e below s (QW33 Z a1 a2 x0 x1 x2 y0 y1 y2 cs vf h0 n0) 0 0 (T1734.setTop (mkF m 50 (Sh19 a1 a2 2 x2 b1727) [(.int b1737)])) := by
      intro b1737 hb1737
      have hFb1737 : (FW33_2 x0 x1 x2 y0 y1 y2 cs b1717 b1727) = (FW33_3 x0 x1 x2 y0 y1 y2 cs b1717 b1727 b1737) := by unfold FW33_2; rw [if_pos c1732]; rw [hb1737]
      refine GoW.sg (mkF m 56 (Sh19 a1 a2 2 x2 b1737) [(.int 2), (.ref a2), (.int b1737)]) (fun t k => XS.istore X1734.here hx rfl (hb hby d7_50) rfl (l' := (Sh19 a1 a2 2 x2 b1737)) rfl (XS.iload X1734.here hx rfl (hb hby d7_52) rfl (XS.aloadN X1734.here hx rfl (hb hby d7_54) rfl rfl (XS.iloadN X1734.here hx rfl (hb hby d7_55) rfl k)))) ?_
      obtain ⟨_, T1741, L1741, X1741, hQ1741, st1741⟩ := own_virt X1734 hx hZ (y := Y19) hown (ww hw 80 rfl) (ww hw 81 rfl) (ww hw 83 rfl) (ww hw 82 rfl) (ww hw 84 rfl) (ww hw 13 rfl) (by decide) 1 (a := a2) (rmCh32 l Z a0 hw a2 y0 y1 y2 cs vf h0 n0 P1 hS2 P2 P3 P4 P5 P6 hvf lo_y0 hi_y0 lo_y1 hi_y1 lo_y2 hi_y2 ncs) (by decide) (by decide) e1734 P1 (by decide) (by decide) (g := (mkF m 56 (Sh19 a1 a2 2 x2 b1737) [(.int 2), (.ref a2), (.int b1737)])) rfl (by rw [hml]; rfl) (argsL := [(.int (2 : Int32))]) (rest := [(.int b1737)]) (lenOf pd_28I29C rfl) rfl (by show 2 * 0 + _ ≤ _; exact Nat.le_of_eq rfl) (hb hby d7_56)
      obtain ⟨rfl, N1741q, e1741⟩ := hQ1741
      have N1741 := Fr.app N1734 N1741q
      refine GoW.sg (mkF m 59 (Sh19 a1 a2 2 x2 b1737) [(.int y2), (.int b1737)]) (fun t k => st1741 t k) ?_
      by_cases c1742 : b1737 = y2
      ·refine GoW.sg (mkF m 17 (Sh19 a1 a2 3 x2 b1737) [(.ref a2), (.int 3)]) (fun t k => XS.icmpYes X1741.here hx rfl (pc0 := 59) (pc' := 64) rfl (hb hby d7_59) rfl (teq c1742).1 (by decide) (by decide) (XS.iinc X1741.here hx rfl (hb hby d7_64) rfl (l' := (Sh19 a1 a2 3 x2 b1737)) rfl (XS.goto X1741.here hx rfl (pc0 := 67) (pc' := 15) rfl (hb hby d7_67) (by decide) (by decide) (XS.iloadN X1741.here hx rfl (hb hby d7_15) rfl (XS.aloadN X1741.here hx rfl (hb hby d7_16) rfl rfl k))))) ?_
       obtain ⟨_, T1743, L1743, X1743, hQ1743, st1743⟩ := own_virt X1741 hx hZ (y := Y8) hown (ww hw 37 rfl) (ww hw 38 rfl) (ww hw 40 rfl) (ww hw 39 rfl) (ww hw 41 rfl) (ww hw 13 rfl) (by decide) 1 (a := a2) (rmLen3 l Z a0 hw a2 y0 y1 y2 cs h0 n0 P1 hS2 P2 ncs) (by decide) (by decide) e1741 P1 (by decide) (by decide) (g := (mkF m 17 (Sh19 a1 a2 3 x2 b1737) [(.ref a2), (.int 3)])) rfl (by rw [hml]; rfl) (argsL := []) (rest := [(.int (3 : Int32))]) (lenOf pd_2829I rfl) rfl (by show 2 * 0 + _ ≤ _; exact Nat.le_of_eq rfl) (hb hby d7_17)
       obtain ⟨rfl, N1743q, e1743⟩ := hQ1743
       have N1743 := Fr.app N1741 N1743q
       refine GoW.sg (mkF m 20 (Sh19 a1 a2 3 x2 b1737) [(.int 3), (.int 3)]) (fun t k => st1743 t k) ?_
       refine GoW.sg (mkF m 71 (Sh19 a1 a2 3 x2 b1737) [(.int 1)]) (fun t k => XS.icmpYes X1743.here hx rfl (pc0 := 20) (pc' := 70) rfl (hb hby d7_20) rfl (by decide) (by decide) (by decide) (XS.iconst X1743.here hx rfl (hb hby d7_70) k)) ?_
       refine GoW.retN X1743 hx (t := .boolean) Bd.returns (by simp) (hb hby d7_71) Bd.notSynchronized ?_ (by decide) (by decide)
       rw [e1743]
       have hq : (FW33 x0 x1 x2 y0 y1 y2 cs) = (1 : Int32) := by rw [hFb1717, hFb1727, hFb1737]; unfold FW33_3; rw [if_pos c1742]; try rfl
       exact ⟨by rw [hq] <;> rfl, N1743, rfl⟩
      ·refine GoW.sg (mkF m 63 (Sh19 a1 a2 2 x2 b1737) [(.int 0)]) (fun t k => XS.icmpNo X1741.here hx rfl (hb hby d7_59) rfl (feq c1742).1 (XS.iconst X1741.here hx rfl (hb hby d7_62) k)) ?_
       refine GoW.retN X1741 hx (t := .boolean) Bd.returns (by simp) (hb hby d7_63) Bd.notSynchronized ?_ (by decide) (by decide)
       rw [e1741]
       have hq : (FW33 x0 x1 x2 y0 y1 y2 cs) = (0 : Int32) := by rw [hFb1717, hFb1727, hFb1737]; unfold FW33_3; rw [if_neg c1742]; try rfl
       exact ⟨by rw [hq] <;> rfl, N1741, rfl⟩
     by_cases c1739 : x2 < (65 : Int32)
     ·refine GoW.sg (mkF m 50 (Sh19 a1 a2 2 x2 b1727) [(.int x2)]) (fun t k => XS.icmpYes X1734.here hx rfl (pc0 := 32) (pc' := 49) rfl (hb hby d7_32) rfl (tlt c1739).1 (by decide) (by decide) (XS.iloadN X1734.here hx rfl (hb hby d7_49) rfl k)) ?_
      exact J50_1738 _ (by rw [if_pos c1739])
     ·refine GoW.sg (mkF m 38 (Sh19 a1 a2 2 x2 b1727) [(.int 90), (.int x2)]) (fun t k => XS.icmpNo X1734.here hx rfl (hb hby d7_32) rfl (flt c1739).1 (XS.iloadN X1734.here hx rfl (hb hby d7_35) rfl (XS.bipush X1734.here hx rfl (hb hby d7_36) k))) ?_
      by_cases c1740 : (90 : Int32) < x2
      ·refine GoW.sg (mkF m 50 (Sh19 a1 a2 2 x2 b1727) [(.int x2)]) (fun t k => XS.icmpYes X1734.here hx rfl (pc0 := 38) (pc' := 49) rfl (hb hby d7_38) rfl (tlt c1740).2.2.1 (by decide) (by decide) (XS.iloadN X1734.here hx rfl (hb hby d7_49) rfl k)) ?_
       exact J50_1738 _ (by rw [if_neg c1739, if_pos c1740])
      ·refine GoW.sg (mkF m 50 (Sh19 a1 a2 2 x2 b1727) [(.int (x2 + (32 : Int32)).toUInt32.toUInt16.toUInt32.toInt32)]) (fun t k => XS.icmpNo X1734.here hx rfl (hb hby d7_38) rfl (flt c1740).2.2.1 (XS.iloadN X1734.here hx rfl (hb hby d7_41) rfl (XS.bipush X1734.here hx rfl (hb hby d7_42) (XS.iadd X1734.here hx rfl (hb hby d7_44) rfl (XS.i2c X1734.here hx rfl (hb hby d7_45) rfl (XS.goto X1734.here hx rfl (pc0 := 46) (pc' := 50) rfl (hb hby d7_46) (by decide) (by decide) k)))))) ?_
       exact J50_1738 _ (by rw [if_neg c1739, if_neg c1740])
    ·refine GoW.sg (mkF m 63 (Sh19 a1 a2 1 x1 b1727) [(.int 0)]) (fun t k => XS.icmpNo X1731.here hx rfl (hb hby d7_59) rfl (feq c1732).1 (XS.iconst X1731.here hx rfl (hb hby d7_62) k)) ?_
     refine GoW.retN X1731 hx (t := .boolean) Bd.returns (by simp) (hb hby d7_63) Bd.notSynchronized ?_ (by decide) (by decide)
     rw [e1731]
     have hq : (FW33 x0 x1 x2 y0 y1 y2 cs) = (0 : Int32) := by rw [hFb1717, hFb1727]; unfold FW33_2; rw [if_neg c1732]; try rfl
     exact ⟨by rw [hq] <;> rfl, N1731, rfl⟩
   by_cases c1729 : x1 < (65 : Int32)
   ·refine GoW.sg (mkF m 50 (Sh19 a1 a2 1 x1 b1717) [(.int x1)]) (fun t k => XS.icmpYes X1724.here hx rfl (pc0 := 32) (pc' := 49) rfl (hb hby d7_32) rfl (tlt c1729).1 (by decide) (by decide) (XS.iloadN X1724.here hx rfl (hb hby d7_49) rfl k)) ?_
    exact J50_1728 _ (by rw [if_pos c1729])
   ·refine GoW.sg (mkF m 38 (Sh19 a1 a2 1 x1 b1717) [(.int 90), (.int x1)]) (fun t k => XS.icmpNo X1724.here hx rfl (hb hby d7_32) rfl (flt c1729).1 (XS.iloadN X1724.here hx rfl (hb hby d7_35) rfl (XS.bipush X1724.here hx rfl (hb hby d7_36) k))) ?_
    by_cases c1730 : (90 : Int32) < x1
    ·refine GoW.sg (mkF m 50 (Sh19 a1 a2 1 x1 b1717) [(.int x1)]) (fun t k => XS.icmpYes X1724.here hx rfl (pc0 := 38) (pc' := 49) rfl (hb hby d7_38) rfl (tlt c1730).2.2.1 (by decide) (by decide) (XS.iloadN X1724.here hx rfl (hb hby d7_49) rfl k)) ?_
     exact J50_1728 _ (by rw [if_neg c1729, if_pos c1730])
    ·refine GoW.sg (mkF m 50 (Sh19 a1 a2 1 x1 b1717) [(.int (x1 + (32 : Int32)).toUInt32.toUInt16.toUInt32.toInt32)]) (fun t k => XS.icmpNo X1724.here hx rfl (hb hby d7_38) rfl (flt c1730).2.2.1 (XS.iloadN X1724.here hx rfl (hb hby d7_41) rfl (XS.bipush X1724.here hx rfl (hb hby d7_42) (XS.iadd X1724.here hx rfl (hb hby d7_44) rfl (XS.i2c X1724.here hx rfl (hb hby d7_45) rfl (XS.goto X1724.here hx rfl (pc0 := 46) (pc' := 50) rfl (hb hby d7_46) (by decide) (by decide) k)))))) ?_
     exact J50_1728 _ (by rw [if_neg c1729, if_neg c1730])
  ·refine GoW.sg (mkF m 63 (Sh19 a1 a2 0 x0 b1717) [(.int 0)]) (fun t k => XS.icmpNo X1721.here hx rfl (hb hby d7_59) rfl (feq c1722).1 (XS.iconst X1721.here hx rfl (hb hby d7_62) k)) ?_
   refine GoW.retN X1721 hx (t := .boolean) Bd.returns (by simp) (hb hby d7_63) Bd.notSynchronized ?_ (by decide) (by decide)
   rw [e1721]
   have hq : (FW33 x0 x1 x2 y0 y1 y2 cs) = (0 : Int32) := by rw [hFb1717]; unfold FW33_1; rw [if_neg c1722]; try rfl
   exact ⟨by rw [hq] <;> rfl, N1721, rfl⟩
 by_cases c1719 : x0 < (65 : Int32)
 ·refine GoW.sg (mkF m 50 (Sh18 a1 a2 0 x0) [(.int x0)]) (fun t k => XS.icmpYes X1714.here hx rfl (pc0 := 32) (pc' := 49) rfl (hb hby d7_32) rfl (tlt c1719).1 (by decide) (by decide) (XS.iloadN X1714.here hx rfl (hb hby d7_49) rfl k)) ?_
  exact J50_1718 _ (by rw [if_pos c1719])
 ·refine GoW.sg (mkF m 38 (Sh18 a1 a2 0 x0) [(.int 90), (.int x0)]) (fun t k => XS.icmpNo X1714.here hx rfl (hb hby d7_32) rfl (flt c1719).1 (XS.iloadN X1714.here hx rfl (hb hby d7_35) rfl (XS.bipush X1714.here hx rfl (hb hby d7_36) k))) ?_
  by_cases c1720 : (90 : Int32) < x0
  ·refine GoW.sg (mkF m 50 (Sh18 a1 a2 0 x0) [(.int x0)]) (fun t k => XS.icmpYes X1714.here hx rfl (pc0 := 38) (pc' := 49) rfl (hb hby d7_38) rfl (tlt c1720).2.2.1 (by decide) (by decide) (XS.iloadN X1714.here hx rfl (hb hby d7_49) rfl k)) ?_
   exact J50_1718 _ (by rw [if_neg c1719, if_pos c1720])
  ·refine GoW.sg (mkF m 50 (Sh18 a1 a2 0 x0) [(.int (x0 + (32 : Int32)).toUInt32.toUInt16.toUInt32.toInt32)]) (fun t k => XS.icmpNo X1714.here hx rfl (hb hby d7_38) rfl (flt c1720).2.2.1 (XS.iloadN X1714.here hx rfl (hb hby d7_41) rfl (XS.bipush X1714.here hx rfl (hb hby d7_42) (XS.iadd X1714.here hx rfl (hb hby d7_44) rfl (XS.i2c X1714.here hx rfl (hb hby d7_45) rfl (XS.goto X1714.here hx rfl (pc0 := 46) (pc' := 50) rfl (hb hby d7_46) (by decide) (by decide) k)))))) ?_
   exact J50_1718 _ (by rw [if_neg c1719, if_neg c1720])
def LOW (t : Int32) : Int32 := (if t < (65 : Int32) then t else (if (90 : Int32) < t then t else (t + (32 : Int32)).toUInt32.toUInt16.toUInt32.toInt32))
def FWall (t p x0 x1 x2 y0 y1 y2 : Int32) : Int32 := (if t < p then (0 : Int32) else (if (0 : Int32) < p then (if LOW x0 = y0 then (if (1 : Int32) < p then (if LOW x1 = y1 then (if (2 : Int32) < p then (if LOW x2 = y2 then (1 : Int32) else (0 : Int32)) else (1 : Int32)) else (0 : Int32)) else (if (2 : Int32) < p then (if LOW x2 = y2 then (1 : Int32) else (0 : Int32)) else (1 : Int32))) else (0 : Int32)) else (if (1 : Int32) < p then (if LOW x1 = y1 then (if (2 : Int32) < p then (if LOW x2 = y2 then (1 : Int32) else (0 : Int32)) else (1 : Int32)) else (0 : Int32)) else (if (2 : Int32) < p then (if LOW x2 = y2 then (1 : Int32) else (0 : Int32)) else (1 : Int32)))))
theorem own_fw11 (x0 x1 x2 y0 y1 y2 cs : Int32) : FW11 x0 y0 cs = FWall 1 1 x0 x1 x2 y0 y1 y2 := by
  unfold FW11 FW11_1
  simp only [FWall, LOW, show ((0 : Int32) < (0 : Int32)) = False from by decide, show ((0 : Int32) < (1 : Int32)) = True from by decide, show ((0 : Int32) < (2 : Int32)) = True from by decide, show ((0 : Int32) < (3 : Int32)) = True from by decide, show ((1 : Int32) < (0 : Int32)) = False from by decide, show ((1 : Int32) < (1 : Int32)) = False from by decide, show ((1 : Int32) < (2 : Int32)) = True from by decide, show ((1 : Int32) < (3 : Int32)) = True from by decide, show ((2 : Int32) < (0 : Int32)) = False from by decide, show ((2 : Int32) < (1 : Int32)) = False from by decide, show ((2 : Int32) < (2 : Int32)) = False from by decide, show ((2 : Int32) < (3 : Int32)) = True from by decide, show ((3 : Int32) < (0 : Int32)) = False from by decide, show ((3 : Int32) < (1 : Int32)) = False from by decide, show ((3 : Int32) < (2 : Int32)) = False from by decide, show ((3 : Int32) < (3 : Int32)) = False from by decide, if_true, if_false]
  try rfl
theorem own_fw12 (x0 x1 x2 y0 y1 y2 cs : Int32) : (0 : Int32) = FWall 1 2 x0 x1 x2 y0 y1 y2 := by
  simp only [FWall, show ((0 : Int32) < (0 : Int32)) = False from by decide, show ((0 : Int32) < (1 : Int32)) = True from by decide, show ((0 : Int32) < (2 : Int32)) = True from by decide, show ((0 : Int32) < (3 : Int32)) = True from by decide, show ((1 : Int32) < (0 : Int32)) = False from by decide, show ((1 : Int32) < (1 : Int32)) = False from by decide, show ((1 : Int32) < (2 : Int32)) = True from by decide, show ((1 : Int32) < (3 : Int32)) = True from by decide, show ((2 : Int32) < (0 : Int32)) = False from by decide, show ((2 : Int32) < (1 : Int32)) = False from by decide, show ((2 : Int32) < (2 : Int32)) = False from by decide, show ((2 : Int32) < (3 : Int32)) = True from by decide, show ((3 : Int32) < (0 : Int32)) = False from by decide, show ((3 : Int32) < (1 : Int32)) = False from by decide, show ((3 : Int32) < (2 : Int32)) = False from by decide, show ((3 : Int32) < (3 : Int32)) = False from by decide, if_true, if_false]
theorem own_fw13 (x0 x1 x2 y0 y1 y2 cs : Int32) : (0 : Int32) = FWall 1 3 x0 x1 x2 y0 y1 y2 := by
  simp only [FWall, show ((0 : Int32) < (0 : Int32)) = False from by decide, show ((0 : Int32) < (1 : Int32)) = True from by decide, show ((0 : Int32) < (2 : Int32)) = True from by decide, show ((0 : Int32) < (3 : Int32)) = True from by decide, show ((1 : Int32) < (0 : Int32)) = False from by decide, show ((1 : Int32) < (1 : Int32)) = False from by decide, show ((1 : Int32) < (2 : Int32)) = True from by decide, show ((1 : Int32) < (3 : Int32)) = True from by decide, show ((2 : Int32) < (0 : Int32)) = False from by decide, show ((2 : Int32) < (1 : Int32)) = False from by decide, show ((2 : Int32) < (2 : Int32)) = False from by decide, show ((2 : Int32) < (3 : Int32)) = True from by decide, show ((3 : Int32) < (0 : Int32)) = False from by decide, show ((3 : Int32) < (1 : Int32)) = False from by decide, show ((3 : Int32) < (2 : Int32)) = False from by decide, show ((3 : Int32) < (3 : Int32)) = False from by decide, if_true, if_false]
theorem own_fw21 (x0 x1 x2 y0 y1 y2 cs : Int32) : FW21 x0 x1 y0 cs = FWall 2 1 x0 x1 x2 y0 y1 y2 := by
  unfold FW21 FW21_1
  simp only [FWall, LOW, show ((0 : Int32) < (0 : Int32)) = False from by decide, show ((0 : Int32) < (1 : Int32)) = True from by decide, show ((0 : Int32) < (2 : Int32)) = True from by decide, show ((0 : Int32) < (3 : Int32)) = True from by decide, show ((1 : Int32) < (0 : Int32)) = False from by decide, show ((1 : Int32) < (1 : Int32)) = False from by decide, show ((1 : Int32) < (2 : Int32)) = True from by decide, show ((1 : Int32) < (3 : Int32)) = True from by decide, show ((2 : Int32) < (0 : Int32)) = False from by decide, show ((2 : Int32) < (1 : Int32)) = False from by decide, show ((2 : Int32) < (2 : Int32)) = False from by decide, show ((2 : Int32) < (3 : Int32)) = True from by decide, show ((3 : Int32) < (0 : Int32)) = False from by decide, show ((3 : Int32) < (1 : Int32)) = False from by decide, show ((3 : Int32) < (2 : Int32)) = False from by decide, show ((3 : Int32) < (3 : Int32)) = False from by decide, if_true, if_false]
  try rfl
theorem own_fw22 (x0 x1 x2 y0 y1 y2 cs : Int32) : FW22 x0 x1 y0 y1 cs = FWall 2 2 x0 x1 x2 y0 y1 y2 := by
  unfold FW22 FW22_1 FW22_2
  simp only [FWall, LOW, show ((0 : Int32) < (0 : Int32)) = False from by decide, show ((0 : Int32) < (1 : Int32)) = True from by decide, show ((0 : Int32) < (2 : Int32)) = True from by decide, show ((0 : Int32) < (3 : Int32)) = True from by decide, show ((1 : Int32) < (0 : Int32)) = False from by decide, show ((1 : Int32) < (1 : Int32)) = False from by decide, show ((1 : Int32) < (2 : Int32)) = True from by decide, show ((1 : Int32) < (3 : Int32)) = True from by decide, show ((2 : Int32) < (0 : Int32)) = False from by decide, show ((2 : Int32) < (1 : Int32)) = False from by decide, show ((2 : Int32) < (2 : Int32)) = False from by decide, show ((2 : Int32) < (3 : Int32)) = True from by decide, show ((3 : Int32) < (0 : Int32)) = False from by decide, show ((3 : Int32) < (1 : Int32)) = False from by decide, show ((3 : Int32) < (2 : Int32)) = False from by decide, show ((3 : Int32) < (3 : Int32)) = False from by decide, if_true, if_false]
  try rfl
theorem own_fw23 (x0 x1 x2 y0 y1 y2 cs : Int32) : (0 : Int32) = FWall 2 3 x0 x1 x2 y0 y1 y2 := by
  simp only [FWall, show ((0 : Int32) < (0 : Int32)) = False from by decide, show ((0 : Int32) < (1 : Int32)) = True from by decide, show ((0 : Int32) < (2 : Int32)) = True from by decide, show ((0 : Int32) < (3 : Int32)) = True from by decide, show ((1 : Int32) < (0 : Int32)) = False from by decide, show ((1 : Int32) < (1 : Int32)) = False from by decide, show ((1 : Int32) < (2 : Int32)) = True from by decide, show ((1 : Int32) < (3 : Int32)) = True from by decide, show ((2 : Int32) < (0 : Int32)) = False from by decide, show ((2 : Int32) < (1 : Int32)) = False from by decide, show ((2 : Int32) < (2 : Int32)) = False from by decide, show ((2 : Int32) < (3 : Int32)) = True from by decide, show ((3 : Int32) < (0 : Int32)) = False from by decide, show ((3 : Int32) < (1 : Int32)) = False from by decide, show ((3 : Int32) < (2 : Int32)) = False from by decide, show ((3 : Int32) < (3 : Int32)) = False from by decide, if_true, if_false]
theorem own_fw31 (x0 x1 x2 y0 y1 y2 cs : Int32) : FW31 x0 x1 x2 y0 cs = FWall 3 1 x0 x1 x2 y0 y1 y2 := by
  unfold FW31 FW31_1
  simp only [FWall, LOW, show ((0 : Int32) < (0 : Int32)) = False from by decide, show ((0 : Int32) < (1 : Int32)) = True from by decide, show ((0 : Int32) < (2 : Int32)) = True from by decide, show ((0 : Int32) < (3 : Int32)) = True from by decide, show ((1 : Int32) < (0 : Int32)) = False from by decide, show ((1 : Int32) < (1 : Int32)) = False from by decide, show ((1 : Int32) < (2 : Int32)) = True from by decide, show ((1 : Int32) < (3 : Int32)) = True from by decide, show ((2 : Int32) < (0 : Int32)) = False from by decide, show ((2 : Int32) < (1 : Int32)) = False from by decide, show ((2 : Int32) < (2 : Int32)) = False from by decide, show ((2 : Int32) < (3 : Int32)) = True from by decide, show ((3 : Int32) < (0 : Int32)) = False from by decide, show ((3 : Int32) < (1 : Int32)) = False from by decide, show ((3 : Int32) < (2 : Int32)) = False from by decide, show ((3 : Int32) < (3 : Int32)) = False from by decide, if_true, if_false]
  try rfl
theorem own_fw32 (x0 x1 x2 y0 y1 y2 cs : Int32) : FW32 x0 x1 x2 y0 y1 cs = FWall 3 2 x0 x1 x2 y0 y1 y2 := by
  unfold FW32 FW32_1 FW32_2
  simp only [FWall, LOW, show ((0 : Int32) < (0 : Int32)) = False from by decide, show ((0 : Int32) < (1 : Int32)) = True from by decide, show ((0 : Int32) < (2 : Int32)) = True from by decide, show ((0 : Int32) < (3 : Int32)) = True from by decide, show ((1 : Int32) < (0 : Int32)) = False from by decide, show ((1 : Int32) < (1 : Int32)) = False from by decide, show ((1 : Int32) < (2 : Int32)) = True from by decide, show ((1 : Int32) < (3 : Int32)) = True from by decide, show ((2 : Int32) < (0 : Int32)) = False from by decide, show ((2 : Int32) < (1 : Int32)) = False from by decide, show ((2 : Int32) < (2 : Int32)) = False from by decide, show ((2 : Int32) < (3 : Int32)) = True from by decide, show ((3 : Int32) < (0 : Int32)) = False from by decide, show ((3 : Int32) < (1 : Int32)) = False from by decide, show ((3 : Int32) < (2 : Int32)) = False from by decide, show ((3 : Int32) < (3 : Int32)) = False from by decide, if_true, if_false]
  try rfl
theorem own_fw33 (x0 x1 x2 y0 y1 y2 cs : Int32) : FW33 x0 x1 x2 y0 y1 y2 cs = FWall 3 3 x0 x1 x2 y0 y1 y2 := by
  unfold FW33 FW33_1 FW33_2 FW33_3
  simp only [FWall, LOW, show ((0 : Int32) < (0 : Int32)) = False from by decide, show ((0 : Int32) < (1 : Int32)) = True from by decide, show ((0 : Int32) < (2 : Int32)) = True from by decide, show ((0 : Int32) < (3 : Int32)) = True from by decide, show ((1 : Int32) < (0 : Int32)) = False from by decide, show ((1 : Int32) < (1 : Int32)) = False from by decide, show ((1 : Int32) < (2 : Int32)) = True from by decide, show ((1 : Int32) < (3 : Int32)) = True from by decide, show ((2 : Int32) < (0 : Int32)) = False from by decide, show ((2 : Int32) < (1 : Int32)) = False from by decide, show ((2 : Int32) < (2 : Int32)) = False from by decide, show ((2 : Int32) < (3 : Int32)) = True from by decide, show ((3 : Int32) < (0 : Int32)) = False from by decide, show ((3 : Int32) < (1 : Int32)) = False from by decide, show ((3 : Int32) < (2 : Int32)) = False from by decide, show ((3 : Int32) < (3 : Int32)) = False from by decide, if_true, if_false]
  try rfl
theorem rmWXX (l : Launch) (Z : State) (a0 : Array Value) (hw : HW a0 Z) (a1 a2 : Addr) (t x0 x1 x2 p y0 y1 y2 cs : Int32) (vf : Value) (h0 : Heap) (n0 : Nat) (PE : Exa Z h0 a1 "java/lang/String") (PE2 : Exa Z h0 a2 "java/lang/String") (PC : Sta Z h0 "java/lang/String" "COMPACT_STRINGS" "Z" (.int cs)) (PA : Sta Z h0 "java/lang/StringUTF16" "$assertionsDisabled" "Z" (.int (1 : Int32))) (PH : Sta Z h0 "java/lang/StringUTF16" "HI_BYTE_SHIFT" "I" (.int (0 : Int32))) (PL : Sta Z h0 "java/lang/StringUTF16" "LO_BYTE_SHIFT" "I" (.int (8 : Int32))) (PF : Sta Z h0 "jdk/internal/util/Preconditions" "SIOOBE_FORMATTER" "Ljava/util/function/BiFunction;" vf) (hS1 : StrX Z h0 a1 t x0 x1 x2) (hS2 : StrX Z h0 a2 p y0 y1 y2) (hvf : vf.isRef = true) (lo_x0 : ¬ (x0 < (0 : Int32))) (hi_x0 : ¬ ((65535 : Int32) < x0)) (lo_x1 : ¬ (x1 < (0 : Int32))) (hi_x1 : ¬ ((65535 : Int32) < x1)) (lo_x2 : ¬ (x2 < (0 : Int32))) (hi_x2 : ¬ ((65535 : Int32) < x2)) (lo_y0 : ¬ (y0 < (0 : Int32))) (hi_y0 : ¬ ((65535 : Int32) < y0)) (lo_y1 : ¬ (y1 < (0 : Int32))) (hi_y1 : ¬ ((65535 : Int32) < y1)) (lo_y2 : ¬ (y2 < (0 : Int32))) (hi_y2 : ¬ ((65535 : Int32) < y2)) (ncs : ¬ (cs = (0 : Int32))) :
  MM l Z Y7 prog_10_method_5_code 5 (some .boolean) 5 0 0 67 #[(.ref a1), (.ref a2)] h0 (PureQ (.int (FWall t p x0 x1 x2 y0 y1 y2)) h0 n0) := by
  rcases hS1 with ⟨rfl, hS1⟩ | ⟨rfl, hS1⟩ | ⟨rfl, hS1⟩
  · rcases hS2 with ⟨rfl, hS2⟩ | ⟨rfl, hS2⟩ | ⟨rfl, hS2⟩
    · exact (rmW11 l Z a0 hw a1 a2 x0 y0 cs vf h0 n0 PE PE2 PC PA PH PL PF hS1 hS2 hvf lo_x0 hi_x0 lo_y0 hi_y0 ncs).mono (fun _ _ h => h) (fun _ _ _ _ _ h => h) (fun _ _ _ _ _ h => by obtain ⟨v, L, q1, ⟨q2, q3⟩, q4⟩ := h; exact ⟨v, L, q1, ⟨q2.trans (congrArg (fun z => some (Value.int z)) (own_fw11 x0 x1 x2 y0 y1 y2 cs)), q3⟩, q4⟩)
    · exact (rmW12 l Z a0 hw a1 a2 x0 y0 y1 cs vf h0 n0 PE PE2 PC PA PH PL PF hS1 hS2 hvf lo_x0 hi_x0 lo_y0 hi_y0 lo_y1 hi_y1 ncs).mono (fun _ _ h => h) (fun _ _ _ _ _ h => h) (fun _ _ _ _ _ h => by obtain ⟨v, L, q1, ⟨q2, q3⟩, q4⟩ := h; exact ⟨v, L, q1, ⟨q2.trans (congrArg (fun z => some (Value.int z)) (own_fw12 x0 x1 x2 y0 y1 y2 cs)), q3⟩, q4⟩)
    · exact (rmW13 l Z a0 hw a1 a2 x0 y0 y1 y2 cs vf h0 n0 PE PE2 PC PA PH PL PF hS1 hS2 hvf lo_x0 hi_x0 lo_y0 hi_y0 lo_y1 hi_y1 lo_y2 hi_y2 ncs).mono (fun _ _ h => h) (fun _ _ _ _ _ h => h) (fun _ _ _ _ _ h => by obtain ⟨v, L, q1, ⟨q2, q3⟩, q4⟩ := h; exact ⟨v, L, q1, ⟨q2.trans (congrArg (fun z => some (Value.int z)) (own_fw13 x0 x1 x2 y0 y1 y2 cs)), q3⟩, q4⟩)
  · rcases hS2 with ⟨rfl, hS2⟩ | ⟨rfl, hS2⟩ | ⟨rfl, hS2⟩
    · exact (rmW21 l Z a0 hw a1 a2 x0 x1 y0 cs vf h0 n0 PE PE2 PC PA PH PL PF hS1 hS2 hvf lo_x0 hi_x0 lo_x1 hi_x1 lo_y0 hi_y0 ncs).mono (fun _ _ h => h) (fun _ _ _ _ _ h => h) (fun _ _ _ _ _ h => by obtain ⟨v, L, q1, ⟨q2, q3⟩, q4⟩ := h; exact ⟨v, L, q1, ⟨q2.trans (congrArg (fun z => some (Value.int z)) (own_fw21 x0 x1 x2 y0 y1 y2 cs)), q3⟩, q4⟩)
    · exact (rmW22 l Z a0 hw a1 a2 x0 x1 y0 y1 cs vf h0 n0 PE PE2 PC PA PH PL PF hS1 hS2 hvf lo_x0 hi_x0 lo_x1 hi_x1 lo_y0 hi_y0 lo_y1 hi_y1 ncs).mono (fun _ _ h => h) (fun _ _ _ _ _ h => h) (fun _ _ _ _ _ h => by obtain ⟨v, L, q1, ⟨q2, q3⟩, q4⟩ := h; exact ⟨v, L, q1, ⟨q2.trans (congrArg (fun z => some (Value.int z)) (own_fw22 x0 x1 x2 y0 y1 y2 cs)), q3⟩, q4⟩)
    · exact (rmW23 l Z a0 hw a1 a2 x0 x1 y0 y1 y2 cs vf h0 n0 PE PE2 PC PA PH PL PF hS1 hS2 hvf lo_x0 hi_x0 lo_x1 hi_x1 lo_y0 hi_y0 lo_y1 hi_y1 lo_y2 hi_y2 ncs).mono (fun _ _ h => h) (fun _ _ _ _ _ h => h) (fun _ _ _ _ _ h => by obtain ⟨v, L, q1, ⟨q2, q3⟩, q4⟩ := h; exact ⟨v, L, q1, ⟨q2.trans (congrArg (fun z => some (Value.int z)) (own_fw23 x0 x1 x2 y0 y1 y2 cs)), q3⟩, q4⟩)
  · rcases hS2 with ⟨rfl, hS2⟩ | ⟨rfl, hS2⟩ | ⟨rfl, hS2⟩
    · exact (rmW31 l Z a0 hw a1 a2 x0 x1 x2 y0 cs vf h0 n0 PE PE2 PC PA PH PL PF hS1 hS2 hvf lo_x0 hi_x0 lo_x1 hi_x1 lo_x2 hi_x2 lo_y0 hi_y0 ncs).mono (fun _ _ h => h) (fun _ _ _ _ _ h => h) (fun _ _ _ _ _ h => by obtain ⟨v, L, q1, ⟨q2, q3⟩, q4⟩ := h; exact ⟨v, L, q1, ⟨q2.trans (congrArg (fun z => some (Value.int z)) (own_fw31 x0 x1 x2 y0 y1 y2 cs)), q3⟩, q4⟩)
    · exact (rmW32 l Z a0 hw a1 a2 x0 x1 x2 y0 y1 cs vf h0 n0 PE PE2 PC PA PH PL PF hS1 hS2 hvf lo_x0 hi_x0 lo_x1 hi_x1 lo_x2 hi_x2 lo_y0 hi_y0 lo_y1 hi_y1 ncs).mono (fun _ _ h => h) (fun _ _ _ _ _ h => h) (fun _ _ _ _ _ h => by obtain ⟨v, L, q1, ⟨q2, q3⟩, q4⟩ := h; exact ⟨v, L, q1, ⟨q2.trans (congrArg (fun z => some (Value.int z)) (own_fw32 x0 x1 x2 y0 y1 y2 cs)), q3⟩, q4⟩)
    · exact (rmW33 l Z a0 hw a1 a2 x0 x1 x2 y0 y1 y2 cs vf h0 n0 PE PE2 PC PA PH PL PF hS1 hS2 hvf lo_x0 hi_x0 lo_x1 hi_x1 lo_x2 hi_x2 lo_y0 hi_y0 lo_y1 hi_y1 lo_y2 hi_y2 ncs).mono (fun _ _ h => h) (fun _ _ _ _ _ h => h) (fun _ _ _ _ _ h => by obtain ⟨v, L, q1, ⟨q2, q3⟩, q4⟩ := h; exact ⟨v, L, q1, ⟨q2.trans (congrArg (fun z => some (Value.int z)) (own_fw33 x0 x1 x2 y0 y1 y2 cs)), q3⟩, q4⟩)
theorem rmWX0 (l : Launch) (Z : State) (a0 : Array Value) (hw : HW a0 Z) (a1 a2 : Addr) (t x0 x1 x2 cs : Int32) (vf : Value) (h0 : Heap) (n0 : Nat) (PE : Exa Z h0 a1 "java/lang/String") (PE2 : Exa Z h0 a2 "java/lang/String") (PC : Sta Z h0 "java/lang/String" "COMPACT_STRINGS" "Z" (.int cs)) (PA : Sta Z h0 "java/lang/StringUTF16" "$assertionsDisabled" "Z" (.int (1 : Int32))) (PH : Sta Z h0 "java/lang/StringUTF16" "HI_BYTE_SHIFT" "I" (.int (0 : Int32))) (PL : Sta Z h0 "java/lang/StringUTF16" "LO_BYTE_SHIFT" "I" (.int (8 : Int32))) (PF : Sta Z h0 "jdk/internal/util/Preconditions" "SIOOBE_FORMATTER" "Ljava/util/function/BiFunction;" vf) (hS1 : StrX Z h0 a1 t x0 x1 x2) (hS2 : Str0 Z h0 a2) (hvf : vf.isRef = true) (lo_x0 : ¬ (x0 < (0 : Int32))) (hi_x0 : ¬ ((65535 : Int32) < x0)) (lo_x1 : ¬ (x1 < (0 : Int32))) (hi_x1 : ¬ ((65535 : Int32) < x1)) (lo_x2 : ¬ (x2 < (0 : Int32))) (hi_x2 : ¬ ((65535 : Int32) < x2)) (ncs : ¬ (cs = (0 : Int32))) :
  MM l Z Y7 prog_10_method_5_code 5 (some .boolean) 5 0 0 67 #[(.ref a1), (.ref a2)] h0 (PureQ (.int 1) h0 n0) := by
  rcases hS1 with ⟨rfl, hS1⟩ | ⟨rfl, hS1⟩ | ⟨rfl, hS1⟩
  · exact (rmW10 l Z a0 hw a1 a2 x0 cs vf h0 n0 PE PE2 PC PA PH PL PF hS1 hS2 hvf lo_x0 hi_x0 ncs).mono (fun _ _ h => h) (fun _ _ _ _ _ h => h) (fun _ _ _ _ _ h => by obtain ⟨v, L, q1, ⟨q2, q3⟩, q4⟩ := h; exact ⟨v, L, q1, ⟨q2.trans (rfl), q3⟩, q4⟩)
  · exact (rmW20 l Z a0 hw a1 a2 x0 x1 cs vf h0 n0 PE PE2 PC PA PH PL PF hS1 hS2 hvf lo_x0 hi_x0 lo_x1 hi_x1 ncs).mono (fun _ _ h => h) (fun _ _ _ _ _ h => h) (fun _ _ _ _ _ h => by obtain ⟨v, L, q1, ⟨q2, q3⟩, q4⟩ := h; exact ⟨v, L, q1, ⟨q2.trans (rfl), q3⟩, q4⟩)
  · exact (rmW30 l Z a0 hw a1 a2 x0 x1 x2 cs vf h0 n0 PE PE2 PC PA PH PL PF hS1 hS2 hvf lo_x0 hi_x0 lo_x1 hi_x1 lo_x2 hi_x2 ncs).mono (fun _ _ h => h) (fun _ _ _ _ _ h => h) (fun _ _ _ _ _ h => by obtain ⟨v, L, q1, ⟨q2, q3⟩, q4⟩ := h; exact ⟨v, L, q1, ⟨q2.trans (rfl), q3⟩, q4⟩)
theorem rmW0X (l : Launch) (Z : State) (a0 : Array Value) (hw : HW a0 Z) (a1 a2 : Addr) (p y0 y1 y2 cs : Int32) (vf : Value) (h0 : Heap) (n0 : Nat) (PE : Exa Z h0 a1 "java/lang/String") (PE2 : Exa Z h0 a2 "java/lang/String") (PC : Sta Z h0 "java/lang/String" "COMPACT_STRINGS" "Z" (.int cs)) (PA : Sta Z h0 "java/lang/StringUTF16" "$assertionsDisabled" "Z" (.int (1 : Int32))) (PH : Sta Z h0 "java/lang/StringUTF16" "HI_BYTE_SHIFT" "I" (.int (0 : Int32))) (PL : Sta Z h0 "java/lang/StringUTF16" "LO_BYTE_SHIFT" "I" (.int (8 : Int32))) (PF : Sta Z h0 "jdk/internal/util/Preconditions" "SIOOBE_FORMATTER" "Ljava/util/function/BiFunction;" vf) (hS1 : Str0 Z h0 a1) (hS2 : StrX Z h0 a2 p y0 y1 y2) (hvf : vf.isRef = true) (lo_y0 : ¬ (y0 < (0 : Int32))) (hi_y0 : ¬ ((65535 : Int32) < y0)) (lo_y1 : ¬ (y1 < (0 : Int32))) (hi_y1 : ¬ ((65535 : Int32) < y1)) (lo_y2 : ¬ (y2 < (0 : Int32))) (hi_y2 : ¬ ((65535 : Int32) < y2)) (ncs : ¬ (cs = (0 : Int32))) :
  MM l Z Y7 prog_10_method_5_code 5 (some .boolean) 5 0 0 67 #[(.ref a1), (.ref a2)] h0 (PureQ (.int 0) h0 n0) := by
  rcases hS2 with ⟨rfl, hS2⟩ | ⟨rfl, hS2⟩ | ⟨rfl, hS2⟩
  · exact (rmW01 l Z a0 hw a1 a2 y0 cs vf h0 n0 PE PE2 PC PA PH PL PF hS1 hS2 hvf lo_y0 hi_y0 ncs).mono (fun _ _ h => h) (fun _ _ _ _ _ h => h) (fun _ _ _ _ _ h => by obtain ⟨v, L, q1, ⟨q2, q3⟩, q4⟩ := h; exact ⟨v, L, q1, ⟨q2.trans (rfl), q3⟩, q4⟩)
  · exact (rmW02 l Z a0 hw a1 a2 y0 y1 cs vf h0 n0 PE PE2 PC PA PH PL PF hS1 hS2 hvf lo_y0 hi_y0 lo_y1 hi_y1 ncs).mono (fun _ _ h => h) (fun _ _ _ _ _ h => h) (fun _ _ _ _ _ h => by obtain ⟨v, L, q1, ⟨q2, q3⟩, q4⟩ := h; exact ⟨v, L, q1, ⟨q2.trans (rfl), q3⟩, q4⟩)
  · exact (rmW03 l Z a0 hw a1 a2 y0 y1 y2 cs vf h0 n0 PE PE2 PC PA PH PL PF hS1 hS2 hvf lo_y0 hi_y0 lo_y1 hi_y1 lo_y2 hi_y2 ncs).mono (fun _ _ h => h) (fun _ _ _ _ _ h => h) (fun _ _ _ _ _ h => by obtain ⟨v, L, q1, ⟨q2, q3⟩, q4⟩ := h; exact ⟨v, L, q1, ⟨q2.trans (rfl), q3⟩, q4⟩)
theorem rmW0Z (l : Launch) (Z : State) (a0 : Array Value) (hw : HW a0 Z) (a1 a2 : Addr) (cs : Int32) (vf : Value) (h0 : Heap) (n0 : Nat) (PE : Exa Z h0 a1 "java/lang/String") (PE2 : Exa Z h0 a2 "java/lang/String") (PC : Sta Z h0 "java/lang/String" "COMPACT_STRINGS" "Z" (.int cs)) (PA : Sta Z h0 "java/lang/StringUTF16" "$assertionsDisabled" "Z" (.int (1 : Int32))) (PH : Sta Z h0 "java/lang/StringUTF16" "HI_BYTE_SHIFT" "I" (.int (0 : Int32))) (PL : Sta Z h0 "java/lang/StringUTF16" "LO_BYTE_SHIFT" "I" (.int (8 : Int32))) (PF : Sta Z h0 "jdk/internal/util/Preconditions" "SIOOBE_FORMATTER" "Ljava/util/function/BiFunction;" vf) (hS1 : Str0 Z h0 a1) (hS2 : Str0 Z h0 a2) (hvf : vf.isRef = true) (ncs : ¬ (cs = (0 : Int32))) :
  MM l Z Y7 prog_10_method_5_code 5 (some .boolean) 5 0 0 67 #[(.ref a1), (.ref a2)] h0 (PureQ (.int 1) h0 n0) := by
  exact (rmW00 l Z a0 hw a1 a2  cs vf h0 n0 PE PE2 PC PA PH PL PF hS1 hS2 hvf  ncs).mono (fun _ _ h => h) (fun _ _ _ _ _ h => h) (fun _ _ _ _ _ h => by obtain ⟨v, L, q1, ⟨q2, q3⟩, q4⟩ := h; exact ⟨v, L, q1, ⟨q2.trans (rfl), q3⟩, q4⟩)
def F1 (q1 : Int32) : Int32 := (if q1 < (65 : Int32) then (nar .char q1) else (if (90 : Int32) < q1 then (nar .char q1) else (nar .char (q1 + (32 : Int32)).toUInt32.toUInt16.toUInt32.toInt32)))
theorem rm1 (l : Launch) (Z : State) (a0 : Array Value) (hw : HW a0 Z) (q1 : Int32) (h0 : Heap) (n0 : Nat) :
  MM l Z Y1 method_3_code 1 (some .char) 0 0 0 0 #[(.int q1)] h0 (PureQ (.int (F1 q1)) h0 n0) := by
 refine own_start (fun m => (mkF m 0 #[.val (.int q1)] [])) (plainFor_of_name pn_com_example_throttle_throttle_SipSyntaxStartsWithIgnoringAsciiCasePinLaw) (by simp [entryFrame, mkF, argsToLocals, Value.category]) n0 ?_
 intro p e s m below meth c s₁ Bd hx hby hml hZ hown hnm X0 e0 N0
 refine GoW.sg (mkF m 3 #[.val (.int q1)] [(.int 65), (.int q1)]) (fun t k => XS.iloadN X0.here hx rfl (hb hby d1_0) rfl (XS.bipush X0.here hx rfl (hb hby d1_1) k)) ?_
 by_cases c1744 : q1 < (65 : Int32)
 ·refine GoW.sg (mkF m 19 #[.val (.int q1)] [(.int q1)]) (fun t k => XS.icmpYes X0.here hx rfl (pc0 := 3) (pc' := 18) rfl (hb hby d1_3) rfl (tlt c1744).1 (by decide) (by decide) (XS.iloadN X0.here hx rfl (hb hby d1_18) rfl k)) ?_
  refine GoW.retN X0 hx (t := .char) Bd.returns (by simp) (hb hby d1_19) Bd.notSynchronized ?_ (by decide) (by decide)
  have hq : (F1 q1) = (nar .char q1) := by unfold F1; rw [if_pos c1744]; try rfl
  exact ⟨by rw [hq] <;> rfl, N0, e0⟩
 ·refine GoW.sg (mkF m 9 #[.val (.int q1)] [(.int 90), (.int q1)]) (fun t k => XS.icmpNo X0.here hx rfl (hb hby d1_3) rfl (flt c1744).1 (XS.iloadN X0.here hx rfl (hb hby d1_6) rfl (XS.bipush X0.here hx rfl (hb hby d1_7) k))) ?_
  by_cases c1745 : (90 : Int32) < q1
  ·refine GoW.sg (mkF m 19 #[.val (.int q1)] [(.int q1)]) (fun t k => XS.icmpYes X0.here hx rfl (pc0 := 9) (pc' := 18) rfl (hb hby d1_9) rfl (tlt c1745).2.2.1 (by decide) (by decide) (XS.iloadN X0.here hx rfl (hb hby d1_18) rfl k)) ?_
   refine GoW.retN X0 hx (t := .char) Bd.returns (by simp) (hb hby d1_19) Bd.notSynchronized ?_ (by decide) (by decide)
   have hq : (F1 q1) = (nar .char q1) := by unfold F1; rw [if_neg c1744, if_pos c1745]; try rfl
   exact ⟨by rw [hq] <;> rfl, N0, e0⟩
  ·refine GoW.sg (mkF m 17 #[.val (.int q1)] [(.int (q1 + (32 : Int32)).toUInt32.toUInt16.toUInt32.toInt32)]) (fun t k => XS.icmpNo X0.here hx rfl (hb hby d1_9) rfl (flt c1745).2.2.1 (XS.iloadN X0.here hx rfl (hb hby d1_12) rfl (XS.bipush X0.here hx rfl (hb hby d1_13) (XS.iadd X0.here hx rfl (hb hby d1_15) rfl (XS.i2c X0.here hx rfl (hb hby d1_16) rfl k))))) ?_
   refine GoW.retN X0 hx (t := .char) Bd.returns (by simp) (hb hby d1_17) Bd.notSynchronized ?_ (by decide) (by decide)
   have hq : (F1 q1) = (nar .char (q1 + (32 : Int32)).toUInt32.toUInt16.toUInt32.toInt32) := by unfold F1; rw [if_neg c1744, if_neg c1745]; try rfl
   exact ⟨by rw [hq] <;> rfl, N0, e0⟩
def F2 (q1 : Int32) (q2 : Int32) (q3 : Int32) : Int32 := (if q1 = (0 : Int32) then (nar .char q2) else (if q1 = (1 : Int32) then (if q2 < (97 : Int32) then (nar .char q2) else (if (122 : Int32) < q2 then (nar .char q2) else (nar .char (q2 - (32 : Int32)).toUInt32.toUInt16.toUInt32.toInt32))) else (if q1 = (2 : Int32) then (nar .char q3) else (nar .char (q2 - (32 : Int32)).toUInt32.toUInt16.toUInt32.toInt32))))
theorem rm2 (l : Launch) (Z : State) (a0 : Array Value) (hw : HW a0 Z) (q1 : Int32) (q2 : Int32) (q3 : Int32) (h0 : Heap) (n0 : Nat) :
  MM l Z Y2 method_4_code 3 (some .char) 0 0 0 0 #[(.int q1), (.int q2), (.int q3)] h0 (PureQ (.int (F2 q1 q2 q3)) h0 n0) := by
 refine own_start (fun m => (mkF m 0 (Sh20 q1 q2 q3) [])) (plainFor_of_name pn_com_example_throttle_throttle_SipSyntaxStartsWithIgnoringAsciiCasePinLaw) (by simp [entryFrame, mkF, argsToLocals, Value.category]) n0 ?_
 intro p e s m below meth c s₁ Bd hx hby hml hZ hown hnm X0 e0 N0
 refine GoW.sg (mkF m 1 (Sh20 q1 q2 q3) [(.int q1)]) (fun t k => XS.iloadN X0.here hx rfl (hb hby d2_0) rfl k) ?_
 by_cases c1746 : q1 = (0 : Int32)
 ·refine GoW.sg (mkF m 5 (Sh20 q1 q2 q3) [(.int q2)]) (fun t k => XS.ifNo X0.here hx rfl (hb hby d2_1) rfl ((if0 _ _).trans (teq c1746).2) (XS.iloadN X0.here hx rfl (hb hby d2_4) rfl k)) ?_
  refine GoW.retN X0 hx (t := .char) Bd.returns (by simp) (hb hby d2_5) Bd.notSynchronized ?_ (by decide) (by decide)
  have hq : (F2 q1 q2 q3) = (nar .char q2) := by unfold F2; rw [if_pos c1746]; try rfl
  exact ⟨by rw [hq] <;> rfl, N0, e0⟩
 ·refine GoW.sg (mkF m 8 (Sh20 q1 q2 q3) [(.int 1), (.int q1)]) (fun t k => XS.ifYes X0.here hx rfl (pc0 := 1) (pc' := 6) rfl (hb hby d2_1) rfl ((if0 _ _).trans (feq c1746).2) (by decide) (by decide) (XS.iloadN X0.here hx rfl (hb hby d2_6) rfl (XS.iconst X0.here hx rfl (hb hby d2_7) k))) ?_
  by_cases c1747 : q1 = (1 : Int32)
  ·refine GoW.sg (mkF m 14 (Sh20 q1 q2 q3) [(.int 97), (.int q2)]) (fun t k => XS.icmpNo X0.here hx rfl (hb hby d2_8) rfl (teq c1747).2 (XS.iloadN X0.here hx rfl (hb hby d2_11) rfl (XS.bipush X0.here hx rfl (hb hby d2_12) k))) ?_
   by_cases c1748 : q2 < (97 : Int32)
   ·refine GoW.sg (mkF m 30 (Sh20 q1 q2 q3) [(.int q2)]) (fun t k => XS.icmpYes X0.here hx rfl (pc0 := 14) (pc' := 29) rfl (hb hby d2_14) rfl (tlt c1748).1 (by decide) (by decide) (XS.iloadN X0.here hx rfl (hb hby d2_29) rfl k)) ?_
    refine GoW.retN X0 hx (t := .char) Bd.returns (by simp) (hb hby d2_30) Bd.notSynchronized ?_ (by decide) (by decide)
    have hq : (F2 q1 q2 q3) = (nar .char q2) := by unfold F2; rw [if_neg c1746, if_pos c1747, if_pos c1748]; try rfl
    exact ⟨by rw [hq] <;> rfl, N0, e0⟩
   ·refine GoW.sg (mkF m 20 (Sh20 q1 q2 q3) [(.int 122), (.int q2)]) (fun t k => XS.icmpNo X0.here hx rfl (hb hby d2_14) rfl (flt c1748).1 (XS.iloadN X0.here hx rfl (hb hby d2_17) rfl (XS.bipush X0.here hx rfl (hb hby d2_18) k))) ?_
    by_cases c1749 : (122 : Int32) < q2
    ·refine GoW.sg (mkF m 30 (Sh20 q1 q2 q3) [(.int q2)]) (fun t k => XS.icmpYes X0.here hx rfl (pc0 := 20) (pc' := 29) rfl (hb hby d2_20) rfl (tlt c1749).2.2.1 (by decide) (by decide) (XS.iloadN X0.here hx rfl (hb hby d2_29) rfl k)) ?_
     refine GoW.retN X0 hx (t := .char) Bd.returns (by simp) (hb hby d2_30) Bd.notSynchronized ?_ (by decide) (by decide)
     have hq : (F2 q1 q2 q3) = (nar .char q2) := by unfold F2; rw [if_neg c1746, if_pos c1747, if_neg c1748, if_pos c1749]; try rfl
     exact ⟨by rw [hq] <;> rfl, N0, e0⟩
    ·refine GoW.sg (mkF m 28 (Sh20 q1 q2 q3) [(.int (q2 - (32 : Int32)).toUInt32.toUInt16.toUInt32.toInt32)]) (fun t k => XS.icmpNo X0.here hx rfl (hb hby d2_20) rfl (flt c1749).2.2.1 (XS.iloadN X0.here hx rfl (hb hby d2_23) rfl (XS.bipush X0.here hx rfl (hb hby d2_24) (XS.isub X0.here hx rfl (hb hby d2_26) rfl (XS.i2c X0.here hx rfl (hb hby d2_27) rfl k))))) ?_
     refine GoW.retN X0 hx (t := .char) Bd.returns (by simp) (hb hby d2_28) Bd.notSynchronized ?_ (by decide) (by decide)
     have hq : (F2 q1 q2 q3) = (nar .char (q2 - (32 : Int32)).toUInt32.toUInt16.toUInt32.toInt32) := by unfold F2; rw [if_neg c1746, if_pos c1747, if_neg c1748, if_neg c1749]; try rfl
     exact ⟨by rw [hq] <;> rfl, N0, e0⟩
  ·refine GoW.sg (mkF m 33 (Sh20 q1 q2 q3) [(.int 2), (.int q1)]) (fun t k => XS.icmpYes X0.here hx rfl (pc0 := 8) (pc' := 31) rfl (hb hby d2_8) rfl (feq c1747).2 (by decide) (by decide) (XS.iloadN X0.here hx rfl (hb hby d2_31) rfl (XS.iconst X0.here hx rfl (hb hby d2_32) k))) ?_
   by_cases c1750 : q1 = (2 : Int32)
   ·refine GoW.sg (mkF m 37 (Sh20 q1 q2 q3) [(.int q3)]) (fun t k => XS.icmpNo X0.here hx rfl (hb hby d2_33) rfl (teq c1750).2 (XS.iloadN X0.here hx rfl (hb hby d2_36) rfl k)) ?_
    refine GoW.retN X0 hx (t := .char) Bd.returns (by simp) (hb hby d2_37) Bd.notSynchronized ?_ (by decide) (by decide)
    have hq : (F2 q1 q2 q3) = (nar .char q3) := by unfold F2; rw [if_neg c1746, if_neg c1747, if_pos c1750]; try rfl
    exact ⟨by rw [hq] <;> rfl, N0, e0⟩
   ·refine GoW.sg (mkF m 43 (Sh20 q1 q2 q3) [(.int (q2 - (32 : Int32)).toUInt32.toUInt16.toUInt32.toInt32)]) (fun t k => XS.icmpYes X0.here hx rfl (pc0 := 33) (pc' := 38) rfl (hb hby d2_33) rfl (feq c1750).2 (by decide) (by decide) (XS.iloadN X0.here hx rfl (hb hby d2_38) rfl (XS.bipush X0.here hx rfl (hb hby d2_39) (XS.isub X0.here hx rfl (hb hby d2_41) rfl (XS.i2c X0.here hx rfl (hb hby d2_42) rfl k))))) ?_
    refine GoW.retN X0 hx (t := .char) Bd.returns (by simp) (hb hby d2_43) Bd.notSynchronized ?_ (by decide) (by decide)
    have hq : (F2 q1 q2 q3) = (nar .char (q2 - (32 : Int32)).toUInt32.toUInt16.toUInt32.toInt32) := by unfold F2; rw [if_neg c1746, if_neg c1747, if_neg c1750]; try rfl
    exact ⟨by rw [hq] <;> rfl, N0, e0⟩
def F18 (q1 : Int32) (q2 : Int32) : Int32 := (if q1 = q2 then (1 : Int32) else (if q2 < (97 : Int32) then (0 : Int32) else (if (122 : Int32) < q2 then (0 : Int32) else (if q1 = (q2 - (32 : Int32)).toUInt32.toUInt16.toUInt32.toInt32 then (1 : Int32) else (0 : Int32)))))
theorem rm18 (l : Launch) (Z : State) (a0 : Array Value) (hw : HW a0 Z) (q1 : Int32) (q2 : Int32) (h0 : Heap) (n0 : Nat) :
  MM l Z Y18 method_5_code 2 (some .boolean) 0 0 0 0 #[(.int q1), (.int q2)] h0 (PureQ (.int (F18 q1 q2)) h0 n0) := by
 refine own_start (fun m => (mkF m 0 #[.val (.int q1), .val (.int q2)] [])) (plainFor_of_name pn_com_example_throttle_throttle_SipSyntaxStartsWithIgnoringAsciiCasePinLaw) (by simp [entryFrame, mkF, argsToLocals, Value.category]) n0 ?_
 intro p e s m below meth c s₁ Bd hx hby hml hZ hown hnm X0 e0 N0
 refine GoW.sg (mkF m 2 #[.val (.int q1), .val (.int q2)] [(.int q2), (.int q1)]) (fun t k => XS.iloadN X0.here hx rfl (hb hby d18_0) rfl (XS.iloadN X0.here hx rfl (hb hby d18_1) rfl k)) ?_
 by_cases c1751 : q1 = q2
 ·refine GoW.sg (mkF m 6 #[.val (.int q1), .val (.int q2)] [(.int 1)]) (fun t k => XS.icmpNo X0.here hx rfl (hb hby d18_2) rfl (teq c1751).2 (XS.iconst X0.here hx rfl (hb hby d18_5) k)) ?_
  refine GoW.retN X0 hx (t := .boolean) Bd.returns (by simp) (hb hby d18_6) Bd.notSynchronized ?_ (by decide) (by decide)
  have hq : (F18 q1 q2) = (1 : Int32) := by unfold F18; rw [if_pos c1751]; try rfl
  exact ⟨by rw [hq] <;> rfl, N0, e0⟩
 ·refine GoW.sg (mkF m 10 #[.val (.int q1), .val (.int q2)] [(.int 97), (.int q2)]) (fun t k => XS.icmpYes X0.here hx rfl (pc0 := 2) (pc' := 7) rfl (hb hby d18_2) rfl (feq c1751).2 (by decide) (by decide) (XS.iloadN X0.here hx rfl (hb hby d18_7) rfl (XS.bipush X0.here hx rfl (hb hby d18_8) k))) ?_
  by_cases c1752 : q2 < (97 : Int32)
  ·refine GoW.sg (mkF m 33 #[.val (.int q1), .val (.int q2)] [(.int 0)]) (fun t k => XS.icmpYes X0.here hx rfl (pc0 := 10) (pc' := 32) rfl (hb hby d18_10) rfl (tlt c1752).1 (by decide) (by decide) (XS.iconst X0.here hx rfl (hb hby d18_32) k)) ?_
   refine GoW.retN X0 hx (t := .boolean) Bd.returns (by simp) (hb hby d18_33) Bd.notSynchronized ?_ (by decide) (by decide)
   have hq : (F18 q1 q2) = (0 : Int32) := by unfold F18; rw [if_neg c1751, if_pos c1752]; try rfl
   exact ⟨by rw [hq] <;> rfl, N0, e0⟩
  ·refine GoW.sg (mkF m 16 #[.val (.int q1), .val (.int q2)] [(.int 122), (.int q2)]) (fun t k => XS.icmpNo X0.here hx rfl (hb hby d18_10) rfl (flt c1752).1 (XS.iloadN X0.here hx rfl (hb hby d18_13) rfl (XS.bipush X0.here hx rfl (hb hby d18_14) k))) ?_
   by_cases c1753 : (122 : Int32) < q2
   ·refine GoW.sg (mkF m 33 #[.val (.int q1), .val (.int q2)] [(.int 0)]) (fun t k => XS.icmpYes X0.here hx rfl (pc0 := 16) (pc' := 32) rfl (hb hby d18_16) rfl (tlt c1753).2.2.1 (by decide) (by decide) (XS.iconst X0.here hx rfl (hb hby d18_32) k)) ?_
    refine GoW.retN X0 hx (t := .boolean) Bd.returns (by simp) (hb hby d18_33) Bd.notSynchronized ?_ (by decide) (by decide)
    have hq : (F18 q1 q2) = (0 : Int32) := by unfold F18; rw [if_neg c1751, if_neg c1752, if_pos c1753]; try rfl
    exact ⟨by rw [hq] <;> rfl, N0, e0⟩
   ·refine GoW.sg (mkF m 25 #[.val (.int q1), .val (.int q2)] [(.int (q2 - (32 : Int32)).toUInt32.toUInt16.toUInt32.toInt32), (.int q1)]) (fun t k => XS.icmpNo X0.here hx rfl (hb hby d18_16) rfl (flt c1753).2.2.1 (XS.iloadN X0.here hx rfl (hb hby d18_19) rfl (XS.iloadN X0.here hx rfl (hb hby d18_20) rfl (XS.bipush X0.here hx rfl (hb hby d18_21) (XS.isub X0.here hx rfl (hb hby d18_23) rfl (XS.i2c X0.here hx rfl (hb hby d18_24) rfl k)))))) ?_
    by_cases c1754 : q1 = (q2 - (32 : Int32)).toUInt32.toUInt16.toUInt32.toInt32
    ·refine GoW.sg (mkF m 33 #[.val (.int q1), .val (.int q2)] [(.int 1)]) (fun t k => XS.icmpNo X0.here hx rfl (hb hby d18_25) rfl (teq c1754).2 (XS.iconst X0.here hx rfl (hb hby d18_28) (XS.goto X0.here hx rfl (pc0 := 29) (pc' := 33) rfl (hb hby d18_29) (by decide) (by decide) k))) ?_
     refine GoW.retN X0 hx (t := .boolean) Bd.returns (by simp) (hb hby d18_33) Bd.notSynchronized ?_ (by decide) (by decide)
     have hq : (F18 q1 q2) = (1 : Int32) := by unfold F18; rw [if_neg c1751, if_neg c1752, if_neg c1753, if_pos c1754]; try rfl
     exact ⟨by rw [hq] <;> rfl, N0, e0⟩
    ·refine GoW.sg (mkF m 33 #[.val (.int q1), .val (.int q2)] [(.int 0)]) (fun t k => XS.icmpYes X0.here hx rfl (pc0 := 25) (pc' := 32) rfl (hb hby d18_25) rfl (feq c1754).2 (by decide) (by decide) (XS.iconst X0.here hx rfl (hb hby d18_32) k)) ?_
     refine GoW.retN X0 hx (t := .boolean) Bd.returns (by simp) (hb hby d18_33) Bd.notSynchronized ?_ (by decide) (by decide)
     have hq : (F18 q1 q2) = (0 : Int32) := by unfold F18; rw [if_neg c1751, if_neg c1752, if_neg c1753, if_neg c1754]; try rfl
     exact ⟨by rw [hq] <;> rfl, N0, e0⟩
theorem own_lpr (x : Int32) : ¬ (F1 x < (0 : Int32)) ∧ ¬ ((65535 : Int32) < F1 x) := by
  unfold F1
  split
  · exact own_crng _
  · split
    · exact own_crng _
    · exact own_crng _
theorem own_lpu (y : Int32) : F1 y.toUInt32.toUInt16.toUInt32.toInt32 < (65 : Int32) ∨ (90 : Int32) < F1 y.toUInt32.toUInt16.toUInt32.toInt32 := by
  have r := own_crng y
  change ¬ y.toUInt32.toUInt16.toUInt32.toInt32 < (0 : Int32) ∧ ¬ (65535 : Int32) < y.toUInt32.toUInt16.toUInt32.toInt32 at r
  generalize y.toUInt32.toUInt16.toUInt32.toInt32 = x at *
  unfold F1
  by_cases h1 : x < (65 : Int32)
  · rw [if_pos h1, own_nc x r.1 r.2]; exact Or.inl h1
  · rw [if_neg h1]
    by_cases h2 : (90 : Int32) < x
    · rw [if_pos h2, own_nc x r.1 r.2]; exact Or.inr h2
    · rw [if_neg h2]
      right
      rw [Int32.lt_iff_toInt_lt] at h1 h2 ⊢
      have a := c_i2c (x + 32)
      have b := c_i2c (x + 32).toUInt32.toUInt16.toUInt32.toInt32
      have d := c_iadd x 32
      have rr := rng32 (x + 32)
      have e1 : (65 : Int32).toInt = 65 := by decide
      have e2 : (90 : Int32).toInt = 90 := by decide
      have e3 : (32 : Int32).toInt = 32 := by decide
      show (90 : Int32).toInt < ((x + 32).toUInt32.toUInt16.toUInt32.toInt32.toUInt32.toUInt16.toUInt32.toInt32).toInt
      omega
theorem own_tcr (s q r : Int32) : ¬ (F2 s q r < (0 : Int32)) ∧ ¬ ((65535 : Int32) < F2 s q r) := by
  unfold F2
  split
  · exact own_crng _
  · split
    · split
      · exact own_crng _
      · split
        · exact own_crng _
        · exact own_crng _
    · split
      · exact own_crng _
      · exact own_crng _
theorem own_m (t p : Int32) (t0 : ¬ (t < (0 : Int32))) (t1 : ¬ ((65535 : Int32) < t)) (p0 : ¬ (p < (0 : Int32))) (p1 : ¬ ((65535 : Int32) < p)) (pu : p < (65 : Int32) ∨ (90 : Int32) < p) : (F18 t p = (0 : Int32)) = ¬ (LOW t = p) := by
  have hF : (F18 t p = (0 : Int32)) ↔ ¬ (t = p ∨ (¬ p < (97 : Int32) ∧ ¬ (122 : Int32) < p ∧ t = (p - (32 : Int32)).toUInt32.toUInt16.toUInt32.toInt32)) := by
    unfold F18
    by_cases a1 : t = p
    · rw [if_pos a1]; exact ⟨fun h => absurd h (by decide), fun h => absurd (Or.inl a1) h⟩
    · rw [if_neg a1]
      by_cases a2 : p < (97 : Int32)
      · rw [if_pos a2]; exact ⟨fun _ h => h.elim a1 (fun h => h.1 a2), fun _ => rfl⟩
      · rw [if_neg a2]
        by_cases a3 : (122 : Int32) < p
        · rw [if_pos a3]; exact ⟨fun _ h => h.elim a1 (fun h => h.2.1 a3), fun _ => rfl⟩
        · rw [if_neg a3]
          by_cases a4 : t = (p - (32 : Int32)).toUInt32.toUInt16.toUInt32.toInt32
          · rw [if_pos a4]; exact ⟨fun h => absurd h (by decide), fun h => absurd (Or.inr ⟨a2, a3, a4⟩) h⟩
          · rw [if_neg a4]; exact ⟨fun _ h => h.elim a1 (fun h => a4 h.2.2), fun _ => rfl⟩
  have hL : (LOW t = p) ↔ ((t < (65 : Int32) ∨ (90 : Int32) < t) ∧ t = p) ∨ (¬ t < (65 : Int32) ∧ ¬ (90 : Int32) < t ∧ (t + (32 : Int32)).toUInt32.toUInt16.toUInt32.toInt32 = p) := by
    unfold LOW
    by_cases b1 : t < (65 : Int32)
    · rw [if_pos b1]; exact ⟨fun h => Or.inl ⟨Or.inl b1, h⟩, fun h => h.elim (fun h => h.2) (fun h => absurd b1 h.1)⟩
    · rw [if_neg b1]
      by_cases b2 : (90 : Int32) < t
      · rw [if_pos b2]; exact ⟨fun h => Or.inl ⟨Or.inr b2, h⟩, fun h => h.elim (fun h => h.2) (fun h => absurd b2 h.2.1)⟩
      · rw [if_neg b2]; exact ⟨fun h => Or.inr ⟨b1, b2, h⟩, fun h => h.elim (fun h => (h.1.elim b1 b2).elim) (fun h => h.2.2)⟩
  apply propext
  rw [hF, hL]
  clear hF hL
  refine not_congr ?_
  have a := c_i2c (t + 32)
  have b := c_i2c (p - 32)
  have d := c_iadd t 32
  have d2 := c_isub p 32
  have r1 := rng32 (t + 32)
  have r2 := rng32 (p - 32)
  have e1 : (65 : Int32).toInt = 65 := by decide
  have e2 : (90 : Int32).toInt = 90 := by decide
  have e3 : (32 : Int32).toInt = 32 := by decide
  have e4 : (97 : Int32).toInt = 97 := by decide
  have e5 : (122 : Int32).toInt = 122 := by decide
  have e6 : (65535 : Int32).toInt = 65535 := by decide
  have e7 : (0 : Int32).toInt = 0 := by decide
  simp only [Int32.lt_iff_toInt_lt, ← Int32.toInt_inj, e1, e2, e3, e4, e5, e6, e7] at *
  omega

theorem ef0_rm0 (m : MethodId) (q1 : Int64) (q2 : Int64) (q3 : Int32) : entryFrame m #[(.long q1), (.long q2), (.int q3)] maxLocals = (mkF m 0 #[.val (.long q1), .second, .val (.long q2), .second, .val (.int q3), .unset, .unset, .unset, .unset, .unset, .unset, .unset, .unset, .unset, .unset, .unset] []) := by first | (simp [entryFrame, mkF, argsToLocals, Value.category, maxLocals]; done) | rfl
theorem rm0 (l : Launch) (Z : State) (a0 : Array Value) (hw : ∀ d ∈ tables_1, d.before a0 Z = true) (ws : List Jvm.Cond) (q1 : Int64) (q2 : Int64) (q3 : Int32) (cs : Int32) (vf : Value) (h0 : Heap) (n0 : Nat) (Z0 : n0 ≤ h0.size) (PC : Sta Z h0 "java/lang/String" "COMPACT_STRINGS" "Z" (.int cs)) (PA : Sta Z h0 "java/lang/StringUTF16" "$assertionsDisabled" "Z" (.int (1 : Int32))) (PH : Sta Z h0 "java/lang/StringUTF16" "HI_BYTE_SHIFT" "I" (.int (0 : Int32))) (PL : Sta Z h0 "java/lang/StringUTF16" "LO_BYTE_SHIFT" "I" (.int (8 : Int32))) (PF : Sta Z h0 "jdk/internal/util/Preconditions" "SIOOBE_FORMATTER" "Ljava/util/function/BiFunction;" vf) (hvf : vf.isRef = true) (ncs : ¬ (cs = (0 : Int32))) (O0 : Old Z n0 h0) (hc_7 : Jvm.Lit.constHeld Z "java/lang/String" 7) (hcw : Jvm.Lit.compactW.before a0 Z = true) :
    MetFree l x (head1 (Jvm.Cond.code x code maxLocals ret :: ws) room_1) (fun a U => a = #[(.long q1), (.long q2), (.int q3)] ∧ U = Z ∧ U.heap = h0) (fun _ _ _ _ _ => True) (fun _ U o U' => ∃ v L, o = .returned v ∧ (ValQ (.int (1 : Int32)) n0) v U'.heap L ∧ ReturnedEndW U o U' L room_1.cells room_1.slots) := by
 refine MetFree.of_bodySF (plainFor_of_name pn_com_example_throttle_throttle_SipSyntaxStartsWithIgnoringAsciiCasePinLaw) hisR ?_
 intro p e s m args below meth c s₁ Bd hml0 hP hK
 obtain ⟨rfl, hU, hh⟩ := hP
 have hZ : Z.Warmed39 s.vm := hU ▸ State.Warmed39.refl _
 have I0 : IB Z s.vm [] := hU ▸ IB.start
 have hS0 : s.Since s.vm 0 := (State.WarmedH.refl s).since 0
 have hx := Bd.exec
 have hby := Bd.bytes
 have hml : c.maxLocals = 16 := hml0
 have hown : s.vm.findClass "com/example/throttle/throttle/SipSyntaxStartsWithIgnoringAsciiCasePinLaw" = some m.cls := findClass_of_methodNamed Bd.named
 have hnm := (name_of_methodNamed Bd.named Bd.method).1
 have X0 : Stand p l e room_1 (s.setVm s.vm) m #[(.long q1), (.long q2), (.int q3)] below meth c s₁ [] 0 0 := Stand.of_body Bd
 have e0 : s₁.heap = h0 := by rw [← hh, Bd.state]; rfl
 have N0 := Fr.nil n0
 refine GoV.mk ?_
 refine GoV.st (fun t k => castTop (ef0_rm0 m q1 q2 q3) k) ?_
 show GoV p e below s (ValQ (.int (1 : Int32)) n0) room_1.cells room_1.slots (s₁.setTop (mkF m 0 (Sh21 q1 q2 q3) []))
 refine GoV.sg (mkF m 11 (Sh22 q1 q2 q3 (q3 &&& (3 : Int32))) [(.int 3), (.int (q3.toUInt32 >>> ((2 : Int32) &&& 31).toUInt32).toInt32)]) (fun t k => XS.iload X0.here hx rfl (hb hby at_0) rfl (XS.iconst X0.here hx rfl (hb hby at_2) (XS.iand X0.here hx rfl (hb hby at_3) rfl (XS.istore X0.here hx rfl (hb hby at_4) rfl (l' := (Sh22 q1 q2 q3 (q3 &&& (3 : Int32)))) rfl (XS.iload X0.here hx rfl (hb hby at_6) rfl (XS.iconst X0.here hx rfl (hb hby at_8) (XS.iushr X0.here hx rfl (hb hby at_9) rfl (XS.iconst X0.here hx rfl (hb hby at_10) k)))))))) ?_
 refine GoV.sg (mkF m 15 (Sh23 q1 q2 q3 (q3 &&& (3 : Int32)) ((q3.toUInt32 >>> ((2 : Int32) &&& 31).toUInt32).toInt32 &&& (3 : Int32))) [(.long q1)]) (fun t k => XS.iand X0.here hx rfl (hb hby at_11) rfl (XS.istore X0.here hx rfl (hb hby at_12) rfl (l' := (Sh23 q1 q2 q3 (q3 &&& (3 : Int32)) ((q3.toUInt32 >>> ((2 : Int32) &&& 31).toUInt32).toInt32 &&& (3 : Int32)))) rfl (XS.lloadN X0.here hx rfl (hb hby at_14) rfl k))) ?_
 refine GoV.sg (mkF m 18 (Sh23 q1 q2 q3 (q3 &&& (3 : Int32)) ((q3.toUInt32 >>> ((2 : Int32) &&& 31).toUInt32).toInt32 &&& (3 : Int32))) [(.long 65535), (.long q1)]) (fun t k => X0.ldc2Long hx hown (mvT hZ (ww hw 0 rfl)) (g := (mkF m 15 (Sh23 q1 q2 q3 (q3 &&& (3 : Int32)) ((q3.toUInt32 >>> ((2 : Int32) &&& 31).toUInt32).toInt32 &&& (3 : Int32))) [(.long q1)])) rfl (hb hby at_15) t k) ?_
 refine GoV.sg (mkF m 21 (Sh23 q1 q2 q3 (q3 &&& (3 : Int32)) ((q3.toUInt32 >>> ((2 : Int32) &&& 31).toUInt32).toInt32 &&& (3 : Int32))) [(.int (q1 &&& (65535 : Int64)).toInt32.toUInt32.toUInt16.toUInt32.toInt32)]) (fun t k => XS.land X0.here hx rfl (hb hby at_18) rfl (XS.l2i X0.here hx rfl (hb hby at_19) rfl (XS.i2c X0.here hx rfl (hb hby at_20) rfl k))) ?_
 obtain ⟨_, T1755, L1755, X1755, hQ1755, st1755⟩ := own_callS X0 hx hZ hown (y := Y1) (ww hw 1 rfl) (ww hw 2 rfl) (ww hw 3 rfl) (ww hw 4 rfl) (by decide) 0 (rm1 l Z a0 hw (q1 &&& (65535 : Int64)).toInt32.toUInt32.toUInt16.toUInt32.toInt32 h0 n0) (by decide) (by decide) e0 (by decide) (by decide) (g := (mkF m 21 (Sh23 q1 q2 q3 (q3 &&& (3 : Int32)) ((q3.toUInt32 >>> ((2 : Int32) &&& 31).toUInt32).toInt32 &&& (3 : Int32))) [(.int (q1 &&& (65535 : Int64)).toInt32.toUInt32.toUInt16.toUInt32.toInt32)])) rfl (by rw [hml]; rfl) (argsL := [(.int (q1 &&& (65535 : Int64)).toInt32.toUInt32.toUInt16.toUInt32.toInt32)]) (rest := []) (lenOf pd_28C29C rfl) rfl (by show 2 * 0 + _ ≤ _; exact Nat.le_of_eq rfl) (hb hby at_21)
 obtain ⟨rfl, N1755q, e1755⟩ := hQ1755
 have N1755 := Fr.app N0 N1755q
 refine GoV.sg (mkF m 24 (Sh23 q1 q2 q3 (q3 &&& (3 : Int32)) ((q3.toUInt32 >>> ((2 : Int32) &&& 31).toUInt32).toInt32 &&& (3 : Int32))) [(.int (F1 (q1 &&& (65535 : Int64)).toInt32.toUInt32.toUInt16.toUInt32.toInt32))]) (fun t k => st1755 t k) ?_
 refine GoV.sg (mkF m 26 (Sh24 q1 q2 q3 (q3 &&& (3 : Int32)) ((q3.toUInt32 >>> ((2 : Int32) &&& 31).toUInt32).toInt32 &&& (3 : Int32)) (F1 (q1 &&& (65535 : Int64)).toInt32.toUInt32.toUInt16.toUInt32.toInt32)) []) (fun t k => XS.istore X1755.here hx rfl (hb hby at_24) rfl (l' := (Sh24 q1 q2 q3 (q3 &&& (3 : Int32)) ((q3.toUInt32 >>> ((2 : Int32) &&& 31).toUInt32).toInt32 &&& (3 : Int32)) (F1 (q1 &&& (65535 : Int64)).toInt32.toUInt32.toUInt16.toUInt32.toInt32))) rfl k) ?_
 obtain ⟨p0, hp0⟩ : ∃ z : Int32, z = (F1 (q1 &&& (65535 : Int64)).toInt32.toUInt32.toUInt16.toUInt32.toInt32) := ⟨_, rfl⟩
 rw [← hp0]
 have lo_p0 : ¬ (p0 < (0 : Int32)) := by rw [hp0]; exact (own_lpr _).1
 have hi_p0 : ¬ ((65535 : Int32) < p0) := by rw [hp0]; exact (own_lpr _).2
 have up_p0 : p0 < (65 : Int32) ∨ (90 : Int32) < p0 := by rw [hp0]; exact own_lpu _
 show GoV p e below s (ValQ (.int (1 : Int32)) n0) room_1.cells room_1.slots (T1755.setTop (mkF m 26 (Sh24 q1 q2 q3 (q3 &&& (3 : Int32)) ((q3.toUInt32 >>> ((2 : Int32) &&& 31).toUInt32).toInt32 &&& (3 : Int32)) p0) []))
 refine GoV.sg (mkF m 30 (Sh24 q1 q2 q3 (q3 &&& (3 : Int32)) ((q3.toUInt32 >>> ((2 : Int32) &&& 31).toUInt32).toInt32 &&& (3 : Int32)) p0) [(.long (q1.toUInt64 >>> ((16 : Int32) &&& 0x3f).toInt64.toUInt64).toInt64)]) (fun t k => XS.lloadN X1755.here hx rfl (hb hby at_26) rfl (XS.bipush X1755.here hx rfl (hb hby at_27) (XS.lushr X1755.here hx rfl (hb hby at_29) rfl k))) ?_
 refine GoV.sg (mkF m 33 (Sh24 q1 q2 q3 (q3 &&& (3 : Int32)) ((q3.toUInt32 >>> ((2 : Int32) &&& 31).toUInt32).toInt32 &&& (3 : Int32)) p0) [(.long 65535), (.long (q1.toUInt64 >>> ((16 : Int32) &&& 0x3f).toInt64.toUInt64).toInt64)]) (fun t k => X1755.ldc2Long hx hown (mvT hZ (ww hw 0 rfl)) (g := (mkF m 30 (Sh24 q1 q2 q3 (q3 &&& (3 : Int32)) ((q3.toUInt32 >>> ((2 : Int32) &&& 31).toUInt32).toInt32 &&& (3 : Int32)) p0) [(.long (q1.toUInt64 >>> ((16 : Int32) &&& 0x3f).toInt64.toUInt64).toInt64)])) rfl (hb hby at_30) t k) ?_
 refine GoV.sg (mkF m 36 (Sh24 q1 q2 q3 (q3 &&& (3 : Int32)) ((q3.toUInt32 >>> ((2 : Int32) &&& 31).toUInt32).toInt32 &&& (3 : Int32)) p0) [(.int ((q1.toUInt64 >>> ((16 : Int32) &&& 0x3f).toInt64.toUInt64).toInt64 &&& (65535 : Int64)).toInt32.toUInt32.toUInt16.toUInt32.toInt32)]) (fun t k => XS.land X1755.here hx rfl (hb hby at_33) rfl (XS.l2i X1755.here hx rfl (hb hby at_34) rfl (XS.i2c X1755.here hx rfl (hb hby at_35) rfl k))) ?_
 obtain ⟨_, T1756, L1756, X1756, hQ1756, st1756⟩ := own_callS X1755 hx hZ hown (y := Y1) (ww hw 1 rfl) (ww hw 2 rfl) (ww hw 3 rfl) (ww hw 4 rfl) (by decide) 0 (rm1 l Z a0 hw ((q1.toUInt64 >>> ((16 : Int32) &&& 0x3f).toInt64.toUInt64).toInt64 &&& (65535 : Int64)).toInt32.toUInt32.toUInt16.toUInt32.toInt32 h0 n0) (by decide) (by decide) e1755 (by decide) (by decide) (g := (mkF m 36 (Sh24 q1 q2 q3 (q3 &&& (3 : Int32)) ((q3.toUInt32 >>> ((2 : Int32) &&& 31).toUInt32).toInt32 &&& (3 : Int32)) p0) [(.int ((q1.toUInt64 >>> ((16 : Int32) &&& 0x3f).toInt64.toUInt64).toInt64 &&& (65535 : Int64)).toInt32.toUInt32.toUInt16.toUInt32.toInt32)])) rfl (by rw [hml]; rfl) (argsL := [(.int ((q1.toUInt64 >>> ((16 : Int32) &&& 0x3f).toInt64.toUInt64).toInt64 &&& (65535 : Int64)).toInt32.toUInt32.toUInt16.toUInt32.toInt32)]) (rest := []) (lenOf pd_28C29C rfl) rfl (by show 2 * 0 + _ ≤ _; exact Nat.le_of_eq rfl) (hb hby at_36)
 obtain ⟨rfl, N1756q, e1756⟩ := hQ1756
 have N1756 := Fr.app N1755 N1756q
 refine GoV.sg (mkF m 39 (Sh24 q1 q2 q3 (q3 &&& (3 : Int32)) ((q3.toUInt32 >>> ((2 : Int32) &&& 31).toUInt32).toInt32 &&& (3 : Int32)) p0) [(.int (F1 ((q1.toUInt64 >>> ((16 : Int32) &&& 0x3f).toInt64.toUInt64).toInt64 &&& (65535 : Int64)).toInt32.toUInt32.toUInt16.toUInt32.toInt32))]) (fun t k => st1756 t k) ?_
 refine GoV.sg (mkF m 41 (Sh25 q1 q2 q3 (q3 &&& (3 : Int32)) ((q3.toUInt32 >>> ((2 : Int32) &&& 31).toUInt32).toInt32 &&& (3 : Int32)) p0 (F1 ((q1.toUInt64 >>> ((16 : Int32) &&& 0x3f).toInt64.toUInt64).toInt64 &&& (65535 : Int64)).toInt32.toUInt32.toUInt16.toUInt32.toInt32)) []) (fun t k => XS.istore X1756.here hx rfl (hb hby at_39) rfl (l' := (Sh25 q1 q2 q3 (q3 &&& (3 : Int32)) ((q3.toUInt32 >>> ((2 : Int32) &&& 31).toUInt32).toInt32 &&& (3 : Int32)) p0 (F1 ((q1.toUInt64 >>> ((16 : Int32) &&& 0x3f).toInt64.toUInt64).toInt64 &&& (65535 : Int64)).toInt32.toUInt32.toUInt16.toUInt32.toInt32))) rfl k) ?_
 obtain ⟨p1, hp1⟩ : ∃ z : Int32, z = (F1 ((q1.toUInt64 >>> ((16 : Int32) &&& 0x3f).toInt64.toUInt64).toInt64 &&& (65535 : Int64)).toInt32.toUInt32.toUInt16.toUInt32.toInt32) := ⟨_, rfl⟩
 rw [← hp1]
 have lo_p1 : ¬ (p1 < (0 : Int32)) := by rw [hp1]; exact (own_lpr _).1
 have hi_p1 : ¬ ((65535 : Int32) < p1) := by rw [hp1]; exact (own_lpr _).2
 have up_p1 : p1 < (65 : Int32) ∨ (90 : Int32) < p1 := by rw [hp1]; exact own_lpu _
 show GoV p e below s (ValQ (.int (1 : Int32)) n0) room_1.cells room_1.slots (T1756.setTop (mkF m 41 (Sh25 q1 q2 q3 (q3 &&& (3 : Int32)) ((q3.toUInt32 >>> ((2 : Int32) &&& 31).toUInt32).toInt32 &&& (3 : Int32)) p0 p1) []))
 refine GoV.sg (mkF m 45 (Sh25 q1 q2 q3 (q3 &&& (3 : Int32)) ((q3.toUInt32 >>> ((2 : Int32) &&& 31).toUInt32).toInt32 &&& (3 : Int32)) p0 p1) [(.long (q1.toUInt64 >>> ((32 : Int32) &&& 0x3f).toInt64.toUInt64).toInt64)]) (fun t k => XS.lloadN X1756.here hx rfl (hb hby at_41) rfl (XS.bipush X1756.here hx rfl (hb hby at_42) (XS.lushr X1756.here hx rfl (hb hby at_44) rfl k))) ?_
 refine GoV.sg (mkF m 48 (Sh25 q1 q2 q3 (q3 &&& (3 : Int32)) ((q3.toUInt32 >>> ((2 : Int32) &&& 31).toUInt32).toInt32 &&& (3 : Int32)) p0 p1) [(.long 65535), (.long (q1.toUInt64 >>> ((32 : Int32) &&& 0x3f).toInt64.toUInt64).toInt64)]) (fun t k => X1756.ldc2Long hx hown (mvT hZ (ww hw 0 rfl)) (g := (mkF m 45 (Sh25 q1 q2 q3 (q3 &&& (3 : Int32)) ((q3.toUInt32 >>> ((2 : Int32) &&& 31).toUInt32).toInt32 &&& (3 : Int32)) p0 p1) [(.long (q1.toUInt64 >>> ((32 : Int32) &&& 0x3f).toInt64.toUInt64).toInt64)])) rfl (hb hby at_45) t k) ?_
 refine GoV.sg (mkF m 51 (Sh25 q1 q2 q3 (q3 &&& (3 : Int32)) ((q3.toUInt32 >>> ((2 : Int32) &&& 31).toUInt32).toInt32 &&& (3 : Int32)) p0 p1) [(.int ((q1.toUInt64 >>> ((32 : Int32) &&& 0x3f).toInt64.toUInt64).toInt64 &&& (65535 : Int64)).toInt32.toUInt32.toUInt16.toUInt32.toInt32)]) (fun t k => XS.land X1756.here hx rfl (hb hby at_48) rfl (XS.l2i X1756.here hx rfl (hb hby at_49) rfl (XS.i2c X1756.here hx rfl (hb hby at_50) rfl k))) ?_
 obtain ⟨_, T1757, L1757, X1757, hQ1757, st1757⟩ := own_callS X1756 hx hZ hown (y := Y1) (ww hw 1 rfl) (ww hw 2 rfl) (ww hw 3 rfl) (ww hw 4 rfl) (by decide) 0 (rm1 l Z a0 hw ((q1.toUInt64 >>> ((32 : Int32) &&& 0x3f).toInt64.toUInt64).toInt64 &&& (65535 : Int64)).toInt32.toUInt32.toUInt16.toUInt32.toInt32 h0 n0) (by decide) (by decide) e1756 (by decide) (by decide) (g := (mkF m 51 (Sh25 q1 q2 q3 (q3 &&& (3 : Int32)) ((q3.toUInt32 >>> ((2 : Int32) &&& 31).toUInt32).toInt32 &&& (3 : Int32)) p0 p1) [(.int ((q1.toUInt64 >>> ((32 : Int32) &&& 0x3f).toInt64.toUInt64).toInt64 &&& (65535 : Int64)).toInt32.toUInt32.toUInt16.toUInt32.toInt32)])) rfl (by rw [hml]; rfl) (argsL := [(.int ((q1.toUInt64 >>> ((32 : Int32) &&& 0x3f).toInt64.toUInt64).toInt64 &&& (65535 : Int64)).toInt32.toUInt32.toUInt16.toUInt32.toInt32)]) (rest := []) (lenOf pd_28C29C rfl) rfl (by show 2 * 0 + _ ≤ _; exact Nat.le_of_eq rfl) (hb hby at_51)
 obtain ⟨rfl, N1757q, e1757⟩ := hQ1757
 have N1757 := Fr.app N1756 N1757q
 refine GoV.sg (mkF m 54 (Sh25 q1 q2 q3 (q3 &&& (3 : Int32)) ((q3.toUInt32 >>> ((2 : Int32) &&& 31).toUInt32).toInt32 &&& (3 : Int32)) p0 p1) [(.int (F1 ((q1.toUInt64 >>> ((32 : Int32) &&& 0x3f).toInt64.toUInt64).toInt64 &&& (65535 : Int64)).toInt32.toUInt32.toUInt16.toUInt32.toInt32))]) (fun t k => st1757 t k) ?_
 refine GoV.sg (mkF m 56 (Sh26 q1 q2 q3 (q3 &&& (3 : Int32)) ((q3.toUInt32 >>> ((2 : Int32) &&& 31).toUInt32).toInt32 &&& (3 : Int32)) p0 p1 (F1 ((q1.toUInt64 >>> ((32 : Int32) &&& 0x3f).toInt64.toUInt64).toInt64 &&& (65535 : Int64)).toInt32.toUInt32.toUInt16.toUInt32.toInt32)) []) (fun t k => XS.istore X1757.here hx rfl (hb hby at_54) rfl (l' := (Sh26 q1 q2 q3 (q3 &&& (3 : Int32)) ((q3.toUInt32 >>> ((2 : Int32) &&& 31).toUInt32).toInt32 &&& (3 : Int32)) p0 p1 (F1 ((q1.toUInt64 >>> ((32 : Int32) &&& 0x3f).toInt64.toUInt64).toInt64 &&& (65535 : Int64)).toInt32.toUInt32.toUInt16.toUInt32.toInt32))) rfl k) ?_
 obtain ⟨p2, hp2⟩ : ∃ z : Int32, z = (F1 ((q1.toUInt64 >>> ((32 : Int32) &&& 0x3f).toInt64.toUInt64).toInt64 &&& (65535 : Int64)).toInt32.toUInt32.toUInt16.toUInt32.toInt32) := ⟨_, rfl⟩
 rw [← hp2]
 have lo_p2 : ¬ (p2 < (0 : Int32)) := by rw [hp2]; exact (own_lpr _).1
 have hi_p2 : ¬ ((65535 : Int32) < p2) := by rw [hp2]; exact (own_lpr _).2
 have up_p2 : p2 < (65 : Int32) ∨ (90 : Int32) < p2 := by rw [hp2]; exact own_lpu _
 show GoV p e below s (ValQ (.int (1 : Int32)) n0) room_1.cells room_1.slots (T1757.setTop (mkF m 56 (Sh26 q1 q2 q3 (q3 &&& (3 : Int32)) ((q3.toUInt32 >>> ((2 : Int32) &&& 31).toUInt32).toInt32 &&& (3 : Int32)) p0 p1 p2) []))
 refine GoV.sg (mkF m 65 (Sh26 q1 q2 q3 (q3 &&& (3 : Int32)) ((q3.toUInt32 >>> ((2 : Int32) &&& 31).toUInt32).toInt32 &&& (3 : Int32)) p0 p1 p2) [(.long q2), (.int p0), (.int ((q3.toUInt32 >>> ((4 : Int32) &&& 31).toUInt32).toInt32 &&& (3 : Int32)))]) (fun t k => XS.iload X1757.here hx rfl (hb hby at_56) rfl (XS.iconst X1757.here hx rfl (hb hby at_58) (XS.iushr X1757.here hx rfl (hb hby at_59) rfl (XS.iconst X1757.here hx rfl (hb hby at_60) (XS.iand X1757.here hx rfl (hb hby at_61) rfl (XS.iload X1757.here hx rfl (hb hby at_62) rfl (XS.lloadN X1757.here hx rfl (hb hby at_64) rfl k))))))) ?_
 refine GoV.sg (mkF m 68 (Sh26 q1 q2 q3 (q3 &&& (3 : Int32)) ((q3.toUInt32 >>> ((2 : Int32) &&& 31).toUInt32).toInt32 &&& (3 : Int32)) p0 p1 p2) [(.long 65535), (.long q2), (.int p0), (.int ((q3.toUInt32 >>> ((4 : Int32) &&& 31).toUInt32).toInt32 &&& (3 : Int32)))]) (fun t k => X1757.ldc2Long hx hown (mvT hZ (ww hw 0 rfl)) (g := (mkF m 65 (Sh26 q1 q2 q3 (q3 &&& (3 : Int32)) ((q3.toUInt32 >>> ((2 : Int32) &&& 31).toUInt32).toInt32 &&& (3 : Int32)) p0 p1 p2) [(.long q2), (.int p0), (.int ((q3.toUInt32 >>> ((4 : Int32) &&& 31).toUInt32).toInt32 &&& (3 : Int32)))])) rfl (hb hby at_65) t k) ?_
 refine GoV.sg (mkF m 71 (Sh26 q1 q2 q3 (q3 &&& (3 : Int32)) ((q3.toUInt32 >>> ((2 : Int32) &&& 31).toUInt32).toInt32 &&& (3 : Int32)) p0 p1 p2) [(.int (q2 &&& (65535 : Int64)).toInt32.toUInt32.toUInt16.toUInt32.toInt32), (.int p0), (.int ((q3.toUInt32 >>> ((4 : Int32) &&& 31).toUInt32).toInt32 &&& (3 : Int32)))]) (fun t k => XS.land X1757.here hx rfl (hb hby at_68) rfl (XS.l2i X1757.here hx rfl (hb hby at_69) rfl (XS.i2c X1757.here hx rfl (hb hby at_70) rfl k))) ?_
 obtain ⟨_, T1758, L1758, X1758, hQ1758, st1758⟩ := own_callS X1757 hx hZ hown (y := Y2) (ww hw 5 rfl) (ww hw 6 rfl) (ww hw 3 rfl) (ww hw 7 rfl) (by decide) 0 (rm2 l Z a0 hw ((q3.toUInt32 >>> ((4 : Int32) &&& 31).toUInt32).toInt32 &&& (3 : Int32)) p0 (q2 &&& (65535 : Int64)).toInt32.toUInt32.toUInt16.toUInt32.toInt32 h0 n0) (by decide) (by decide) e1757 (by decide) (by decide) (g := (mkF m 71 (Sh26 q1 q2 q3 (q3 &&& (3 : Int32)) ((q3.toUInt32 >>> ((2 : Int32) &&& 31).toUInt32).toInt32 &&& (3 : Int32)) p0 p1 p2) [(.int (q2 &&& (65535 : Int64)).toInt32.toUInt32.toUInt16.toUInt32.toInt32), (.int p0), (.int ((q3.toUInt32 >>> ((4 : Int32) &&& 31).toUInt32).toInt32 &&& (3 : Int32)))])) rfl (by rw [hml]; rfl) (argsL := [(.int ((q3.toUInt32 >>> ((4 : Int32) &&& 31).toUInt32).toInt32 &&& (3 : Int32))), (.int p0), (.int (q2 &&& (65535 : Int64)).toInt32.toUInt32.toUInt16.toUInt32.toInt32)]) (rest := []) (lenOf pd_28ICC29C rfl) rfl (by show 2 * 0 + _ ≤ _; exact Nat.le_of_eq rfl) (hb hby at_71)
 obtain ⟨rfl, N1758q, e1758⟩ := hQ1758
 have N1758 := Fr.app N1757 N1758q
 refine GoV.sg (mkF m 74 (Sh26 q1 q2 q3 (q3 &&& (3 : Int32)) ((q3.toUInt32 >>> ((2 : Int32) &&& 31).toUInt32).toInt32 &&& (3 : Int32)) p0 p1 p2) [(.int (F2 ((q3.toUInt32 >>> ((4 : Int32) &&& 31).toUInt32).toInt32 &&& (3 : Int32)) p0 (q2 &&& (65535 : Int64)).toInt32.toUInt32.toUInt16.toUInt32.toInt32))]) (fun t k => st1758 t k) ?_
 refine GoV.sg (mkF m 76 (Sh27 q1 q2 q3 (q3 &&& (3 : Int32)) ((q3.toUInt32 >>> ((2 : Int32) &&& 31).toUInt32).toInt32 &&& (3 : Int32)) p0 p1 p2 (F2 ((q3.toUInt32 >>> ((4 : Int32) &&& 31).toUInt32).toInt32 &&& (3 : Int32)) p0 (q2 &&& (65535 : Int64)).toInt32.toUInt32.toUInt16.toUInt32.toInt32)) []) (fun t k => XS.istore X1758.here hx rfl (hb hby at_74) rfl (l' := (Sh27 q1 q2 q3 (q3 &&& (3 : Int32)) ((q3.toUInt32 >>> ((2 : Int32) &&& 31).toUInt32).toInt32 &&& (3 : Int32)) p0 p1 p2 (F2 ((q3.toUInt32 >>> ((4 : Int32) &&& 31).toUInt32).toInt32 &&& (3 : Int32)) p0 (q2 &&& (65535 : Int64)).toInt32.toUInt32.toUInt16.toUInt32.toInt32))) rfl k) ?_
 obtain ⟨t0, ht0⟩ : ∃ z : Int32, z = (F2 ((q3.toUInt32 >>> ((4 : Int32) &&& 31).toUInt32).toInt32 &&& (3 : Int32)) p0 (q2 &&& (65535 : Int64)).toInt32.toUInt32.toUInt16.toUInt32.toInt32) := ⟨_, rfl⟩
 rw [← ht0]
 have lo_t0 : ¬ (t0 < (0 : Int32)) := by rw [ht0]; exact (own_tcr _ _ _).1
 have hi_t0 : ¬ ((65535 : Int32) < t0) := by rw [ht0]; exact (own_tcr _ _ _).2
 show GoV p e below s (ValQ (.int (1 : Int32)) n0) room_1.cells room_1.slots (T1758.setTop (mkF m 76 (Sh27 q1 q2 q3 (q3 &&& (3 : Int32)) ((q3.toUInt32 >>> ((2 : Int32) &&& 31).toUInt32).toInt32 &&& (3 : Int32)) p0 p1 p2 t0) []))
 refine GoV.sg (mkF m 88 (Sh27 q1 q2 q3 (q3 &&& (3 : Int32)) ((q3.toUInt32 >>> ((2 : Int32) &&& 31).toUInt32).toInt32 &&& (3 : Int32)) p0 p1 p2 t0) [(.int 16), (.long q2), (.int p1), (.int ((q3.toUInt32 >>> ((6 : Int32) &&& 31).toUInt32).toInt32 &&& (3 : Int32)))]) (fun t k => XS.iload X1758.here hx rfl (hb hby at_76) rfl (XS.bipush X1758.here hx rfl (hb hby at_78) (XS.iushr X1758.here hx rfl (hb hby at_80) rfl (XS.iconst X1758.here hx rfl (hb hby at_81) (XS.iand X1758.here hx rfl (hb hby at_82) rfl (XS.iload X1758.here hx rfl (hb hby at_83) rfl (XS.lloadN X1758.here hx rfl (hb hby at_85) rfl (XS.bipush X1758.here hx rfl (hb hby at_86) k)))))))) ?_
 refine GoV.sg (mkF m 89 (Sh27 q1 q2 q3 (q3 &&& (3 : Int32)) ((q3.toUInt32 >>> ((2 : Int32) &&& 31).toUInt32).toInt32 &&& (3 : Int32)) p0 p1 p2 t0) [(.long (q2.toUInt64 >>> ((16 : Int32) &&& 0x3f).toInt64.toUInt64).toInt64), (.int p1), (.int ((q3.toUInt32 >>> ((6 : Int32) &&& 31).toUInt32).toInt32 &&& (3 : Int32)))]) (fun t k => XS.lushr X1758.here hx rfl (hb hby at_88) rfl k) ?_
 refine GoV.sg (mkF m 92 (Sh27 q1 q2 q3 (q3 &&& (3 : Int32)) ((q3.toUInt32 >>> ((2 : Int32) &&& 31).toUInt32).toInt32 &&& (3 : Int32)) p0 p1 p2 t0) [(.long 65535), (.long (q2.toUInt64 >>> ((16 : Int32) &&& 0x3f).toInt64.toUInt64).toInt64), (.int p1), (.int ((q3.toUInt32 >>> ((6 : Int32) &&& 31).toUInt32).toInt32 &&& (3 : Int32)))]) (fun t k => X1758.ldc2Long hx hown (mvT hZ (ww hw 0 rfl)) (g := (mkF m 89 (Sh27 q1 q2 q3 (q3 &&& (3 : Int32)) ((q3.toUInt32 >>> ((2 : Int32) &&& 31).toUInt32).toInt32 &&& (3 : Int32)) p0 p1 p2 t0) [(.long (q2.toUInt64 >>> ((16 : Int32) &&& 0x3f).toInt64.toUInt64).toInt64), (.int p1), (.int ((q3.toUInt32 >>> ((6 : Int32) &&& 31).toUInt32).toInt32 &&& (3 : Int32)))])) rfl (hb hby at_89) t k) ?_
 refine GoV.sg (mkF m 95 (Sh27 q1 q2 q3 (q3 &&& (3 : Int32)) ((q3.toUInt32 >>> ((2 : Int32) &&& 31).toUInt32).toInt32 &&& (3 : Int32)) p0 p1 p2 t0) [(.int ((q2.toUInt64 >>> ((16 : Int32) &&& 0x3f).toInt64.toUInt64).toInt64 &&& (65535 : Int64)).toInt32.toUInt32.toUInt16.toUInt32.toInt32), (.int p1), (.int ((q3.toUInt32 >>> ((6 : Int32) &&& 31).toUInt32).toInt32 &&& (3 : Int32)))]) (fun t k => XS.land X1758.here hx rfl (hb hby at_92) rfl (XS.l2i X1758.here hx rfl (hb hby at_93) rfl (XS.i2c X1758.here hx rfl (hb hby at_94) rfl k))) ?_
 obtain ⟨_, T1759, L1759, X1759, hQ1759, st1759⟩ := own_callS X1758 hx hZ hown (y := Y2) (ww hw 5 rfl) (ww hw 6 rfl) (ww hw 3 rfl) (ww hw 7 rfl) (by decide) 0 (rm2 l Z a0 hw ((q3.toUInt32 >>> ((6 : Int32) &&& 31).toUInt32).toInt32 &&& (3 : Int32)) p1 ((q2.toUInt64 >>> ((16 : Int32) &&& 0x3f).toInt64.toUInt64).toInt64 &&& (65535 : Int64)).toInt32.toUInt32.toUInt16.toUInt32.toInt32 h0 n0) (by decide) (by decide) e1758 (by decide) (by decide) (g := (mkF m 95 (Sh27 q1 q2 q3 (q3 &&& (3 : Int32)) ((q3.toUInt32 >>> ((2 : Int32) &&& 31).toUInt32).toInt32 &&& (3 : Int32)) p0 p1 p2 t0) [(.int ((q2.toUInt64 >>> ((16 : Int32) &&& 0x3f).toInt64.toUInt64).toInt64 &&& (65535 : Int64)).toInt32.toUInt32.toUInt16.toUInt32.toInt32), (.int p1), (.int ((q3.toUInt32 >>> ((6 : Int32) &&& 31).toUInt32).toInt32 &&& (3 : Int32)))])) rfl (by rw [hml]; rfl) (argsL := [(.int ((q3.toUInt32 >>> ((6 : Int32) &&& 31).toUInt32).toInt32 &&& (3 : Int32))), (.int p1), (.int ((q2.toUInt64 >>> ((16 : Int32) &&& 0x3f).toInt64.toUInt64).toInt64 &&& (65535 : Int64)).toInt32.toUInt32.toUInt16.toUInt32.toInt32)]) (rest := []) (lenOf pd_28ICC29C rfl) rfl (by show 2 * 0 + _ ≤ _; exact Nat.le_of_eq rfl) (hb hby at_95)
 obtain ⟨rfl, N1759q, e1759⟩ := hQ1759
 have N1759 := Fr.app N1758 N1759q
 refine GoV.sg (mkF m 98 (Sh27 q1 q2 q3 (q3 &&& (3 : Int32)) ((q3.toUInt32 >>> ((2 : Int32) &&& 31).toUInt32).toInt32 &&& (3 : Int32)) p0 p1 p2 t0) [(.int (F2 ((q3.toUInt32 >>> ((6 : Int32) &&& 31).toUInt32).toInt32 &&& (3 : Int32)) p1 ((q2.toUInt64 >>> ((16 : Int32) &&& 0x3f).toInt64.toUInt64).toInt64 &&& (65535 : Int64)).toInt32.toUInt32.toUInt16.toUInt32.toInt32))]) (fun t k => st1759 t k) ?_
 refine GoV.sg (mkF m 100 (Sh28 q1 q2 q3 (q3 &&& (3 : Int32)) ((q3.toUInt32 >>> ((2 : Int32) &&& 31).toUInt32).toInt32 &&& (3 : Int32)) p0 p1 p2 t0 (F2 ((q3.toUInt32 >>> ((6 : Int32) &&& 31).toUInt32).toInt32 &&& (3 : Int32)) p1 ((q2.toUInt64 >>> ((16 : Int32) &&& 0x3f).toInt64.toUInt64).toInt64 &&& (65535 : Int64)).toInt32.toUInt32.toUInt16.toUInt32.toInt32)) []) (fun t k => XS.istore X1759.here hx rfl (hb hby at_98) rfl (l' := (Sh28 q1 q2 q3 (q3 &&& (3 : Int32)) ((q3.toUInt32 >>> ((2 : Int32) &&& 31).toUInt32).toInt32 &&& (3 : Int32)) p0 p1 p2 t0 (F2 ((q3.toUInt32 >>> ((6 : Int32) &&& 31).toUInt32).toInt32 &&& (3 : Int32)) p1 ((q2.toUInt64 >>> ((16 : Int32) &&& 0x3f).toInt64.toUInt64).toInt64 &&& (65535 : Int64)).toInt32.toUInt32.toUInt16.toUInt32.toInt32))) rfl k) ?_
 obtain ⟨t1, ht1⟩ : ∃ z : Int32, z = (F2 ((q3.toUInt32 >>> ((6 : Int32) &&& 31).toUInt32).toInt32 &&& (3 : Int32)) p1 ((q2.toUInt64 >>> ((16 : Int32) &&& 0x3f).toInt64.toUInt64).toInt64 &&& (65535 : Int64)).toInt32.toUInt32.toUInt16.toUInt32.toInt32) := ⟨_, rfl⟩
 rw [← ht1]
 have lo_t1 : ¬ (t1 < (0 : Int32)) := by rw [ht1]; exact (own_tcr _ _ _).1
 have hi_t1 : ¬ ((65535 : Int32) < t1) := by rw [ht1]; exact (own_tcr _ _ _).2
 show GoV p e below s (ValQ (.int (1 : Int32)) n0) room_1.cells room_1.slots (T1759.setTop (mkF m 100 (Sh28 q1 q2 q3 (q3 &&& (3 : Int32)) ((q3.toUInt32 >>> ((2 : Int32) &&& 31).toUInt32).toInt32 &&& (3 : Int32)) p0 p1 p2 t0 t1) []))
 refine GoV.sg (mkF m 112 (Sh28 q1 q2 q3 (q3 &&& (3 : Int32)) ((q3.toUInt32 >>> ((2 : Int32) &&& 31).toUInt32).toInt32 &&& (3 : Int32)) p0 p1 p2 t0 t1) [(.int 32), (.long q2), (.int p2), (.int ((q3.toUInt32 >>> ((8 : Int32) &&& 31).toUInt32).toInt32 &&& (3 : Int32)))]) (fun t k => XS.iload X1759.here hx rfl (hb hby at_100) rfl (XS.bipush X1759.here hx rfl (hb hby at_102) (XS.iushr X1759.here hx rfl (hb hby at_104) rfl (XS.iconst X1759.here hx rfl (hb hby at_105) (XS.iand X1759.here hx rfl (hb hby at_106) rfl (XS.iload X1759.here hx rfl (hb hby at_107) rfl (XS.lloadN X1759.here hx rfl (hb hby at_109) rfl (XS.bipush X1759.here hx rfl (hb hby at_110) k)))))))) ?_
 refine GoV.sg (mkF m 113 (Sh28 q1 q2 q3 (q3 &&& (3 : Int32)) ((q3.toUInt32 >>> ((2 : Int32) &&& 31).toUInt32).toInt32 &&& (3 : Int32)) p0 p1 p2 t0 t1) [(.long (q2.toUInt64 >>> ((32 : Int32) &&& 0x3f).toInt64.toUInt64).toInt64), (.int p2), (.int ((q3.toUInt32 >>> ((8 : Int32) &&& 31).toUInt32).toInt32 &&& (3 : Int32)))]) (fun t k => XS.lushr X1759.here hx rfl (hb hby at_112) rfl k) ?_
 refine GoV.sg (mkF m 116 (Sh28 q1 q2 q3 (q3 &&& (3 : Int32)) ((q3.toUInt32 >>> ((2 : Int32) &&& 31).toUInt32).toInt32 &&& (3 : Int32)) p0 p1 p2 t0 t1) [(.long 65535), (.long (q2.toUInt64 >>> ((32 : Int32) &&& 0x3f).toInt64.toUInt64).toInt64), (.int p2), (.int ((q3.toUInt32 >>> ((8 : Int32) &&& 31).toUInt32).toInt32 &&& (3 : Int32)))]) (fun t k => X1759.ldc2Long hx hown (mvT hZ (ww hw 0 rfl)) (g := (mkF m 113 (Sh28 q1 q2 q3 (q3 &&& (3 : Int32)) ((q3.toUInt32 >>> ((2 : Int32) &&& 31).toUInt32).toInt32 &&& (3 : Int32)) p0 p1 p2 t0 t1) [(.long (q2.toUInt64 >>> ((32 : Int32) &&& 0x3f).toInt64.toUInt64).toInt64), (.int p2), (.int ((q3.toUInt32 >>> ((8 : Int32) &&& 31).toUInt32).toInt32 &&& (3 : Int32)))])) rfl (hb hby at_113) t k) ?_
 refine GoV.sg (mkF m 119 (Sh28 q1 q2 q3 (q3 &&& (3 : Int32)) ((q3.toUInt32 >>> ((2 : Int32) &&& 31).toUInt32).toInt32 &&& (3 : Int32)) p0 p1 p2 t0 t1) [(.int ((q2.toUInt64 >>> ((32 : Int32) &&& 0x3f).toInt64.toUInt64).toInt64 &&& (65535 : Int64)).toInt32.toUInt32.toUInt16.toUInt32.toInt32), (.int p2), (.int ((q3.toUInt32 >>> ((8 : Int32) &&& 31).toUInt32).toInt32 &&& (3 : Int32)))]) (fun t k => XS.land X1759.here hx rfl (hb hby at_116) rfl (XS.l2i X1759.here hx rfl (hb hby at_117) rfl (XS.i2c X1759.here hx rfl (hb hby at_118) rfl k))) ?_
 obtain ⟨_, T1760, L1760, X1760, hQ1760, st1760⟩ := own_callS X1759 hx hZ hown (y := Y2) (ww hw 5 rfl) (ww hw 6 rfl) (ww hw 3 rfl) (ww hw 7 rfl) (by decide) 0 (rm2 l Z a0 hw ((q3.toUInt32 >>> ((8 : Int32) &&& 31).toUInt32).toInt32 &&& (3 : Int32)) p2 ((q2.toUInt64 >>> ((32 : Int32) &&& 0x3f).toInt64.toUInt64).toInt64 &&& (65535 : Int64)).toInt32.toUInt32.toUInt16.toUInt32.toInt32 h0 n0) (by decide) (by decide) e1759 (by decide) (by decide) (g := (mkF m 119 (Sh28 q1 q2 q3 (q3 &&& (3 : Int32)) ((q3.toUInt32 >>> ((2 : Int32) &&& 31).toUInt32).toInt32 &&& (3 : Int32)) p0 p1 p2 t0 t1) [(.int ((q2.toUInt64 >>> ((32 : Int32) &&& 0x3f).toInt64.toUInt64).toInt64 &&& (65535 : Int64)).toInt32.toUInt32.toUInt16.toUInt32.toInt32), (.int p2), (.int ((q3.toUInt32 >>> ((8 : Int32) &&& 31).toUInt32).toInt32 &&& (3 : Int32)))])) rfl (by rw [hml]; rfl) (argsL := [(.int ((q3.toUInt32 >>> ((8 : Int32) &&& 31).toUInt32).toInt32 &&& (3 : Int32))), (.int p2), (.int ((q2.toUInt64 >>> ((32 : Int32) &&& 0x3f).toInt64.toUInt64).toInt64 &&& (65535 : Int64)).toInt32.toUInt32.toUInt16.toUInt32.toInt32)]) (rest := []) (lenOf pd_28ICC29C rfl) rfl (by show 2 * 0 + _ ≤ _; exact Nat.le_of_eq rfl) (hb hby at_119)
 obtain ⟨rfl, N1760q, e1760⟩ := hQ1760
 have N1760 := Fr.app N1759 N1760q
 refine GoV.sg (mkF m 122 (Sh28 q1 q2 q3 (q3 &&& (3 : Int32)) ((q3.toUInt32 >>> ((2 : Int32) &&& 31).toUInt32).toInt32 &&& (3 : Int32)) p0 p1 p2 t0 t1) [(.int (F2 ((q3.toUInt32 >>> ((8 : Int32) &&& 31).toUInt32).toInt32 &&& (3 : Int32)) p2 ((q2.toUInt64 >>> ((32 : Int32) &&& 0x3f).toInt64.toUInt64).toInt64 &&& (65535 : Int64)).toInt32.toUInt32.toUInt16.toUInt32.toInt32))]) (fun t k => st1760 t k) ?_
 refine GoV.sg (mkF m 124 (Sh29 q1 q2 q3 (q3 &&& (3 : Int32)) ((q3.toUInt32 >>> ((2 : Int32) &&& 31).toUInt32).toInt32 &&& (3 : Int32)) p0 p1 p2 t0 t1 (F2 ((q3.toUInt32 >>> ((8 : Int32) &&& 31).toUInt32).toInt32 &&& (3 : Int32)) p2 ((q2.toUInt64 >>> ((32 : Int32) &&& 0x3f).toInt64.toUInt64).toInt64 &&& (65535 : Int64)).toInt32.toUInt32.toUInt16.toUInt32.toInt32)) []) (fun t k => XS.istore X1760.here hx rfl (hb hby at_122) rfl (l' := (Sh29 q1 q2 q3 (q3 &&& (3 : Int32)) ((q3.toUInt32 >>> ((2 : Int32) &&& 31).toUInt32).toInt32 &&& (3 : Int32)) p0 p1 p2 t0 t1 (F2 ((q3.toUInt32 >>> ((8 : Int32) &&& 31).toUInt32).toInt32 &&& (3 : Int32)) p2 ((q2.toUInt64 >>> ((32 : Int32) &&& 0x3f).toInt64.toUInt64).toInt64 &&& (65535 : Int64)).toInt32.toUInt32.toUInt16.toUInt32.toInt32))) rfl k) ?_
 obtain ⟨t2, ht2⟩ : ∃ z : Int32, z = (F2 ((q3.toUInt32 >>> ((8 : Int32) &&& 31).toUInt32).toInt32 &&& (3 : Int32)) p2 ((q2.toUInt64 >>> ((32 : Int32) &&& 0x3f).toInt64.toUInt64).toInt64 &&& (65535 : Int64)).toInt32.toUInt32.toUInt16.toUInt32.toInt32) := ⟨_, rfl⟩
 rw [← ht2]
 have lo_t2 : ¬ (t2 < (0 : Int32)) := by rw [ht2]; exact (own_tcr _ _ _).1
 have hi_t2 : ¬ ((65535 : Int32) < t2) := by rw [ht2]; exact (own_tcr _ _ _).2
 show GoV p e below s (ValQ (.int (1 : Int32)) n0) room_1.cells room_1.slots (T1760.setTop (mkF m 124 (Sh29 q1 q2 q3 (q3 &&& (3 : Int32)) ((q3.toUInt32 >>> ((2 : Int32) &&& 31).toUInt32).toInt32 &&& (3 : Int32)) p0 p1 p2 t0 t1 t2) []))
 obtain ⟨zp, hzp⟩ : ∃ z : Int32, z = (q3 &&& (3 : Int32)) := ⟨_, rfl⟩
 have kzp := own_and3 q3
 rw [← hzp] at kzp
 rw [← hzp]
 obtain ⟨zt, hzt⟩ : ∃ z : Int32, z = ((q3.toUInt32 >>> ((2 : Int32) &&& 31).toUInt32).toInt32 &&& (3 : Int32)) := ⟨_, rfl⟩
 have kzt := own_and3 (q3.toUInt32 >>> ((2 : Int32) &&& 31).toUInt32).toInt32
 rw [← hzt] at kzt
 rw [← hzt]
 show GoV p e below s (ValQ (.int (1 : Int32)) n0) room_1.cells room_1.slots (T1760.setTop (mkF m 124 (Sh29 q1 q2 q3 zp zt p0 p1 p2 t0 t1 t2) []))
 rcases kzp with rfl | kzp
 ·show GoV p e below s (ValQ (.int (1 : Int32)) n0) room_1.cells room_1.slots (T1760.setTop (mkF m 124 (Sh29 q1 q2 q3 0 zt p0 p1 p2 t0 t1 t2) []))
  rcases kzt with rfl | kzt
  ·show GoV p e below s (ValQ (.int (1 : Int32)) n0) room_1.cells room_1.slots (T1760.setTop (mkF m 124 (Sh29 q1 q2 q3 0 0 p0 p1 p2 t0 t1 t2) []))
   refine GoV.sg (mkF m 132 (Sh29 q1 q2 q3 0 0 p0 p1 p2 t0 t1 t2) [(.int p2), (.int p1), (.int p0), (.int 0)]) (fun t k => XS.iload X1760.here hx rfl (hb hby at_124) rfl (XS.iload X1760.here hx rfl (hb hby at_126) rfl (XS.iload X1760.here hx rfl (hb hby at_128) rfl (XS.iload X1760.here hx rfl (hb hby at_130) rfl k)))) ?_
   obtain ⟨_, T1761, L1761, X1761, hS1761, hZ1761, hown1761, hQ1761, st1761⟩ := own_callU X1760 hx hZ hS0 (Nat.zero_le _) hown (y := Y3) (ww hw 8 rfl) (ww hw 9 rfl) (ww hw 3 rfl) (ww hw 10 rfl) (by decide) 0 (PV := fun vm => IB Z vm []) (rmE0 l Z a0 hw [] p0 p1 p2  h0 n0 Z0       O0 hc_7 hcw) (fun vm1 q => own_ibW I0 q.interned_eq) (by decide) (by decide) e1760 (by decide) (by decide) (g := (mkF m 132 (Sh29 q1 q2 q3 0 0 p0 p1 p2 t0 t1 t2) [(.int p2), (.int p1), (.int p0), (.int 0)])) rfl (by rw [hml]; rfl) (argsL := [(.int (0 : Int32)), (.int p0), (.int p1), (.int p2)]) (rest := []) (lenOf pd_28ICCC29Ljava2flang2fString3b rfl) rfl (by show 2 * 0 + _ ≤ _; exact Nat.le_of_eq rfl) (hb hby at_132)
   obtain ⟨b1761_e0, k1761_la, k1761_lb, k1761_kc, rfl, N1761q, K1761, p1761_0, p1761_1, p1761_2, p1761_3, p1761_4, p1761_5, p1761_6, hz_b1761_e0, LQ1761⟩ := hQ1761
   have N1761 := Fr.app N1760 N1761q
   have f1761_1 := Nat.le_trans Z0 K1761.1
   have f1761_2 := O0.keep K1761 all0
   have f1761_3 := own_staK0 PC K1761
   have f1761_4 := own_staK0 PA K1761
   have f1761_5 := own_staK0 PH K1761
   have f1761_6 := own_staK0 PL K1761
   have f1761_7 := own_staK0 PF K1761
   refine GoV.sg (mkF m 135 (Sh29 q1 q2 q3 0 0 p0 p1 p2 t0 t1 t2) [(.ref b1761_e0)]) (fun t k => st1761 t k) ?_
   have hS1761' : Str0 Z T1761.heap b1761_e0 := ⟨_, _, p1761_1, p1761_2, p1761_3⟩
   refine GoV.sg (mkF m 145 (Sh30 q1 q2 q3 0 0 p0 p1 p2 t0 t1 t2 b1761_e0) [(.int t2), (.int t1), (.int t0), (.int 0)]) (fun t k => XS.astore X1761.here hx rfl (hb hby at_135) rfl rfl (l' := (Sh30 q1 q2 q3 0 0 p0 p1 p2 t0 t1 t2 b1761_e0)) rfl (XS.iload X1761.here hx rfl (hb hby at_137) rfl (XS.iload X1761.here hx rfl (hb hby at_139) rfl (XS.iload X1761.here hx rfl (hb hby at_141) rfl (XS.iload X1761.here hx rfl (hb hby at_143) rfl k))))) ?_
   obtain ⟨_, T1762, L1762, X1762, hS1762, hZ1762, hown1762, hQ1762, st1762⟩ := own_callU X1761 hx hZ1761 hS1761 (Nat.le_refl _) hown1761 (y := Y3) (ww hw 8 rfl) (ww hw 9 rfl) (ww hw 3 rfl) (ww hw 10 rfl) (by decide) 0 (PV := fun vm => Lit (Z.setVm vm) "java/lang/String" 7 k1761_la) (rmW0 l Z a0 hw [] t0 t1 t2 k1761_la k1761_lb k1761_kc T1761.heap n0 f1761_1 p1761_4 p1761_5 p1761_6 p1761_3      f1761_2 hc_7 hcw) (fun vm1 q => Lit.stays (s := s) LQ1761 q.wide) (by decide) (by decide) rfl (by decide) (by decide) (g := (mkF m 145 (Sh30 q1 q2 q3 0 0 p0 p1 p2 t0 t1 t2 b1761_e0) [(.int t2), (.int t1), (.int t0), (.int 0)])) rfl (by rw [hml]; rfl) (argsL := [(.int (0 : Int32)), (.int t0), (.int t1), (.int t2)]) (rest := []) (lenOf pd_28ICCC29Ljava2flang2fString3b rfl) rfl (by show 2 * 0 + _ ≤ _; exact Nat.le_of_eq rfl) (hb hby at_145)
   obtain ⟨b1762_e0, rfl, N1762q, K1762, p1762_0, p1762_1, p1762_2, p1762_3, hz_b1762_e0⟩ := hQ1762
   have N1762 := Fr.app N1761 N1762q
   have f1762_10 := own_staK0 f1761_3 K1762
   have f1762_11 := own_staK0 f1761_4 K1762
   have f1762_12 := own_staK0 f1761_5 K1762
   have f1762_13 := own_staK0 f1761_6 K1762
   have f1762_14 := own_staK0 f1761_7 K1762
   have f1762_15 := p1761_0.keep K1762
   refine GoV.sg (mkF m 148 (Sh30 q1 q2 q3 0 0 p0 p1 p2 t0 t1 t2 b1761_e0) [(.ref b1762_e0)]) (fun t k => st1762 t k) ?_
   have hS1762' : Str0 Z T1762.heap b1762_e0 := ⟨_, _, p1762_1, p1762_2, p1762_3⟩
   have hS1761qk := hS1761'.keep K1762
   refine GoV.sg (mkF m 175 (Sh31 q1 q2 q3 0 0 p0 p1 p2 t0 t1 t2 b1761_e0 b1762_e0) [(.int 1), (.int 0)]) (fun t k => XS.astore X1762.here hx rfl (hb hby at_148) rfl rfl (l' := (Sh31 q1 q2 q3 0 0 p0 p1 p2 t0 t1 t2 b1761_e0 b1762_e0)) rfl (XS.iload X1762.here hx rfl (hb hby at_150) rfl (XS.iload X1762.here hx rfl (hb hby at_152) rfl (XS.icmpNo X1762.here hx rfl (hb hby at_154) rfl (by decide) (XS.iload X1762.here hx rfl (hb hby at_157) rfl (XS.ifYes X1762.here hx rfl (pc0 := 159) (pc' := 172) rfl (hb hby at_159) rfl (by decide) (by decide) (by decide) (XS.iload X1762.here hx rfl (hb hby at_172) rfl (XS.iconst X1762.here hx rfl (hb hby at_174) k)))))))) ?_
   refine GoV.sg (mkF m 213 (Sh32 q1 q2 q3 0 0 p0 p1 p2 t0 t1 t2 b1761_e0 b1762_e0 1) [(.ref b1762_e0)]) (fun t k => XS.icmpYes X1762.here hx rfl (pc0 := 175) (pc' := 188) rfl (hb hby at_175) rfl (by decide) (by decide) (by decide) (XS.iload X1762.here hx rfl (hb hby at_188) rfl (XS.iconst X1762.here hx rfl (hb hby at_190) (XS.icmpYes X1762.here hx rfl (pc0 := 191) (pc' := 204) rfl (hb hby at_191) rfl (by decide) (by decide) (by decide) (XS.iconst X1762.here hx rfl (hb hby at_204) (XS.goto X1762.here hx rfl (pc0 := 205) (pc' := 209) rfl (hb hby at_205) (by decide) (by decide) (XS.istore X1762.here hx rfl (hb hby at_209) rfl (l' := (Sh32 q1 q2 q3 0 0 p0 p1 p2 t0 t1 t2 b1761_e0 b1762_e0 1)) rfl (XS.aload X1762.here hx rfl (hb hby at_211) rfl rfl k)))))))) ?_
   refine GoV.sg (mkF m 215 (Sh32 q1 q2 q3 0 0 p0 p1 p2 t0 t1 t2 b1761_e0 b1762_e0 1) [(.ref b1761_e0), (.ref b1762_e0)]) (fun t k => XS.aload X1762.here hx rfl (hb hby at_213) rfl rfl k) ?_
   obtain ⟨_, T1763, L1763, X1763, hQ1763, st1763⟩ := own_callS X1762 hx hZ1762 hown1762 (y := Y7) (ww hw 33 rfl) (ww hw 34 rfl) (ww hw 35 rfl) (ww hw 36 rfl) (by decide) 0 (rmW0Z l Z a0 hw b1762_e0 b1761_e0  cs vf T1762.heap n0 p1762_0 f1762_15 f1762_10 f1762_11 f1762_12 f1762_13 f1762_14 hS1762' hS1761qk  hvf  ncs) (by decide) (by decide) rfl (by decide) (by decide) (g := (mkF m 215 (Sh32 q1 q2 q3 0 0 p0 p1 p2 t0 t1 t2 b1761_e0 b1762_e0 1) [(.ref b1761_e0), (.ref b1762_e0)])) rfl (by rw [hml]; rfl) (argsL := [(.ref b1762_e0), (.ref b1761_e0)]) (rest := []) (lenOf pd_28Ljava2flang2fString3bLjava2flang2fString3b29Z rfl) rfl (by show 2 * 0 + _ ≤ _; exact Nat.le_of_eq rfl) (hb hby at_215)
   obtain ⟨rfl, N1763q, e1763⟩ := hQ1763
   have N1763 := Fr.app N1762 N1763q
   refine GoV.sg (mkF m 218 (Sh32 q1 q2 q3 0 0 p0 p1 p2 t0 t1 t2 b1761_e0 b1762_e0 1) [(.int 1)]) (fun t k => st1763 t k) ?_
   refine GoV.sg (mkF m 228 (Sh32 q1 q2 q3 0 0 p0 p1 p2 t0 t1 t2 b1761_e0 b1762_e0 1) [(.int 1)]) (fun t k => XS.iload X1763.here hx rfl (hb hby at_218) rfl (XS.icmpNo X1763.here hx rfl (hb hby at_220) rfl (by decide) (XS.iconst X1763.here hx rfl (hb hby at_223) (XS.goto X1763.here hx rfl (pc0 := 224) (pc' := 228) rfl (hb hby at_224) (by decide) (by decide) k)))) ?_
   refine GoV.retN X1763 hS1762 (by rw [e1763]; exact (Nat.le_refl _)) hx (t := .boolean) Bd.returns (by simp) (hb hby at_228) Bd.notSynchronized ?_ (by decide) (by decide)
   exact ⟨rfl, N1763⟩
  ·have qzt := own_pos kzt
   show GoV p e below s (ValQ (.int (1 : Int32)) n0) room_1.cells room_1.slots (T1760.setTop (mkF m 124 (Sh29 q1 q2 q3 0 zt p0 p1 p2 t0 t1 t2) []))
   refine GoV.sg (mkF m 132 (Sh29 q1 q2 q3 0 zt p0 p1 p2 t0 t1 t2) [(.int p2), (.int p1), (.int p0), (.int 0)]) (fun t k => XS.iload X1760.here hx rfl (hb hby at_124) rfl (XS.iload X1760.here hx rfl (hb hby at_126) rfl (XS.iload X1760.here hx rfl (hb hby at_128) rfl (XS.iload X1760.here hx rfl (hb hby at_130) rfl k)))) ?_
   obtain ⟨_, T1764, L1764, X1764, hS1764, hZ1764, hown1764, hQ1764, st1764⟩ := own_callU X1760 hx hZ hS0 (Nat.zero_le _) hown (y := Y3) (ww hw 8 rfl) (ww hw 9 rfl) (ww hw 3 rfl) (ww hw 10 rfl) (by decide) 0 (PV := fun vm => IB Z vm []) (rmE0 l Z a0 hw [] p0 p1 p2  h0 n0 Z0       O0 hc_7 hcw) (fun vm1 q => own_ibW I0 q.interned_eq) (by decide) (by decide) e1760 (by decide) (by decide) (g := (mkF m 132 (Sh29 q1 q2 q3 0 zt p0 p1 p2 t0 t1 t2) [(.int p2), (.int p1), (.int p0), (.int 0)])) rfl (by rw [hml]; rfl) (argsL := [(.int (0 : Int32)), (.int p0), (.int p1), (.int p2)]) (rest := []) (lenOf pd_28ICCC29Ljava2flang2fString3b rfl) rfl (by show 2 * 0 + _ ≤ _; exact Nat.le_of_eq rfl) (hb hby at_132)
   obtain ⟨b1764_e0, k1764_la, k1764_lb, k1764_kc, rfl, N1764q, K1764, p1764_0, p1764_1, p1764_2, p1764_3, p1764_4, p1764_5, p1764_6, hz_b1764_e0, LQ1764⟩ := hQ1764
   have N1764 := Fr.app N1760 N1764q
   have f1764_21 := Nat.le_trans Z0 K1764.1
   have f1764_23 := own_staK0 PC K1764
   have f1764_24 := own_staK0 PA K1764
   have f1764_25 := own_staK0 PH K1764
   have f1764_26 := own_staK0 PL K1764
   have f1764_27 := own_staK0 PF K1764
   refine GoV.sg (mkF m 135 (Sh29 q1 q2 q3 0 zt p0 p1 p2 t0 t1 t2) [(.ref b1764_e0)]) (fun t k => st1764 t k) ?_
   have hS1764' : Str0 Z T1764.heap b1764_e0 := ⟨_, _, p1764_1, p1764_2, p1764_3⟩
   refine GoV.sg (mkF m 145 (Sh30 q1 q2 q3 0 zt p0 p1 p2 t0 t1 t2 b1764_e0) [(.int t2), (.int t1), (.int t0), (.int zt)]) (fun t k => XS.astore X1764.here hx rfl (hb hby at_135) rfl rfl (l' := (Sh30 q1 q2 q3 0 zt p0 p1 p2 t0 t1 t2 b1764_e0)) rfl (XS.iload X1764.here hx rfl (hb hby at_137) rfl (XS.iload X1764.here hx rfl (hb hby at_139) rfl (XS.iload X1764.here hx rfl (hb hby at_141) rfl (XS.iload X1764.here hx rfl (hb hby at_143) rfl k))))) ?_
   obtain ⟨_, T1765, L1765, X1765, hQ1765, st1765⟩ := own_callS X1764 hx hZ1764 hown1764 (y := Y3) (ww hw 8 rfl) (ww hw 9 rfl) (ww hw 3 rfl) (ww hw 10 rfl) (by decide) 0 (rmStrN l Z a0 hw zt t0 t1 t2 cs T1764.heap n0 f1764_21 f1764_23 f1764_24 f1764_25 f1764_26     kzt lo_t0 hi_t0 lo_t1 hi_t1 lo_t2 hi_t2 ncs) (by decide) (by decide) rfl (by decide) (by decide) (g := (mkF m 145 (Sh30 q1 q2 q3 0 zt p0 p1 p2 t0 t1 t2 b1764_e0) [(.int t2), (.int t1), (.int t0), (.int zt)])) rfl (by rw [hml]; rfl) (argsL := [(.int zt), (.int t0), (.int t1), (.int t2)]) (rest := []) (lenOf pd_28ICCC29Ljava2flang2fString3b rfl) rfl (by show 2 * 0 + _ ≤ _; exact Nat.le_of_eq rfl) (hb hby at_145)
   obtain ⟨b1765_e0, rfl, N1765q, K1765, p1765_0, hz_b1765_e0, LQ1765⟩ := hQ1765
   have N1765 := Fr.app N1764 N1765q
   have f1765_30 := own_staK0 f1764_23 K1765
   have f1765_31 := own_staK0 f1764_24 K1765
   have f1765_32 := own_staK0 f1764_25 K1765
   have f1765_33 := own_staK0 f1764_26 K1765
   have f1765_34 := own_staK0 f1764_27 K1765
   have f1765_35 := Nat.le_trans (Nat.le_refl _) K1765.1
   have f1765_36 := p1764_0.keep K1765
   refine GoV.sg (mkF m 148 (Sh30 q1 q2 q3 0 zt p0 p1 p2 t0 t1 t2 b1764_e0) [(.ref b1765_e0)]) (fun t k => st1765 t k) ?_
   have hS1764qk := hS1764'.keep K1765
   refine GoV.sg (mkF m 175 (Sh31 q1 q2 q3 0 zt p0 p1 p2 t0 t1 t2 b1764_e0 b1765_e0) [(.int 1), (.int 0)]) (fun t k => XS.astore X1765.here hx rfl (hb hby at_148) rfl rfl (l' := (Sh31 q1 q2 q3 0 zt p0 p1 p2 t0 t1 t2 b1764_e0 b1765_e0)) rfl (XS.iload X1765.here hx rfl (hb hby at_150) rfl (XS.iload X1765.here hx rfl (hb hby at_152) rfl (XS.icmpNo X1765.here hx rfl (hb hby at_154) rfl (flt qzt.2).1 (XS.iload X1765.here hx rfl (hb hby at_157) rfl (XS.ifYes X1765.here hx rfl (pc0 := 159) (pc' := 172) rfl (hb hby at_159) rfl (by decide) (by decide) (by decide) (XS.iload X1765.here hx rfl (hb hby at_172) rfl (XS.iconst X1765.here hx rfl (hb hby at_174) k)))))))) ?_
   refine GoV.sg (mkF m 213 (Sh32 q1 q2 q3 0 zt p0 p1 p2 t0 t1 t2 b1764_e0 b1765_e0 1) [(.ref b1765_e0)]) (fun t k => XS.icmpYes X1765.here hx rfl (pc0 := 175) (pc' := 188) rfl (hb hby at_175) rfl (by decide) (by decide) (by decide) (XS.iload X1765.here hx rfl (hb hby at_188) rfl (XS.iconst X1765.here hx rfl (hb hby at_190) (XS.icmpYes X1765.here hx rfl (pc0 := 191) (pc' := 204) rfl (hb hby at_191) rfl (by decide) (by decide) (by decide) (XS.iconst X1765.here hx rfl (hb hby at_204) (XS.goto X1765.here hx rfl (pc0 := 205) (pc' := 209) rfl (hb hby at_205) (by decide) (by decide) (XS.istore X1765.here hx rfl (hb hby at_209) rfl (l' := (Sh32 q1 q2 q3 0 zt p0 p1 p2 t0 t1 t2 b1764_e0 b1765_e0 1)) rfl (XS.aload X1765.here hx rfl (hb hby at_211) rfl rfl k)))))))) ?_
   refine GoV.sg (mkF m 215 (Sh32 q1 q2 q3 0 zt p0 p1 p2 t0 t1 t2 b1764_e0 b1765_e0 1) [(.ref b1764_e0), (.ref b1765_e0)]) (fun t k => XS.aload X1765.here hx rfl (hb hby at_213) rfl rfl k) ?_
   obtain ⟨_, T1766, L1766, X1766, hQ1766, st1766⟩ := own_callS X1765 hx hZ1764 hown1764 (y := Y7) (ww hw 33 rfl) (ww hw 34 rfl) (ww hw 35 rfl) (ww hw 36 rfl) (by decide) 0 (rmWX0 l Z a0 hw b1765_e0 b1764_e0 zt t0 t1 t2 cs vf T1765.heap n0 p1765_0 f1765_36 f1765_30 f1765_31 f1765_32 f1765_33 f1765_34 LQ1765 hS1764qk  hvf lo_t0 hi_t0 lo_t1 hi_t1 lo_t2 hi_t2 ncs) (by decide) (by decide) rfl (by decide) (by decide) (g := (mkF m 215 (Sh32 q1 q2 q3 0 zt p0 p1 p2 t0 t1 t2 b1764_e0 b1765_e0 1) [(.ref b1764_e0), (.ref b1765_e0)])) rfl (by rw [hml]; rfl) (argsL := [(.ref b1765_e0), (.ref b1764_e0)]) (rest := []) (lenOf pd_28Ljava2flang2fString3bLjava2flang2fString3b29Z rfl) rfl (by show 2 * 0 + _ ≤ _; exact Nat.le_of_eq rfl) (hb hby at_215)
   obtain ⟨rfl, N1766q, e1766⟩ := hQ1766
   have N1766 := Fr.app N1765 N1766q
   refine GoV.sg (mkF m 218 (Sh32 q1 q2 q3 0 zt p0 p1 p2 t0 t1 t2 b1764_e0 b1765_e0 1) [(.int 1)]) (fun t k => st1766 t k) ?_
   refine GoV.sg (mkF m 228 (Sh32 q1 q2 q3 0 zt p0 p1 p2 t0 t1 t2 b1764_e0 b1765_e0 1) [(.int 1)]) (fun t k => XS.iload X1766.here hx rfl (hb hby at_218) rfl (XS.icmpNo X1766.here hx rfl (hb hby at_220) rfl (by decide) (XS.iconst X1766.here hx rfl (hb hby at_223) (XS.goto X1766.here hx rfl (pc0 := 224) (pc' := 228) rfl (hb hby at_224) (by decide) (by decide) k)))) ?_
   refine GoV.retN X1766 hS1764 (by rw [e1766]; exact f1765_35) hx (t := .boolean) Bd.returns (by simp) (hb hby at_228) Bd.notSynchronized ?_ (by decide) (by decide)
   exact ⟨rfl, N1766⟩
 ·have qzp := own_pos kzp
  show GoV p e below s (ValQ (.int (1 : Int32)) n0) room_1.cells room_1.slots (T1760.setTop (mkF m 124 (Sh29 q1 q2 q3 zp zt p0 p1 p2 t0 t1 t2) []))
  rcases kzt with rfl | kzt
  ·show GoV p e below s (ValQ (.int (1 : Int32)) n0) room_1.cells room_1.slots (T1760.setTop (mkF m 124 (Sh29 q1 q2 q3 zp 0 p0 p1 p2 t0 t1 t2) []))
   refine GoV.sg (mkF m 132 (Sh29 q1 q2 q3 zp 0 p0 p1 p2 t0 t1 t2) [(.int p2), (.int p1), (.int p0), (.int zp)]) (fun t k => XS.iload X1760.here hx rfl (hb hby at_124) rfl (XS.iload X1760.here hx rfl (hb hby at_126) rfl (XS.iload X1760.here hx rfl (hb hby at_128) rfl (XS.iload X1760.here hx rfl (hb hby at_130) rfl k)))) ?_
   obtain ⟨_, T1767, L1767, X1767, hQ1767, st1767⟩ := own_callS X1760 hx hZ hown (y := Y3) (ww hw 8 rfl) (ww hw 9 rfl) (ww hw 3 rfl) (ww hw 10 rfl) (by decide) 0 (rmStrN l Z a0 hw zp p0 p1 p2 cs h0 n0 Z0 PC PA PH PL     kzp lo_p0 hi_p0 lo_p1 hi_p1 lo_p2 hi_p2 ncs) (by decide) (by decide) e1760 (by decide) (by decide) (g := (mkF m 132 (Sh29 q1 q2 q3 zp 0 p0 p1 p2 t0 t1 t2) [(.int p2), (.int p1), (.int p0), (.int zp)])) rfl (by rw [hml]; rfl) (argsL := [(.int zp), (.int p0), (.int p1), (.int p2)]) (rest := []) (lenOf pd_28ICCC29Ljava2flang2fString3b rfl) rfl (by show 2 * 0 + _ ≤ _; exact Nat.le_of_eq rfl) (hb hby at_132)
   obtain ⟨b1767_e0, rfl, N1767q, K1767, p1767_0, hz_b1767_e0, LQ1767⟩ := hQ1767
   have N1767 := Fr.app N1760 N1767q
   have f1767_43 := Nat.le_trans Z0 K1767.1
   have f1767_44 := O0.keep K1767 all0
   have f1767_45 := own_staK0 PC K1767
   have f1767_46 := own_staK0 PA K1767
   have f1767_47 := own_staK0 PH K1767
   have f1767_48 := own_staK0 PL K1767
   have f1767_49 := own_staK0 PF K1767
   have f1767_50 := Nat.le_trans (Nat.zero_le _) K1767.1
   refine GoV.sg (mkF m 135 (Sh29 q1 q2 q3 zp 0 p0 p1 p2 t0 t1 t2) [(.ref b1767_e0)]) (fun t k => st1767 t k) ?_
   refine GoV.sg (mkF m 145 (Sh30 q1 q2 q3 zp 0 p0 p1 p2 t0 t1 t2 b1767_e0) [(.int t2), (.int t1), (.int t0), (.int 0)]) (fun t k => XS.astore X1767.here hx rfl (hb hby at_135) rfl rfl (l' := (Sh30 q1 q2 q3 zp 0 p0 p1 p2 t0 t1 t2 b1767_e0)) rfl (XS.iload X1767.here hx rfl (hb hby at_137) rfl (XS.iload X1767.here hx rfl (hb hby at_139) rfl (XS.iload X1767.here hx rfl (hb hby at_141) rfl (XS.iload X1767.here hx rfl (hb hby at_143) rfl k))))) ?_
   obtain ⟨_, T1768, L1768, X1768, hS1768, hZ1768, hown1768, hQ1768, st1768⟩ := own_callU X1767 hx hZ hS0 f1767_50 hown (y := Y3) (ww hw 8 rfl) (ww hw 9 rfl) (ww hw 3 rfl) (ww hw 10 rfl) (by decide) 0 (PV := fun vm => IB Z vm []) (rmE0 l Z a0 hw [] t0 t1 t2  T1767.heap n0 f1767_43       f1767_44 hc_7 hcw) (fun vm1 q => own_ibW I0 q.interned_eq) (by decide) (by decide) rfl (by decide) (by decide) (g := (mkF m 145 (Sh30 q1 q2 q3 zp 0 p0 p1 p2 t0 t1 t2 b1767_e0) [(.int t2), (.int t1), (.int t0), (.int 0)])) rfl (by rw [hml]; rfl) (argsL := [(.int (0 : Int32)), (.int t0), (.int t1), (.int t2)]) (rest := []) (lenOf pd_28ICCC29Ljava2flang2fString3b rfl) rfl (by show 2 * 0 + _ ≤ _; exact Nat.le_of_eq rfl) (hb hby at_145)
   obtain ⟨b1768_e0, k1768_la, k1768_lb, k1768_kc, rfl, N1768q, K1768, p1768_0, p1768_1, p1768_2, p1768_3, p1768_4, p1768_5, p1768_6, hz_b1768_e0, LQ1768⟩ := hQ1768
   have N1768 := Fr.app N1767 N1768q
   have f1768_53 := own_staK0 f1767_45 K1768
   have f1768_54 := own_staK0 f1767_46 K1768
   have f1768_55 := own_staK0 f1767_47 K1768
   have f1768_56 := own_staK0 f1767_48 K1768
   have f1768_57 := own_staK0 f1767_49 K1768
   have f1768_58 := p1767_0.keep K1768
   refine GoV.sg (mkF m 148 (Sh30 q1 q2 q3 zp 0 p0 p1 p2 t0 t1 t2 b1767_e0) [(.ref b1768_e0)]) (fun t k => st1768 t k) ?_
   have hS1768' : Str0 Z T1768.heap b1768_e0 := ⟨_, _, p1768_1, p1768_2, p1768_3⟩
   have LQ1767k := LQ1767.keep K1768
   refine GoV.sg (mkF m 215 (Sh32 q1 q2 q3 zp 0 p0 p1 p2 t0 t1 t2 b1767_e0 b1768_e0 0) [(.ref b1767_e0), (.ref b1768_e0)]) (fun t k => XS.astore X1768.here hx rfl (hb hby at_148) rfl rfl (l' := (Sh31 q1 q2 q3 zp 0 p0 p1 p2 t0 t1 t2 b1767_e0 b1768_e0)) rfl (XS.iload X1768.here hx rfl (hb hby at_150) rfl (XS.iload X1768.here hx rfl (hb hby at_152) rfl (XS.icmpYes X1768.here hx rfl (pc0 := 154) (pc' := 208) rfl (hb hby at_154) rfl (tlt qzp.1).1 (by decide) (by decide) (XS.iconst X1768.here hx rfl (hb hby at_208) (XS.istore X1768.here hx rfl (hb hby at_209) rfl (l' := (Sh32 q1 q2 q3 zp 0 p0 p1 p2 t0 t1 t2 b1767_e0 b1768_e0 0)) rfl (XS.aload X1768.here hx rfl (hb hby at_211) rfl rfl (XS.aload X1768.here hx rfl (hb hby at_213) rfl rfl k)))))))) ?_
   obtain ⟨_, T1769, L1769, X1769, hQ1769, st1769⟩ := own_callS X1768 hx hZ1768 hown1768 (y := Y7) (ww hw 33 rfl) (ww hw 34 rfl) (ww hw 35 rfl) (ww hw 36 rfl) (by decide) 0 (rmW0X l Z a0 hw b1768_e0 b1767_e0 zp p0 p1 p2 cs vf T1768.heap n0 p1768_0 f1768_58 f1768_53 f1768_54 f1768_55 f1768_56 f1768_57 hS1768' LQ1767k  hvf lo_p0 hi_p0 lo_p1 hi_p1 lo_p2 hi_p2 ncs) (by decide) (by decide) rfl (by decide) (by decide) (g := (mkF m 215 (Sh32 q1 q2 q3 zp 0 p0 p1 p2 t0 t1 t2 b1767_e0 b1768_e0 0) [(.ref b1767_e0), (.ref b1768_e0)])) rfl (by rw [hml]; rfl) (argsL := [(.ref b1768_e0), (.ref b1767_e0)]) (rest := []) (lenOf pd_28Ljava2flang2fString3bLjava2flang2fString3b29Z rfl) rfl (by show 2 * 0 + _ ≤ _; exact Nat.le_of_eq rfl) (hb hby at_215)
   obtain ⟨rfl, N1769q, e1769⟩ := hQ1769
   have N1769 := Fr.app N1768 N1769q
   refine GoV.sg (mkF m 218 (Sh32 q1 q2 q3 zp 0 p0 p1 p2 t0 t1 t2 b1767_e0 b1768_e0 0) [(.int 0)]) (fun t k => st1769 t k) ?_
   refine GoV.sg (mkF m 228 (Sh32 q1 q2 q3 zp 0 p0 p1 p2 t0 t1 t2 b1767_e0 b1768_e0 0) [(.int 1)]) (fun t k => XS.iload X1769.here hx rfl (hb hby at_218) rfl (XS.icmpNo X1769.here hx rfl (hb hby at_220) rfl (by decide) (XS.iconst X1769.here hx rfl (hb hby at_223) (XS.goto X1769.here hx rfl (pc0 := 224) (pc' := 228) rfl (hb hby at_224) (by decide) (by decide) k)))) ?_
   refine GoV.retN X1769 hS1768 (by rw [e1769]; exact (Nat.le_refl _)) hx (t := .boolean) Bd.returns (by simp) (hb hby at_228) Bd.notSynchronized ?_ (by decide) (by decide)
   exact ⟨rfl, N1769⟩
  ·have qzt := own_pos kzt
   show GoV p e below s (ValQ (.int (1 : Int32)) n0) room_1.cells room_1.slots (T1760.setTop (mkF m 124 (Sh29 q1 q2 q3 zp zt p0 p1 p2 t0 t1 t2) []))
   refine GoV.sg (mkF m 132 (Sh29 q1 q2 q3 zp zt p0 p1 p2 t0 t1 t2) [(.int p2), (.int p1), (.int p0), (.int zp)]) (fun t k => XS.iload X1760.here hx rfl (hb hby at_124) rfl (XS.iload X1760.here hx rfl (hb hby at_126) rfl (XS.iload X1760.here hx rfl (hb hby at_128) rfl (XS.iload X1760.here hx rfl (hb hby at_130) rfl k)))) ?_
   obtain ⟨_, T1770, L1770, X1770, hQ1770, st1770⟩ := own_callS X1760 hx hZ hown (y := Y3) (ww hw 8 rfl) (ww hw 9 rfl) (ww hw 3 rfl) (ww hw 10 rfl) (by decide) 0 (rmStrN l Z a0 hw zp p0 p1 p2 cs h0 n0 Z0 PC PA PH PL     kzp lo_p0 hi_p0 lo_p1 hi_p1 lo_p2 hi_p2 ncs) (by decide) (by decide) e1760 (by decide) (by decide) (g := (mkF m 132 (Sh29 q1 q2 q3 zp zt p0 p1 p2 t0 t1 t2) [(.int p2), (.int p1), (.int p0), (.int zp)])) rfl (by rw [hml]; rfl) (argsL := [(.int zp), (.int p0), (.int p1), (.int p2)]) (rest := []) (lenOf pd_28ICCC29Ljava2flang2fString3b rfl) rfl (by show 2 * 0 + _ ≤ _; exact Nat.le_of_eq rfl) (hb hby at_132)
   obtain ⟨b1770_e0, rfl, N1770q, K1770, p1770_0, hz_b1770_e0, LQ1770⟩ := hQ1770
   have N1770 := Fr.app N1760 N1770q
   have f1770_59 := Nat.le_trans Z0 K1770.1
   have f1770_61 := own_staK0 PC K1770
   have f1770_62 := own_staK0 PA K1770
   have f1770_63 := own_staK0 PH K1770
   have f1770_64 := own_staK0 PL K1770
   have f1770_65 := own_staK0 PF K1770
   have f1770_66 := Nat.le_trans (Nat.zero_le _) K1770.1
   refine GoV.sg (mkF m 135 (Sh29 q1 q2 q3 zp zt p0 p1 p2 t0 t1 t2) [(.ref b1770_e0)]) (fun t k => st1770 t k) ?_
   refine GoV.sg (mkF m 145 (Sh30 q1 q2 q3 zp zt p0 p1 p2 t0 t1 t2 b1770_e0) [(.int t2), (.int t1), (.int t0), (.int zt)]) (fun t k => XS.astore X1770.here hx rfl (hb hby at_135) rfl rfl (l' := (Sh30 q1 q2 q3 zp zt p0 p1 p2 t0 t1 t2 b1770_e0)) rfl (XS.iload X1770.here hx rfl (hb hby at_137) rfl (XS.iload X1770.here hx rfl (hb hby at_139) rfl (XS.iload X1770.here hx rfl (hb hby at_141) rfl (XS.iload X1770.here hx rfl (hb hby at_143) rfl k))))) ?_
   obtain ⟨_, T1771, L1771, X1771, hQ1771, st1771⟩ := own_callS X1770 hx hZ hown (y := Y3) (ww hw 8 rfl) (ww hw 9 rfl) (ww hw 3 rfl) (ww hw 10 rfl) (by decide) 0 (rmStrN l Z a0 hw zt t0 t1 t2 cs T1770.heap n0 f1770_59 f1770_61 f1770_62 f1770_63 f1770_64     kzt lo_t0 hi_t0 lo_t1 hi_t1 lo_t2 hi_t2 ncs) (by decide) (by decide) rfl (by decide) (by decide) (g := (mkF m 145 (Sh30 q1 q2 q3 zp zt p0 p1 p2 t0 t1 t2 b1770_e0) [(.int t2), (.int t1), (.int t0), (.int zt)])) rfl (by rw [hml]; rfl) (argsL := [(.int zt), (.int t0), (.int t1), (.int t2)]) (rest := []) (lenOf pd_28ICCC29Ljava2flang2fString3b rfl) rfl (by show 2 * 0 + _ ≤ _; exact Nat.le_of_eq rfl) (hb hby at_145)
   obtain ⟨b1771_e0, rfl, N1771q, K1771, p1771_0, hz_b1771_e0, LQ1771⟩ := hQ1771
   have N1771 := Fr.app N1770 N1771q
   have f1771_69 := own_staK0 f1770_61 K1771
   have f1771_70 := own_staK0 f1770_62 K1771
   have f1771_71 := own_staK0 f1770_63 K1771
   have f1771_72 := own_staK0 f1770_64 K1771
   have f1771_73 := own_staK0 f1770_65 K1771
   have f1771_74 := Nat.le_trans f1770_66 K1771.1
   have f1771_75 := p1770_0.keep K1771
   refine GoV.sg (mkF m 148 (Sh30 q1 q2 q3 zp zt p0 p1 p2 t0 t1 t2 b1770_e0) [(.ref b1771_e0)]) (fun t k => st1771 t k) ?_
   have LQ1770k := LQ1770.keep K1771
   refine GoV.sg (mkF m 154 (Sh31 q1 q2 q3 zp zt p0 p1 p2 t0 t1 t2 b1770_e0 b1771_e0) [(.int zp), (.int zt)]) (fun t k => XS.astore X1771.here hx rfl (hb hby at_148) rfl rfl (l' := (Sh31 q1 q2 q3 zp zt p0 p1 p2 t0 t1 t2 b1770_e0 b1771_e0)) rfl (XS.iload X1771.here hx rfl (hb hby at_150) rfl (XS.iload X1771.here hx rfl (hb hby at_152) rfl k))) ?_
   have J209_1795 : ∀ (Tj1796 : State) (Lj1796 : List Loc), Stand p l e room_1 (s.setVm s.vm) m #[(.long q1), (.long q2), (.int q3)] below meth c Tj1796 Lj1796 8 32 → Tj1796.heap = T1771.heap → Fr n0 Lj1796 → ∀ b1794 : Int32, b1794 = (if zt < zp then (0 : Int32) else (if (F18 t0 p0) = (0 : Int32) then (0 : Int32) else (if (1 : Int32) < zp then (if (F18 t1 p1) = (0 : Int32) then (0 : Int32) else (if (2 : Int32) < zp then (if (F18 t2 p2) = (0 : Int32) then (0 : Int32) else (1 : Int32)) else (1 : Int32))) else (if (2 : Int32) < zp then (if (F18 t2 p2) = (0 : Int32) then (0 : Int32) else (1 : Int32)) else (1 : Int32))))) → GoV p e below s (ValQ (.int (1 : Int32)) n0) room_1.cells room_1.slots (Tj1796.setTop (mkF m 209 (Sh31 q1 q2 q3 zp zt p0 p1 p2 t0 t1 t2 b1770_e0 b1771_e0) [(.int b1794)])) := by
    intro Tj1796 Lj1796 Xj1796 ej1796 Nj1796 b1794 hb1794
    refine GoV.sg (mkF m 215 (Sh32 q1 q2 q3 zp zt p0 p1 p2 t0 t1 t2 b1770_e0 b1771_e0 b1794) [(.ref b1770_e0), (.ref b1771_e0)]) (fun t k => XS.istore Xj1796.here hx rfl (hb hby at_209) rfl (l' := (Sh32 q1 q2 q3 zp zt p0 p1 p2 t0 t1 t2 b1770_e0 b1771_e0 b1794)) rfl (XS.aload Xj1796.here hx rfl (hb hby at_211) rfl rfl (XS.aload Xj1796.here hx rfl (hb hby at_213) rfl rfl k))) ?_
    obtain ⟨_, T1809, L1809, X1809, hQ1809, st1809⟩ := own_callS Xj1796 hx hZ hown (y := Y7) (ww hw 33 rfl) (ww hw 34 rfl) (ww hw 35 rfl) (ww hw 36 rfl) (by decide) 0 (rmWXX l Z a0 hw b1771_e0 b1770_e0 zt t0 t1 t2 zp p0 p1 p2 cs vf T1771.heap n0 p1771_0 f1771_75 f1771_69 f1771_70 f1771_71 f1771_72 f1771_73 LQ1771 LQ1770k  hvf lo_t0 hi_t0 lo_t1 hi_t1 lo_t2 hi_t2 lo_p0 hi_p0 lo_p1 hi_p1 lo_p2 hi_p2 ncs) (by decide) (by decide) ej1796 (by decide) (by decide) (g := (mkF m 215 (Sh32 q1 q2 q3 zp zt p0 p1 p2 t0 t1 t2 b1770_e0 b1771_e0 b1794) [(.ref b1770_e0), (.ref b1771_e0)])) rfl (by rw [hml]; rfl) (argsL := [(.ref b1771_e0), (.ref b1770_e0)]) (rest := []) (lenOf pd_28Ljava2flang2fString3bLjava2flang2fString3b29Z rfl) rfl (by show 2 * 0 + _ ≤ _; exact Nat.le_of_eq rfl) (hb hby at_215)
    obtain ⟨rfl, N1809q, e1809⟩ := hQ1809
    have N1809 := Fr.app Nj1796 N1809q
    refine GoV.sg (mkF m 218 (Sh32 q1 q2 q3 zp zt p0 p1 p2 t0 t1 t2 b1770_e0 b1771_e0 b1794) [(.int (FWall zt zp t0 t1 t2 p0 p1 p2))]) (fun t k => st1809 t k) ?_
    have heq : (FWall zt zp t0 t1 t2 p0 p1 p2) = b1794 := by rw [hb1794]; unfold FWall; simp only [own_m t0 p0 lo_t0 hi_t0 lo_p0 hi_p0 up_p0, own_m t1 p1 lo_t1 hi_t1 lo_p1 hi_p1 up_p1, own_m t2 p2 lo_t2 hi_t2 lo_p2 hi_p2 up_p2, ite_not, eq_true qzp.1, if_true]
    refine GoV.sg (mkF m 228 (Sh32 q1 q2 q3 zp zt p0 p1 p2 t0 t1 t2 b1770_e0 b1771_e0 b1794) [(.int 1)]) (fun t k => XS.iload X1809.here hx rfl (hb hby at_218) rfl (XS.icmpNo X1809.here hx rfl (hb hby at_220) rfl (teq heq).2 (XS.iconst X1809.here hx rfl (hb hby at_223) (XS.goto X1809.here hx rfl (pc0 := 224) (pc' := 228) rfl (hb hby at_224) (by decide) (by decide) k)))) ?_
    refine GoV.retN X1809 hS0 (by rw [e1809]; exact f1771_74) hx (t := .boolean) Bd.returns (by simp) (hb hby at_228) Bd.notSynchronized ?_ (by decide) (by decide)
    exact ⟨rfl, N1809⟩
   by_cases c1797 : zt < zp
   ·refine GoV.sg (mkF m 209 (Sh31 q1 q2 q3 zp zt p0 p1 p2 t0 t1 t2 b1770_e0 b1771_e0) [(.int 0)]) (fun t k => XS.icmpYes X1771.here hx rfl (pc0 := 154) (pc' := 208) rfl (hb hby at_154) rfl (tlt c1797).1 (by decide) (by decide) (XS.iconst X1771.here hx rfl (hb hby at_208) k)) ?_
    exact J209_1795 _ _ X1771 rfl N1771 _ (by rw [if_pos c1797])
   ·refine GoV.sg (mkF m 166 (Sh31 q1 q2 q3 zp zt p0 p1 p2 t0 t1 t2 b1770_e0 b1771_e0) [(.int p0), (.int t0)]) (fun t k => XS.icmpNo X1771.here hx rfl (hb hby at_154) rfl (flt c1797).1 (XS.iload X1771.here hx rfl (hb hby at_157) rfl (XS.ifNo X1771.here hx rfl (hb hby at_159) rfl ((if0 _ _).trans (tlt qzp.1).2.2.2) (XS.iload X1771.here hx rfl (hb hby at_162) rfl (XS.iload X1771.here hx rfl (hb hby at_164) rfl k))))) ?_
    obtain ⟨_, T1798, L1798, X1798, hQ1798, st1798⟩ := own_callS X1771 hx hZ hown (y := Y18) (ww hw 77 rfl) (ww hw 78 rfl) (ww hw 3 rfl) (ww hw 79 rfl) (by decide) 0 (rm18 l Z a0 hw t0 p0 T1771.heap n0) (by decide) (by decide) rfl (by decide) (by decide) (g := (mkF m 166 (Sh31 q1 q2 q3 zp zt p0 p1 p2 t0 t1 t2 b1770_e0 b1771_e0) [(.int p0), (.int t0)])) rfl (by rw [hml]; rfl) (argsL := [(.int t0), (.int p0)]) (rest := []) (lenOf pd_28CC29Z rfl) rfl (by show 2 * 0 + _ ≤ _; exact Nat.le_of_eq rfl) (hb hby at_166)
    obtain ⟨rfl, N1798q, e1798⟩ := hQ1798
    have N1798 := Fr.app N1771 N1798q
    refine GoV.sg (mkF m 169 (Sh31 q1 q2 q3 zp zt p0 p1 p2 t0 t1 t2 b1770_e0 b1771_e0) [(.int (F18 t0 p0))]) (fun t k => st1798 t k) ?_
    by_cases c1799 : (F18 t0 p0) = (0 : Int32)
    ·refine GoV.sg (mkF m 209 (Sh31 q1 q2 q3 zp zt p0 p1 p2 t0 t1 t2 b1770_e0 b1771_e0) [(.int 0)]) (fun t k => XS.ifYes X1798.here hx rfl (pc0 := 169) (pc' := 208) rfl (hb hby at_169) rfl ((if0 _ _).trans (teq c1799).1) (by decide) (by decide) (XS.iconst X1798.here hx rfl (hb hby at_208) k)) ?_
     exact J209_1795 _ _ X1798 e1798 N1798 _ (by rw [if_neg c1797, if_pos c1799])
    ·refine GoV.sg (mkF m 175 (Sh31 q1 q2 q3 zp zt p0 p1 p2 t0 t1 t2 b1770_e0 b1771_e0) [(.int 1), (.int zp)]) (fun t k => XS.ifNo X1798.here hx rfl (hb hby at_169) rfl ((if0 _ _).trans (feq c1799).1) (XS.iload X1798.here hx rfl (hb hby at_172) rfl (XS.iconst X1798.here hx rfl (hb hby at_174) k))) ?_
     by_cases c1800 : (1 : Int32) < zp
     ·refine GoV.sg (mkF m 182 (Sh31 q1 q2 q3 zp zt p0 p1 p2 t0 t1 t2 b1770_e0 b1771_e0) [(.int p1), (.int t1)]) (fun t k => XS.icmpNo X1798.here hx rfl (hb hby at_175) rfl (tlt c1800).2.2.2 (XS.iload X1798.here hx rfl (hb hby at_178) rfl (XS.iload X1798.here hx rfl (hb hby at_180) rfl k))) ?_
      obtain ⟨_, T1801, L1801, X1801, hQ1801, st1801⟩ := own_callS X1798 hx hZ hown (y := Y18) (ww hw 77 rfl) (ww hw 78 rfl) (ww hw 3 rfl) (ww hw 79 rfl) (by decide) 0 (rm18 l Z a0 hw t1 p1 T1771.heap n0) (by decide) (by decide) e1798 (by decide) (by decide) (g := (mkF m 182 (Sh31 q1 q2 q3 zp zt p0 p1 p2 t0 t1 t2 b1770_e0 b1771_e0) [(.int p1), (.int t1)])) rfl (by rw [hml]; rfl) (argsL := [(.int t1), (.int p1)]) (rest := []) (lenOf pd_28CC29Z rfl) rfl (by show 2 * 0 + _ ≤ _; exact Nat.le_of_eq rfl) (hb hby at_182)
      obtain ⟨rfl, N1801q, e1801⟩ := hQ1801
      have N1801 := Fr.app N1798 N1801q
      refine GoV.sg (mkF m 185 (Sh31 q1 q2 q3 zp zt p0 p1 p2 t0 t1 t2 b1770_e0 b1771_e0) [(.int (F18 t1 p1))]) (fun t k => st1801 t k) ?_
      by_cases c1802 : (F18 t1 p1) = (0 : Int32)
      ·refine GoV.sg (mkF m 209 (Sh31 q1 q2 q3 zp zt p0 p1 p2 t0 t1 t2 b1770_e0 b1771_e0) [(.int 0)]) (fun t k => XS.ifYes X1801.here hx rfl (pc0 := 185) (pc' := 208) rfl (hb hby at_185) rfl ((if0 _ _).trans (teq c1802).1) (by decide) (by decide) (XS.iconst X1801.here hx rfl (hb hby at_208) k)) ?_
       exact J209_1795 _ _ X1801 e1801 N1801 _ (by rw [if_neg c1797, if_neg c1799, if_pos c1800, if_pos c1802])
      ·refine GoV.sg (mkF m 191 (Sh31 q1 q2 q3 zp zt p0 p1 p2 t0 t1 t2 b1770_e0 b1771_e0) [(.int 2), (.int zp)]) (fun t k => XS.ifNo X1801.here hx rfl (hb hby at_185) rfl ((if0 _ _).trans (feq c1802).1) (XS.iload X1801.here hx rfl (hb hby at_188) rfl (XS.iconst X1801.here hx rfl (hb hby at_190) k))) ?_
       by_cases c1803 : (2 : Int32) < zp
       ·refine GoV.sg (mkF m 198 (Sh31 q1 q2 q3 zp zt p0 p1 p2 t0 t1 t2 b1770_e0 b1771_e0) [(.int p2), (.int t2)]) (fun t k => XS.icmpNo X1801.here hx rfl (hb hby at_191) rfl (tlt c1803).2.2.2 (XS.iload X1801.here hx rfl (hb hby at_194) rfl (XS.iload X1801.here hx rfl (hb hby at_196) rfl k))) ?_
        obtain ⟨_, T1804, L1804, X1804, hQ1804, st1804⟩ := own_callS X1801 hx hZ hown (y := Y18) (ww hw 77 rfl) (ww hw 78 rfl) (ww hw 3 rfl) (ww hw 79 rfl) (by decide) 0 (rm18 l Z a0 hw t2 p2 T1771.heap n0) (by decide) (by decide) e1801 (by decide) (by decide) (g := (mkF m 198 (Sh31 q1 q2 q3 zp zt p0 p1 p2 t0 t1 t2 b1770_e0 b1771_e0) [(.int p2), (.int t2)])) rfl (by rw [hml]; rfl) (argsL := [(.int t2), (.int p2)]) (rest := []) (lenOf pd_28CC29Z rfl) rfl (by show 2 * 0 + _ ≤ _; exact Nat.le_of_eq rfl) (hb hby at_198)
        obtain ⟨rfl, N1804q, e1804⟩ := hQ1804
        have N1804 := Fr.app N1801 N1804q
        refine GoV.sg (mkF m 201 (Sh31 q1 q2 q3 zp zt p0 p1 p2 t0 t1 t2 b1770_e0 b1771_e0) [(.int (F18 t2 p2))]) (fun t k => st1804 t k) ?_
        by_cases c1805 : (F18 t2 p2) = (0 : Int32)
        ·refine GoV.sg (mkF m 209 (Sh31 q1 q2 q3 zp zt p0 p1 p2 t0 t1 t2 b1770_e0 b1771_e0) [(.int 0)]) (fun t k => XS.ifYes X1804.here hx rfl (pc0 := 201) (pc' := 208) rfl (hb hby at_201) rfl ((if0 _ _).trans (teq c1805).1) (by decide) (by decide) (XS.iconst X1804.here hx rfl (hb hby at_208) k)) ?_
         exact J209_1795 _ _ X1804 e1804 N1804 _ (by rw [if_neg c1797, if_neg c1799, if_pos c1800, if_neg c1802, if_pos c1803, if_pos c1805])
        ·refine GoV.sg (mkF m 209 (Sh31 q1 q2 q3 zp zt p0 p1 p2 t0 t1 t2 b1770_e0 b1771_e0) [(.int 1)]) (fun t k => XS.ifNo X1804.here hx rfl (hb hby at_201) rfl ((if0 _ _).trans (feq c1805).1) (XS.iconst X1804.here hx rfl (hb hby at_204) (XS.goto X1804.here hx rfl (pc0 := 205) (pc' := 209) rfl (hb hby at_205) (by decide) (by decide) k))) ?_
         exact J209_1795 _ _ X1804 e1804 N1804 _ (by rw [if_neg c1797, if_neg c1799, if_pos c1800, if_neg c1802, if_pos c1803, if_neg c1805])
       ·refine GoV.sg (mkF m 209 (Sh31 q1 q2 q3 zp zt p0 p1 p2 t0 t1 t2 b1770_e0 b1771_e0) [(.int 1)]) (fun t k => XS.icmpYes X1801.here hx rfl (pc0 := 191) (pc' := 204) rfl (hb hby at_191) rfl (flt c1803).2.2.2 (by decide) (by decide) (XS.iconst X1801.here hx rfl (hb hby at_204) (XS.goto X1801.here hx rfl (pc0 := 205) (pc' := 209) rfl (hb hby at_205) (by decide) (by decide) k))) ?_
        exact J209_1795 _ _ X1801 e1801 N1801 _ (by rw [if_neg c1797, if_neg c1799, if_pos c1800, if_neg c1802, if_neg c1803])
     ·refine GoV.sg (mkF m 191 (Sh31 q1 q2 q3 zp zt p0 p1 p2 t0 t1 t2 b1770_e0 b1771_e0) [(.int 2), (.int zp)]) (fun t k => XS.icmpYes X1798.here hx rfl (pc0 := 175) (pc' := 188) rfl (hb hby at_175) rfl (flt c1800).2.2.2 (by decide) (by decide) (XS.iload X1798.here hx rfl (hb hby at_188) rfl (XS.iconst X1798.here hx rfl (hb hby at_190) k))) ?_
      by_cases c1806 : (2 : Int32) < zp
      ·refine GoV.sg (mkF m 198 (Sh31 q1 q2 q3 zp zt p0 p1 p2 t0 t1 t2 b1770_e0 b1771_e0) [(.int p2), (.int t2)]) (fun t k => XS.icmpNo X1798.here hx rfl (hb hby at_191) rfl (tlt c1806).2.2.2 (XS.iload X1798.here hx rfl (hb hby at_194) rfl (XS.iload X1798.here hx rfl (hb hby at_196) rfl k))) ?_
       obtain ⟨_, T1807, L1807, X1807, hQ1807, st1807⟩ := own_callS X1798 hx hZ hown (y := Y18) (ww hw 77 rfl) (ww hw 78 rfl) (ww hw 3 rfl) (ww hw 79 rfl) (by decide) 0 (rm18 l Z a0 hw t2 p2 T1771.heap n0) (by decide) (by decide) e1798 (by decide) (by decide) (g := (mkF m 198 (Sh31 q1 q2 q3 zp zt p0 p1 p2 t0 t1 t2 b1770_e0 b1771_e0) [(.int p2), (.int t2)])) rfl (by rw [hml]; rfl) (argsL := [(.int t2), (.int p2)]) (rest := []) (lenOf pd_28CC29Z rfl) rfl (by show 2 * 0 + _ ≤ _; exact Nat.le_of_eq rfl) (hb hby at_198)
       obtain ⟨rfl, N1807q, e1807⟩ := hQ1807
       have N1807 := Fr.app N1798 N1807q
       refine GoV.sg (mkF m 201 (Sh31 q1 q2 q3 zp zt p0 p1 p2 t0 t1 t2 b1770_e0 b1771_e0) [(.int (F18 t2 p2))]) (fun t k => st1807 t k) ?_
       by_cases c1808 : (F18 t2 p2) = (0 : Int32)
       ·refine GoV.sg (mkF m 209 (Sh31 q1 q2 q3 zp zt p0 p1 p2 t0 t1 t2 b1770_e0 b1771_e0) [(.int 0)]) (fun t k => XS.ifYes X1807.here hx rfl (pc0 := 201) (pc' := 208) rfl (hb hby at_201) rfl ((if0 _ _).trans (teq c1808).1) (by decide) (by decide) (XS.iconst X1807.here hx rfl (hb hby at_208) k)) ?_
        exact J209_1795 _ _ X1807 e1807 N1807 _ (by rw [if_neg c1797, if_neg c1799, if_neg c1800, if_pos c1806, if_pos c1808])
       ·refine GoV.sg (mkF m 209 (Sh31 q1 q2 q3 zp zt p0 p1 p2 t0 t1 t2 b1770_e0 b1771_e0) [(.int 1)]) (fun t k => XS.ifNo X1807.here hx rfl (hb hby at_201) rfl ((if0 _ _).trans (feq c1808).1) (XS.iconst X1807.here hx rfl (hb hby at_204) (XS.goto X1807.here hx rfl (pc0 := 205) (pc' := 209) rfl (hb hby at_205) (by decide) (by decide) k))) ?_
        exact J209_1795 _ _ X1807 e1807 N1807 _ (by rw [if_neg c1797, if_neg c1799, if_neg c1800, if_pos c1806, if_neg c1808])
      ·refine GoV.sg (mkF m 209 (Sh31 q1 q2 q3 zp zt p0 p1 p2 t0 t1 t2 b1770_e0 b1771_e0) [(.int 1)]) (fun t k => XS.icmpYes X1798.here hx rfl (pc0 := 191) (pc' := 204) rfl (hb hby at_191) rfl (flt c1806).2.2.2 (by decide) (by decide) (XS.iconst X1798.here hx rfl (hb hby at_204) (XS.goto X1798.here hx rfl (pc0 := 205) (pc' := 209) rfl (hb hby at_205) (by decide) (by decide) k))) ?_
       exact J209_1795 _ _ X1798 e1798 N1798 _ (by rw [if_neg c1797, if_neg c1799, if_neg c1800, if_neg c1806])

set_option maxRecDepth 65536 in
set_option maxHeartbeats 40000000 in
theorem comes_1 {Post : Tables → Env → Array Value → State → Outcome → State → Prop} (hpost : ∀ tb e args s v u, (limb_1_1.after args s (.returned v) u = true ∧ limb_1_2.after args s (.returned v) u = true ∧ True) → ReturnedEndW s (.returned v) u (Jvm.fieldLocs frame_1_writes args s ++ Jvm.arrayLocs frame_1_arrays args s ++ Jvm.staticLocs frame_1_statics s) 32 1216 → Post tb e args s (.returned v) u) :
    ArmFor flags0 classFile x code maxLocals ret World_1 tables_1 room_1 Calls_1 rest_1 Pre_1 Post := by
  intro l hfl _ _ p e ha hc hk s m args below hf hA hF happ hP
  obtain ⟨hcalls, hrest, hpre⟩ := hP
  obtain ⟨-, -, -, hnamed, -, -, -, hat⟩ := (Spec.applies_iff hf).mp happ
  obtain ⟨hg, hn⟩ := and_e (Cond.before_iff.mp (show (Jvm.Cond.and given_1 narrow_1).before args s = true from hpre))
  obtain ⟨ga0, gb0⟩ := and_e hg
  obtain ⟨ga1, gb1⟩ := and_e gb0
  obtain ⟨ga2, gb2⟩ := and_e gb1
  obtain ⟨w0, w1, w2, rfl⟩ : ∃ w0 w1 w2 : Value, args = #[w0, w1, w2] := by
    have hs : args.size = 3 := by simpa [Cond.value, given_1] using ga0
    obtain ⟨L⟩ := args
    match L, hs with
    | [w0, w1, w2], _ => exact ⟨w0, w1, w2, rfl⟩
  have hw := fun d (hd : d ∈ tables_1) => atoms_spec (ws := Jvm.Cond.code x code maxLocals ret :: tables_1) hat d (List.mem_cons_of_mem _ hd)
  have hfit : Fit s := fun {y c} hc i hi => by
    obtain ⟨ha, rfl⟩ := Array.getElem?_eq_some_iff.mp hc
    have q := List.all_eq_true.mp ((Array.all_eq_true_iff_forall_mem.mp hF) _ (Array.getElem_mem ha)) i (List.mem_range.mpr hi)
    simpa [Array.getElem?_eq_getElem hi] using q
  obtain ⟨i0, ei0⟩ := isL_v ga1
  obtain rfl : w0 = (.long i0) := Option.some.inj ei0
  obtain ⟨i1, ei1⟩ := isL_v ga2
  obtain rfl : w1 = (.long i1) := Option.some.inj ei1
  obtain ⟨i2, ei2⟩ := is_v gb2
  obtain rfl : w2 = (.int i2) := Option.some.inj ei2
  obtain ⟨hsets, hown0⟩ := atoms_of _ (rest_1_c_eq ▸ (show rest_1_c.before _ s = true from hrest))
  have n5 := not_v (Cond.before_iff.mp (hsets _ (List.mem_of_getElem? (i := 2) rfl)))
  obtain ⟨cs, ecs⟩ := is_v (Cond.before_iff.mp (hsets _ (List.mem_of_getElem? (i := 1) rfl)))
  have S0 := Sta.start ecs (Or.inl (hsets _ (List.mem_of_getElem? (i := 0) rfl)))
  have ncs : ¬ (cs = (0 : Int32)) := gotF (Cond.eq_ints ecs (Term.int_eval (0))) n5
  obtain ⟨vf, evf, hvf⟩ := isR_v (Cond.before_iff.mp (hsets _ (List.mem_of_getElem? (i := 8) rfl)))
  have SF := Sta.start evf (Or.inl (hsets _ (List.mem_of_getElem? (i := 7) rfl)))
  have S1 := Sta.start (own_eqI (Cond.before_iff.mp (hsets _ (List.mem_of_getElem? (i := 12) rfl)))) (Or.inl (hsets _ (List.mem_of_getElem? (i := 11) rfl)))
  have S2 := Sta.start (own_eqI (Cond.before_iff.mp (hsets _ (List.mem_of_getElem? (i := 15) rfl)))) (Or.inl (hsets _ (List.mem_of_getElem? (i := 14) rfl)))
  have S3 := Sta.start (own_eqI (Cond.before_iff.mp (hsets _ (List.mem_of_getElem? (i := 18) rfl)))) (Or.inl (hsets _ (List.mem_of_getElem? (i := 17) rfl)))
  have hc7 : Jvm.Lit.constHeld s "java/lang/String" 7 := hcalls.1 ("java/lang/String", 7) (by simp [consts_1])
  obtain ⟨n, o, h1, h2, h3, v, L, rfl, ⟨hv, N⟩, hq⟩ := rm0 l s _ hw tables_1 i0 i1 i2 cs vf s.heap s.heap.size (Nat.le_refl _) S0 S1 S2 S3 SF hvf ncs (Old.start s) hc7 (hsets _ (List.mem_of_getElem? (i := 2) rfl)) p e ha hc hk s m _ below hf ((Spec.applies_iff_loose hf).mp happ).1 ⟨rfl, rfl, rfl⟩ trivial
  subst hv
  refine ⟨n, _, h1, h2, h3, hpost _ _ _ _ _ _ ⟨Cond.after_iff.mpr rfl, Cond.after_iff.mpr (eq_i res_at (Term.int_eval (1)) rfl), trivial⟩ ⟨hq.1, hq.2.1, hq.2.2.1, (hq.2.2.2.sift fun y hy => Or.inr (N y hy)).mono (by decide) (by decide)⟩⟩
theorem main_1_1 : Claimed_1_1 := comes_1 fun _ _ _ _ _ _ h hF => ⟨h.1, hF⟩
theorem main_1_2 : Claimed_1_2 := comes_1 fun _ _ _ _ _ _ h hF => ⟨h.2.1, hF⟩
end Jvm.Pilot.@@N@@
namespace Jvm.Pilot.@@N@@
open Jvm Jvm.ClassFile Sem Op Lib Jvm.Free Jvm.Stand Jvm.Pilot.@@N@@.Jvm.D
/-! MADE BY PROGRAM (witnessworld.py) out of the Statement's table words and the real class files: 20 classes; the members and pool entries that the words name. The judged class is class 1, her method 1. -/
namespace start1
open Jvm.ClassFile
def u (s : String) : CpInfo := .utf8 (stringToUtf16 s)
/-- a pool by its gaps: so many unusable entries, then the entry; so many at the end -/
def gap : Nat → List CpInfo → List CpInfo
  | 0, r => r
  | n + 1, r => .unusable :: gap n r
def poolList (es : List (Nat × CpInfo)) (last : Nat) : List CpInfo := es.foldr (fun e r => gap e.1 (e.2 :: r)) (gap last [])
def pool (es : List (Nat × CpInfo)) (last : Nat) : Array CpInfo := ⟨poolList es last⟩
def fileOf (pool : Array CpInfo) (this : Nat) (attrs : Array Attribute := #[]) (ms : Array MethodInfo := #[]) (fl : Nat := 33) (sup : Nat := 0) (ifs : Array Nat := #[]) (fds : Array FieldInfo := #[]) : ClassFile where
  minorVersion := 0
  majorVersion := 65
  constantPool := pool
  accessFlags := fl
  thisClass := this
  superClass := sup
  interfaces := ifs
  fields := fds
  methods := ms
  attributes := attrs
def plain (name : String) (sup : Option ClassId) : Class where
  name := name
  kind := .ordinary
  loader := none
  accessFlags := 33
  super := sup
  interfaces := #[]
  cf := none
  fields := #[]
  methods := #[]
  instanceTypes := #[]
  staticTypes := #[]
  resolved := #[]
  callSites := []
  init := .initialized
  statics := none
  mirror := none

def pool0 : Array CpInfo := pool [(5, u "<init>"), (0, u "()V"), (1, .class_ 10), (1, u "java/lang/Object")] 113

def k0c0 : Code := { maxStack := 0, maxLocals := 1, code := object_method_1_code, exceptionTable := #[], attributes := #[] }
def k0m0 : Method := { name := "<init>", desc := "()V", sig := { parameters := [], returnType := none }, accessFlags := 1, code := some k0c0 }
/-- java/lang/Object -/
def k0 : Class := { plain "java/lang/Object" none with
  accessFlags := 33
  interfaces := #[]
  cf := some (fileOf pool0 8 #[] #[{ accessFlags := 1, nameIndex := 5, descriptorIndex := 6, attributes := #[] }] 33 0 #[] #[])
  fields := #[]
  methods := #[k0m0]
  instanceTypes := #[]
  staticTypes := #[]
  resolved := Array.replicate 124 none
  statics := none }

def pool1 : Array CpInfo := pool [(2, .class_ 4), (1, u "java/lang/Object"), (0, u "<init>"), (0, u "()V"), (0, .long 65535), (1, .methodref 10 11), (0, .class_ 12), (0, .nameAndType 13 14), (0, u "com/example/throttle/throttle/SipSyntaxStartsWithIgnoringAsciiCasePinLaw"), (0, u "lowerPre"), (0, u "(C)C"), (0, .methodref 10 16), (0, .nameAndType 17 18), (0, u "textChar"), (0, u "(ICC)C"), (0, .methodref 10 20), (0, .nameAndType 21 22), (0, u "str"), (0, u "(ICCC)Ljava/lang/String;"), (0, .methodref 10 24), (0, .nameAndType 25 26), (0, u "matches"), (0, u "(CC)Z"), (0, .methodref 28 29), (0, .class_ 30), (0, .nameAndType 31 32), (0, u "com/example/throttle/throttle/SipSyntax"), (0, u "startsWithIgnoringAsciiCase"), (0, u "(Ljava/lang/String;Ljava/lang/String;)Z"), (0, .class_ 34), (0, u "java/lang/String"), (0, .methodref 33 36), (0, .nameAndType 5 37), (0, u "([C)V"), (2, u "law"), (0, u "(JJI)Z")] 3

def k1m0 : Method := { name := "<init>", desc := "()V", sig := { parameters := [], returnType := none }, accessFlags := 2, code := none }
def k1c1 : Code := { maxStack := 6, maxLocals := 16, code := code, exceptionTable := #[], attributes := #[] }
def k1m1 : Method := { name := "law", desc := "(JJI)Z", sig := { parameters := [.long, .long, .int], returnType := some .boolean }, accessFlags := 9, code := some k1c1 }
def k1c2 : Code := { maxStack := 2, maxLocals := 1, code := method_3_code, exceptionTable := #[], attributes := #[] }
def k1m2 : Method := { name := "lowerPre", desc := "(C)C", sig := { parameters := [.char], returnType := some .char }, accessFlags := 10, code := some k1c2 }
def k1c3 : Code := { maxStack := 2, maxLocals := 3, code := method_4_code, exceptionTable := #[], attributes := #[] }
def k1m3 : Method := { name := "textChar", desc := "(ICC)C", sig := { parameters := [.int, .char, .char], returnType := some .char }, accessFlags := 10, code := some k1c3 }
def k1c4 : Code := { maxStack := 3, maxLocals := 2, code := method_5_code, exceptionTable := #[], attributes := #[] }
def k1m4 : Method := { name := "matches", desc := "(CC)Z", sig := { parameters := [.char, .char], returnType := some .boolean }, accessFlags := 10, code := some k1c4 }
def k1c5 : Code := { maxStack := 6, maxLocals := 4, code := method_6_code, exceptionTable := #[], attributes := #[] }
def k1m5 : Method := { name := "str", desc := "(ICCC)Ljava/lang/String;", sig := { parameters := [.int, .char, .char, .char], returnType := some (.object "java/lang/String") }, accessFlags := 10, code := some k1c5 }
/-- com/example/throttle/throttle/SipSyntaxStartsWithIgnoringAsciiCasePinLaw -/
def k1 : Class := { plain "com/example/throttle/throttle/SipSyntaxStartsWithIgnoringAsciiCasePinLaw" (some 0) with
  accessFlags := 49
  interfaces := #[]
  cf := some (fileOf pool1 10 #[] #[{ accessFlags := 2, nameIndex := 5, descriptorIndex := 6, attributes := #[] }, { accessFlags := 9, nameIndex := 40, descriptorIndex := 41, attributes := #[] }, { accessFlags := 10, nameIndex := 13, descriptorIndex := 14, attributes := #[] }, { accessFlags := 10, nameIndex := 17, descriptorIndex := 18, attributes := #[] }, { accessFlags := 10, nameIndex := 25, descriptorIndex := 26, attributes := #[] }, { accessFlags := 10, nameIndex := 21, descriptorIndex := 22, attributes := #[] }] 49 2 #[] #[])
  fields := #[]
  methods := #[k1m0, k1m1, k1m2, k1m3, k1m4, k1m5]
  instanceTypes := #[]
  staticTypes := #[]
  resolved := Array.replicate 45 none
  statics := none }

def pool2 : Array CpInfo := pool [(1, .class_ 2), (0, u "java/io/Serializable"), (0, .class_ 4), (0, u "java/lang/Object")] 2

/-- java/io/Serializable -/
def k2 : Class := { plain "java/io/Serializable" (some 0) with
  accessFlags := 1537
  interfaces := #[]
  cf := some (fileOf pool2 1 #[] #[] 1537 3 #[] #[])
  fields := #[]
  methods := #[]
  instanceTypes := #[]
  staticTypes := #[]
  resolved := Array.replicate 7 none
  statics := none }

def pool3 : Array CpInfo := pool [(1, .class_ 2), (0, u "java/lang/Comparable"), (0, .class_ 4), (0, u "java/lang/Object")] 7

/-- java/lang/Comparable -/
def k3 : Class := { plain "java/lang/Comparable" (some 0) with
  accessFlags := 1537
  interfaces := #[]
  cf := some (fileOf pool3 1 #[] #[] 1537 3 #[] #[])
  fields := #[]
  methods := #[]
  instanceTypes := #[]
  staticTypes := #[]
  resolved := Array.replicate 12 none
  statics := none }

def pool4 : Array CpInfo := pool [(2, .class_ 4), (1, u "java/lang/CharSequence"), (42, .class_ 48), (0, u "java/lang/CharSequence$1CodePointIterator"), (10, .class_ 60), (0, u "java/lang/CharSequence$1CharIterator"), (5, .class_ 67), (0, u "java/lang/Object")] 63

/-- java/lang/CharSequence -/
def k4 : Class := { plain "java/lang/CharSequence" (some 0) with
  accessFlags := 1537
  interfaces := #[]
  cf := some (fileOf pool4 2 #[.nestMembers #[47, 59]] #[] 1537 66 #[] #[])
  fields := #[]
  methods := #[]
  instanceTypes := #[]
  staticTypes := #[]
  resolved := Array.replicate 131 none
  statics := none }

def pool5 : Array CpInfo := pool [(1, .class_ 2), (0, u "java/lang/constant/Constable"), (0, .class_ 4), (0, u "java/lang/Object")] 6

/-- java/lang/constant/Constable -/
def k5 : Class := { plain "java/lang/constant/Constable" (some 0) with
  accessFlags := 1537
  interfaces := #[]
  cf := some (fileOf pool5 1 #[] #[] 1537 3 #[] #[])
  fields := #[]
  methods := #[]
  instanceTypes := #[]
  staticTypes := #[]
  resolved := Array.replicate 11 none
  statics := none }

def pool6 : Array CpInfo := pool [(1, .class_ 2), (0, u "java/lang/constant/ConstantDesc"), (0, .class_ 4), (0, u "java/lang/Object")] 32

/-- java/lang/constant/ConstantDesc -/
def k6 : Class := { plain "java/lang/constant/ConstantDesc" (some 0) with
  accessFlags := 1537
  interfaces := #[]
  cf := some (fileOf pool6 1 #[] #[] 1537 3 #[] #[])
  fields := #[]
  methods := #[]
  instanceTypes := #[]
  staticTypes := #[]
  resolved := Array.replicate 37 none
  statics := none }

def pool7 : Array CpInfo := pool [(1, .methodref 2 3), (0, .class_ 4), (0, .nameAndType 5 6), (0, u "java/lang/Object"), (0, u "<init>"), (0, u "()V"), (0, .string 8), (0, u ""), (0, .fieldref 10 11), (0, .class_ 12), (0, .nameAndType 13 14), (0, u "java/lang/String"), (0, u "value"), (0, u "[B"), (0, .fieldref 10 16), (0, .nameAndType 17 18), (0, u "coder"), (0, u "B"), (2, u "hash"), (0, u "I"), (2, u "hashIsZero"), (0, u "Z"), (0, .methodref 10 28), (0, .nameAndType 5 29), (0, u "([CIILjava/lang/Void;)V"), (8, .fieldref 10 39), (0, .nameAndType 40 26), (0, u "COMPACT_STRINGS"), (1, .class_ 44), (1, u "java/lang/StringUTF16"), (0, u "compress"), (1, .methodref 42 48), (0, .nameAndType 49 50), (0, u "coderFromArrayLen"), (0, u "([BI)B"), (56, .class_ 109), (1, u "java/lang/StringLatin1"), (32, u "()Z"), (34, .methodref 42 178), (0, .nameAndType 45 179), (0, u "([CII)[B"), (154, u "()I"), (0, .methodref 10 336), (0, .nameAndType 17 337), (0, u "()B"), (25, u "([BI)C"), (27, u "(II)V"), (35, u "(I)C"), (64, .methodref 10 493), (0, .nameAndType 494 142), (0, u "isLatin1"), (0, .methodref 107 496), (0, .nameAndType 497 363), (0, u "charAt"), (0, .methodref 42 496), (2, u "checkIndex"), (5, u "length"), (67, .class_ 576), (0, u "java/lang/CharSequence"), (22, u "CASE_INSENSITIVE_ORDER"), (0, u "Ljava/util/Comparator;"), (409, u "([C)V"), (42, .fieldref 1054 1055), (0, .class_ 1056), (0, .nameAndType 1057 1058), (0, u "jdk/internal/util/Preconditions"), (0, u "SIOOBE_FORMATTER"), (0, u "Ljava/util/function/BiFunction;"), (0, .methodref 1054 1060), (0, .nameAndType 501 1061), (0, u "(IILjava/util/function/BiFunction;)I"), (39, u "serialPersistentFields"), (0, u "[Ljava/io/ObjectStreamField;"), (0, .class_ 1104), (0, u "java/lang/String$CaseInsensitiveComparator"), (1, .class_ 1107), (0, u "java/io/Serializable"), (0, .class_ 1109), (0, u "java/lang/Comparable"), (0, .class_ 1111), (0, u "java/lang/constant/Constable"), (0, .class_ 1113), (0, u "java/lang/constant/ConstantDesc"), (2, u "serialVersionUID"), (0, u "J"), (3, u "REPL"), (0, u "C"), (2, u "LATIN1"), (1, u "UTF16")] 323

def k7m0 : Method := { name := "<init>", desc := "()V", sig := { parameters := [], returnType := none }, accessFlags := 1, code := none }
def k7c1 : Code := { maxStack := 5, maxLocals := 2, code := jdk_42_method_3_code, exceptionTable := #[], attributes := #[] }
def k7m1 : Method := { name := "<init>", desc := "([C)V", sig := { parameters := [(.array .char)], returnType := none }, accessFlags := 1, code := some k7c1 }
def k7c2 : Code := { maxStack := 2, maxLocals := 1, code := jdk_42_method_54_code, exceptionTable := #[], attributes := #[] }
def k7m2 : Method := { name := "length", desc := "()I", sig := { parameters := [], returnType := some .int }, accessFlags := 1, code := some k7c2 }
def k7c3 : Code := { maxStack := 2, maxLocals := 2, code := jdk_42_method_56_code, exceptionTable := #[], attributes := #[] }
def k7m3 : Method := { name := "charAt", desc := "(I)C", sig := { parameters := [.int], returnType := some .char }, accessFlags := 1, code := some k7c3 }
def k7c4 : Code := { maxStack := 4, maxLocals := 6, code := jdk_42_method_149_code, exceptionTable := #[], attributes := #[] }
def k7m4 : Method := { name := "<init>", desc := "([CIILjava/lang/Void;)V", sig := { parameters := [(.array .char), .int, .int, (.object "java/lang/Void")], returnType := none }, accessFlags := 2, code := some k7c4 }
def k7c5 : Code := { maxStack := 1, maxLocals := 1, code := jdk_42_method_152_code, exceptionTable := #[], attributes := #[] }
def k7m5 : Method := { name := "coder", desc := "()B", sig := { parameters := [], returnType := some .byte }, accessFlags := 0, code := some k7c5 }
def k7c6 : Code := { maxStack := 1, maxLocals := 1, code := jdk_42_method_154_code, exceptionTable := #[], attributes := #[] }
def k7m6 : Method := { name := "isLatin1", desc := "()Z", sig := { parameters := [], returnType := some .boolean }, accessFlags := 0, code := some k7c6 }
def k7c7 : Code := { maxStack := 3, maxLocals := 2, code := jdk_42_method_155_code, exceptionTable := #[], attributes := #[] }
def k7m7 : Method := { name := "checkIndex", desc := "(II)V", sig := { parameters := [.int, .int], returnType := none }, accessFlags := 8, code := some k7c7 }
/-- java/lang/String -/
def k7 : Class := { plain "java/lang/String" (some 0) with
  accessFlags := 49
  interfaces := #[2, 3, 4, 5, 6]
  cf := some (fileOf pool7 10 #[.nestMembers #[1103]] #[{ accessFlags := 1, nameIndex := 5, descriptorIndex := 6, attributes := #[] }, { accessFlags := 1, nameIndex := 5, descriptorIndex := 1010, attributes := #[] }, { accessFlags := 1, nameIndex := 507, descriptorIndex := 334, attributes := #[] }, { accessFlags := 1, nameIndex := 497, descriptorIndex := 427, attributes := #[] }, { accessFlags := 2, nameIndex := 5, descriptorIndex := 29, attributes := #[] }, { accessFlags := 0, nameIndex := 17, descriptorIndex := 337, attributes := #[] }, { accessFlags := 0, nameIndex := 494, descriptorIndex := 142, attributes := #[] }, { accessFlags := 8, nameIndex := 501, descriptorIndex := 391, attributes := #[] }] 49 2 #[1106, 1108, 575, 1110, 1112] #[{ accessFlags := 18, nameIndex := 13, descriptorIndex := 14, attributes := #[] }, { accessFlags := 18, nameIndex := 17, descriptorIndex := 18, attributes := #[] }, { accessFlags := 2, nameIndex := 21, descriptorIndex := 22, attributes := #[] }, { accessFlags := 2, nameIndex := 25, descriptorIndex := 26, attributes := #[] }, { accessFlags := 26, nameIndex := 1116, descriptorIndex := 1117, attributes := #[] }, { accessFlags := 24, nameIndex := 40, descriptorIndex := 26, attributes := #[] }, { accessFlags := 26, nameIndex := 1101, descriptorIndex := 1102, attributes := #[] }, { accessFlags := 26, nameIndex := 1121, descriptorIndex := 1122, attributes := #[] }, { accessFlags := 25, nameIndex := 599, descriptorIndex := 600, attributes := #[] }, { accessFlags := 24, nameIndex := 1125, descriptorIndex := 18, attributes := #[] }, { accessFlags := 24, nameIndex := 1127, descriptorIndex := 18, attributes := #[] }])
  fields := #[{ name := "value", type := (.array .byte), accessFlags := 18, slot := 0, constantValue := 0 }, { name := "coder", type := .byte, accessFlags := 18, slot := 1, constantValue := 0 }, { name := "hash", type := .int, accessFlags := 2, slot := 2, constantValue := 0 }, { name := "hashIsZero", type := .boolean, accessFlags := 2, slot := 3, constantValue := 0 }, { name := "serialVersionUID", type := .long, accessFlags := 26, slot := 0, constantValue := 0 }, { name := "COMPACT_STRINGS", type := .boolean, accessFlags := 24, slot := 1, constantValue := 0 }, { name := "serialPersistentFields", type := (.array (.object "java/io/ObjectStreamField")), accessFlags := 26, slot := 2, constantValue := 0 }, { name := "REPL", type := .char, accessFlags := 26, slot := 3, constantValue := 0 }, { name := "CASE_INSENSITIVE_ORDER", type := (.object "java/util/Comparator"), accessFlags := 25, slot := 4, constantValue := 0 }, { name := "LATIN1", type := .byte, accessFlags := 24, slot := 5, constantValue := 0 }, { name := "UTF16", type := .byte, accessFlags := 24, slot := 6, constantValue := 0 }]
  methods := #[k7m0, k7m1, k7m2, k7m3, k7m4, k7m5, k7m6, k7m7]
  instanceTypes := #[(.array .byte), .byte, .int, .boolean]
  staticTypes := #[.long, .boolean, (.array (.object "java/io/ObjectStreamField")), .char, (.object "java/util/Comparator"), .byte, .byte]
  resolved := Array.replicate 1451 none
  statics := some 0 }

def pool8 : Array CpInfo := pool [(2, .class_ 4), (1, u "java/lang/Object"), (0, u "<init>"), (0, u "()V"), (0, .methodref 8 9), (0, .class_ 10), (0, .nameAndType 11 12), (0, u "java/lang/String"), (0, u "charAt"), (0, u "(I)C"), (4, .methodref 8 18), (0, .nameAndType 19 20), (0, u "length"), (0, u "()I"), (1, .class_ 24), (1, u "com/example/throttle/throttle/SipSyntax"), (15, u "startsWithIgnoringAsciiCase"), (0, u "(Ljava/lang/String;Ljava/lang/String;)Z")] 2

def k8m0 : Method := { name := "<init>", desc := "()V", sig := { parameters := [], returnType := none }, accessFlags := 2, code := none }
def k8c1 : Code := { maxStack := 3, maxLocals := 5, code := prog_10_method_5_code, exceptionTable := #[], attributes := #[] }
def k8m1 : Method := { name := "startsWithIgnoringAsciiCase", desc := "(Ljava/lang/String;Ljava/lang/String;)Z", sig := { parameters := [(.object "java/lang/String"), (.object "java/lang/String")], returnType := some .boolean }, accessFlags := 8, code := some k8c1 }
/-- com/example/throttle/throttle/SipSyntax -/
def k8 : Class := { plain "com/example/throttle/throttle/SipSyntax" (some 0) with
  accessFlags := 32
  interfaces := #[]
  cf := some (fileOf pool8 22 #[] #[{ accessFlags := 2, nameIndex := 5, descriptorIndex := 6, attributes := #[] }, { accessFlags := 8, nameIndex := 40, descriptorIndex := 41, attributes := #[] }] 32 2 #[] #[])
  fields := #[]
  methods := #[k8m0, k8m1]
  instanceTypes := #[]
  staticTypes := #[]
  resolved := Array.replicate 44 none
  statics := none }

def pool9 : Array CpInfo := pool [(3, .class_ 4), (0, u "java/lang/String"), (1, .class_ 8), (1, u "java/lang/Object"), (0, u "<init>"), (0, u "()V"), (0, .methodref 12 13), (0, .class_ 14), (0, .nameAndType 15 16), (0, u "java/lang/StringUTF16"), (0, u "newBytesLength"), (0, u "(I)I"), (3, .integer 1073741823), (23, .fieldref 12 45), (0, .nameAndType 46 47), (0, u "$assertionsDisabled"), (0, u "Z"), (0, .methodref 12 49), (0, .nameAndType 50 51), (0, u "length"), (0, u "([B)I"), (7, .fieldref 12 60), (0, .nameAndType 61 62), (0, u "HI_BYTE_SHIFT"), (0, u "I"), (0, .fieldref 12 64), (0, .nameAndType 65 62), (0, u "LO_BYTE_SHIFT"), (1, .methodref 12 68), (0, .nameAndType 69 70), (0, u "checkIndex"), (0, u "(I[B)V"), (0, .methodref 12 72), (0, .nameAndType 73 74), (0, u "getChar"), (0, u "([BI)C"), (32, .methodref 12 108), (0, .nameAndType 109 110), (0, u "newBytesFor"), (0, u "(I)[B"), (0, .methodref 12 112), (0, .nameAndType 113 114), (0, u "putChar"), (0, u "([BII)V"), (0, .methodref 12 116), (0, .nameAndType 117 118), (0, u "compress"), (0, u "([CI[BII)I"), (0, .methodref 12 120), (0, .nameAndType 121 122), (0, u "toBytes"), (0, u "([CII)[B"), (138, u "coderFromArrayLen"), (0, u "([BI)B"), (106, .class_ 371), (1, u "java/lang/StringUTF16$LinesSpliterator"), (20, u "charAt"), (21, .methodref 3 415), (0, .nameAndType 69 416), (0, u "(II)V"), (13, u "MAX_LENGTH"), (196, .class_ 628), (0, u "java/lang/StringUTF16$CodePointsSpliterator"), (0, .class_ 630), (0, u "java/lang/StringUTF16$CharsSpliterator")] 4

def k9m0 : Method := { name := "<init>", desc := "()V", sig := { parameters := [], returnType := none }, accessFlags := 0, code := none }
def k9c1 : Code := { maxStack := 1, maxLocals := 1, code := jdk_52_method_2_code, exceptionTable := #[], attributes := #[] }
def k9m1 : Method := { name := "newBytesFor", desc := "(I)[B", sig := { parameters := [.int], returnType := some (.array .byte) }, accessFlags := 9, code := some k9c1 }
def k9c2 : Code := { maxStack := 4, maxLocals := 1, code := jdk_52_method_3_code, exceptionTable := #[], attributes := #[] }
def k9m2 : Method := { name := "newBytesLength", desc := "(I)I", sig := { parameters := [.int], returnType := some .int }, accessFlags := 9, code := some k9c2 }
def k9c3 : Code := { maxStack := 4, maxLocals := 3, code := jdk_52_method_4_code, exceptionTable := #[], attributes := #[] }
def k9m3 : Method := { name := "putChar", desc := "([BII)V", sig := { parameters := [(.array .byte), .int, .int], returnType := none }, accessFlags := 8, code := some k9c3 }
def k9c4 : Code := { maxStack := 3, maxLocals := 2, code := jdk_52_method_5_code, exceptionTable := #[], attributes := #[] }
def k9m4 : Method := { name := "getChar", desc := "([BI)C", sig := { parameters := [(.array .byte), .int], returnType := some .char }, accessFlags := 8, code := some k9c4 }
def k9c5 : Code := { maxStack := 2, maxLocals := 1, code := jdk_52_method_6_code, exceptionTable := #[], attributes := #[] }
def k9m5 : Method := { name := "length", desc := "([B)I", sig := { parameters := [(.array .byte)], returnType := some .int }, accessFlags := 9, code := some k9c5 }
def k9c6 : Code := { maxStack := 4, maxLocals := 5, code := jdk_52_method_14_code, exceptionTable := #[], attributes := #[] }
def k9m6 : Method := { name := "toBytes", desc := "([CII)[B", sig := { parameters := [(.array .char), .int, .int], returnType := some (.array .byte) }, accessFlags := 9, code := some k9c6 }
def k9c7 : Code := { maxStack := 2, maxLocals := 2, code := jdk_52_method_15_code, exceptionTable := #[], attributes := #[] }
def k9m7 : Method := { name := "coderFromArrayLen", desc := "([BI)B", sig := { parameters := [(.array .byte), .int], returnType := some .byte }, accessFlags := 8, code := some k9c7 }
def k9c8 : Code := { maxStack := 5, maxLocals := 6, code := jdk_52_method_16_code, exceptionTable := #[], attributes := #[] }
def k9m8 : Method := { name := "compress", desc := "([CII)[B", sig := { parameters := [(.array .char), .int, .int], returnType := some (.array .byte) }, accessFlags := 9, code := some k9c8 }
def k9c9 : Code := { maxStack := 3, maxLocals := 7, code := jdk_52_method_21_code, exceptionTable := #[], attributes := #[] }
def k9m9 : Method := { name := "compress", desc := "([CI[BII)I", sig := { parameters := [(.array .char), .int, (.array .byte), .int, .int], returnType := some .int }, accessFlags := 9, code := some k9c9 }
def k9c10 : Code := { maxStack := 2, maxLocals := 2, code := jdk_52_method_83_code, exceptionTable := #[], attributes := #[] }
def k9m10 : Method := { name := "charAt", desc := "([BI)C", sig := { parameters := [(.array .byte), .int], returnType := some .char }, accessFlags := 9, code := some k9c10 }
def k9c11 : Code := { maxStack := 2, maxLocals := 2, code := jdk_52_method_91_code, exceptionTable := #[], attributes := #[] }
def k9m11 : Method := { name := "checkIndex", desc := "(I[B)V", sig := { parameters := [.int, (.array .byte)], returnType := none }, accessFlags := 9, code := some k9c11 }
/-- java/lang/StringUTF16 -/
def k9 : Class := { plain "java/lang/StringUTF16" (some 0) with
  accessFlags := 48
  interfaces := #[]
  cf := some (fileOf pool9 12 #[.nestMembers #[627, 629, 369]] #[{ accessFlags := 0, nameIndex := 9, descriptorIndex := 10, attributes := #[] }, { accessFlags := 9, nameIndex := 109, descriptorIndex := 110, attributes := #[] }, { accessFlags := 9, nameIndex := 15, descriptorIndex := 16, attributes := #[] }, { accessFlags := 8, nameIndex := 113, descriptorIndex := 114, attributes := #[] }, { accessFlags := 8, nameIndex := 73, descriptorIndex := 74, attributes := #[] }, { accessFlags := 9, nameIndex := 50, descriptorIndex := 51, attributes := #[] }, { accessFlags := 9, nameIndex := 121, descriptorIndex := 122, attributes := #[] }, { accessFlags := 8, nameIndex := 261, descriptorIndex := 262, attributes := #[] }, { accessFlags := 9, nameIndex := 117, descriptorIndex := 122, attributes := #[] }, { accessFlags := 9, nameIndex := 117, descriptorIndex := 118, attributes := #[] }, { accessFlags := 9, nameIndex := 392, descriptorIndex := 74, attributes := #[] }, { accessFlags := 9, nameIndex := 69, descriptorIndex := 70, attributes := #[] }] 48 6 #[] #[{ accessFlags := 26, nameIndex := 61, descriptorIndex := 62, attributes := #[] }, { accessFlags := 26, nameIndex := 65, descriptorIndex := 62, attributes := #[] }, { accessFlags := 24, nameIndex := 430, descriptorIndex := 62, attributes := #[] }, { accessFlags := 4120, nameIndex := 46, descriptorIndex := 47, attributes := #[] }])
  fields := #[{ name := "HI_BYTE_SHIFT", type := .int, accessFlags := 26, slot := 0, constantValue := 0 }, { name := "LO_BYTE_SHIFT", type := .int, accessFlags := 26, slot := 1, constantValue := 0 }, { name := "MAX_LENGTH", type := .int, accessFlags := 24, slot := 2, constantValue := 0 }, { name := "$assertionsDisabled", type := .boolean, accessFlags := 4120, slot := 3, constantValue := 0 }]
  methods := #[k9m0, k9m1, k9m2, k9m3, k9m4, k9m5, k9m6, k9m7, k9m8, k9m9, k9m10, k9m11]
  instanceTypes := #[]
  staticTypes := #[.int, .int, .int, .boolean]
  resolved := Array.replicate 635 none
  statics := some 1 }

def pool10 : Array CpInfo := pool [(2, .class_ 4), (1, u "java/lang/Object"), (0, u "<init>"), (0, u "()V"), (17, .class_ 26), (1, u "jdk/internal/util/Preconditions"), (6, u "checkIndex"), (21, .class_ 56), (0, u "jdk/internal/util/Preconditions$4"), (57, .class_ 115), (0, u "jdk/internal/util/Preconditions$1"), (7, u "SIOOBE_FORMATTER"), (0, u "Ljava/util/function/BiFunction;"), (0, .class_ 126), (0, u "jdk/internal/util/Preconditions$2"), (3, u "AIOOBE_FORMATTER"), (0, .class_ 132), (0, u "jdk/internal/util/Preconditions$3"), (3, u "IOOBE_FORMATTER"), (41, u "(IILjava/util/function/BiFunction;)I")] 15

def k10m0 : Method := { name := "<init>", desc := "()V", sig := { parameters := [], returnType := none }, accessFlags := 1, code := none }
def k10c1 : Code := { maxStack := 3, maxLocals := 3, code := jdk_41_method_11_code, exceptionTable := #[], attributes := #[] }
def k10m1 : Method := { name := "checkIndex", desc := "(IILjava/util/function/BiFunction;)I", sig := { parameters := [.int, .int, (.object "java/util/function/BiFunction")], returnType := some .int }, accessFlags := 9, code := some k10c1 }
/-- jdk/internal/util/Preconditions -/
def k10 : Class := { plain "jdk/internal/util/Preconditions" (some 0) with
  accessFlags := 33
  interfaces := #[]
  cf := some (fileOf pool10 24 #[.nestMembers #[55, 131, 125, 114]] #[{ accessFlags := 1, nameIndex := 5, descriptorIndex := 6, attributes := #[] }, { accessFlags := 9, nameIndex := 33, descriptorIndex := 178, attributes := #[] }] 33 2 #[] #[{ accessFlags := 25, nameIndex := 123, descriptorIndex := 124, attributes := #[] }, { accessFlags := 25, nameIndex := 130, descriptorIndex := 124, attributes := #[] }, { accessFlags := 25, nameIndex := 136, descriptorIndex := 124, attributes := #[] }])
  fields := #[{ name := "SIOOBE_FORMATTER", type := (.object "java/util/function/BiFunction"), accessFlags := 25, slot := 0, constantValue := 0 }, { name := "AIOOBE_FORMATTER", type := (.object "java/util/function/BiFunction"), accessFlags := 25, slot := 1, constantValue := 0 }, { name := "IOOBE_FORMATTER", type := (.object "java/util/function/BiFunction"), accessFlags := 25, slot := 2, constantValue := 0 }]
  methods := #[k10m0, k10m1]
  instanceTypes := #[]
  staticTypes := #[(.object "java/util/function/BiFunction"), (.object "java/util/function/BiFunction"), (.object "java/util/function/BiFunction")]
  resolved := Array.replicate 194 none
  statics := some 2 }

def pool11 : Array CpInfo := pool [(1, .class_ 2), (0, u "java/lang/String"), (1, .class_ 6), (1, u "java/lang/Object"), (0, u "<init>"), (0, u "()V"), (0, .methodref 1 10), (0, .nameAndType 11 12), (0, u "checkIndex"), (0, u "(II)V"), (1, .class_ 16), (1, u "java/lang/StringLatin1"), (36, u "([BI)C"), (67, u "$assertionsDisabled"), (0, u "Z"), (98, .class_ 223), (1, u "java/lang/StringLatin1$LinesSpliterator"), (28, u "charAt"), (137, .class_ 391), (0, u "java/lang/StringLatin1$CharsSpliterator")] 3

def k11m0 : Method := { name := "<init>", desc := "()V", sig := { parameters := [], returnType := none }, accessFlags := 0, code := none }
def k11c1 : Code := { maxStack := 2, maxLocals := 2, code := jdk_43_method_2_code, exceptionTable := #[], attributes := #[] }
def k11m1 : Method := { name := "charAt", desc := "([BI)C", sig := { parameters := [(.array .byte), .int], returnType := some .char }, accessFlags := 9, code := some k11c1 }
/-- java/lang/StringLatin1 -/
def k11 : Class := { plain "java/lang/StringLatin1" (some 0) with
  accessFlags := 48
  interfaces := #[]
  cf := some (fileOf pool11 14 #[.nestMembers #[390, 221]] #[{ accessFlags := 0, nameIndex := 7, descriptorIndex := 8, attributes := #[] }, { accessFlags := 9, nameIndex := 252, descriptorIndex := 53, attributes := #[] }] 48 4 #[] #[{ accessFlags := 4120, nameIndex := 121, descriptorIndex := 122, attributes := #[] }])
  fields := #[{ name := "$assertionsDisabled", type := .boolean, accessFlags := 4120, slot := 0, constantValue := 0 }]
  methods := #[k11m0, k11m1]
  instanceTypes := #[]
  staticTypes := #[.boolean]
  resolved := Array.replicate 395 none
  statics := none }

def pool12 : Array CpInfo := pool [(9, u "<init>"), (6, .class_ 18), (1, u "java/lang/Object"), (0, u "()V"), (1, .class_ 23), (1, u "jdk/internal/util/ArraysSupport"), (0, u "LOG2_ARRAY_LONG_INDEX_SCALE"), (0, u "I"), (2, u "U"), (0, u "Ljdk/internal/misc/Unsafe;"), (8, u "BIG_ENDIAN"), (0, u "Z"), (8, u "LOG2_BYTE_BIT_SIZE"), (4, u "LOG2_ARRAY_INT_INDEX_SCALE"), (54, u "JLA"), (0, u "Ljdk/internal/access/JavaLangAccess;"), (11, u "LOG2_ARRAY_BOOLEAN_INDEX_SCALE"), (9, u "LOG2_ARRAY_BYTE_INDEX_SCALE"), (5, u "LOG2_ARRAY_CHAR_INDEX_SCALE"), (5, u "LOG2_ARRAY_SHORT_INDEX_SCALE"), (18, u "LOG2_ARRAY_FLOAT_INDEX_SCALE"), (24, u "LOG2_ARRAY_DOUBLE_INDEX_SCALE"), (89, u "T_BOOLEAN"), (2, u "T_CHAR"), (1, u "T_FLOAT"), (1, u "T_DOUBLE"), (1, u "T_BYTE"), (1, u "T_SHORT"), (1, u "T_INT"), (1, u "T_LONG"), (1, u "SOFT_MAX_ARRAY_LENGTH")] 83

def k12m0 : Method := { name := "<init>", desc := "()V", sig := { parameters := [], returnType := none }, accessFlags := 2, code := none }
/-- jdk/internal/util/ArraysSupport -/
def k12 : Class := { plain "jdk/internal/util/ArraysSupport" (some 0) with
  accessFlags := 33
  interfaces := #[]
  cf := some (fileOf pool12 21 #[] #[{ accessFlags := 2, nameIndex := 9, descriptorIndex := 19, attributes := #[] }] 33 16 #[] #[{ accessFlags := 24, nameIndex := 28, descriptorIndex := 29, attributes := #[] }, { accessFlags := 26, nameIndex := 38, descriptorIndex := 39, attributes := #[] }, { accessFlags := 25, nameIndex := 121, descriptorIndex := 25, attributes := #[] }, { accessFlags := 25, nameIndex := 131, descriptorIndex := 25, attributes := #[] }, { accessFlags := 25, nameIndex := 137, descriptorIndex := 25, attributes := #[] }, { accessFlags := 25, nameIndex := 143, descriptorIndex := 25, attributes := #[] }, { accessFlags := 25, nameIndex := 53, descriptorIndex := 25, attributes := #[] }, { accessFlags := 25, nameIndex := 24, descriptorIndex := 25, attributes := #[] }, { accessFlags := 25, nameIndex := 162, descriptorIndex := 25, attributes := #[] }, { accessFlags := 25, nameIndex := 187, descriptorIndex := 25, attributes := #[] }, { accessFlags := 26, nameIndex := 48, descriptorIndex := 25, attributes := #[] }, { accessFlags := 25, nameIndex := 277, descriptorIndex := 25, attributes := #[] }, { accessFlags := 25, nameIndex := 280, descriptorIndex := 25, attributes := #[] }, { accessFlags := 25, nameIndex := 282, descriptorIndex := 25, attributes := #[] }, { accessFlags := 25, nameIndex := 284, descriptorIndex := 25, attributes := #[] }, { accessFlags := 25, nameIndex := 286, descriptorIndex := 25, attributes := #[] }, { accessFlags := 25, nameIndex := 288, descriptorIndex := 25, attributes := #[] }, { accessFlags := 25, nameIndex := 290, descriptorIndex := 25, attributes := #[] }, { accessFlags := 25, nameIndex := 292, descriptorIndex := 25, attributes := #[] }, { accessFlags := 26, nameIndex := 108, descriptorIndex := 109, attributes := #[] }, { accessFlags := 25, nameIndex := 294, descriptorIndex := 25, attributes := #[] }])
  fields := #[{ name := "U", type := (.object "jdk/internal/misc/Unsafe"), accessFlags := 24, slot := 0, constantValue := 0 }, { name := "BIG_ENDIAN", type := .boolean, accessFlags := 26, slot := 1, constantValue := 0 }, { name := "LOG2_ARRAY_BOOLEAN_INDEX_SCALE", type := .int, accessFlags := 25, slot := 2, constantValue := 0 }, { name := "LOG2_ARRAY_BYTE_INDEX_SCALE", type := .int, accessFlags := 25, slot := 3, constantValue := 0 }, { name := "LOG2_ARRAY_CHAR_INDEX_SCALE", type := .int, accessFlags := 25, slot := 4, constantValue := 0 }, { name := "LOG2_ARRAY_SHORT_INDEX_SCALE", type := .int, accessFlags := 25, slot := 5, constantValue := 0 }, { name := "LOG2_ARRAY_INT_INDEX_SCALE", type := .int, accessFlags := 25, slot := 6, constantValue := 0 }, { name := "LOG2_ARRAY_LONG_INDEX_SCALE", type := .int, accessFlags := 25, slot := 7, constantValue := 0 }, { name := "LOG2_ARRAY_FLOAT_INDEX_SCALE", type := .int, accessFlags := 25, slot := 8, constantValue := 0 }, { name := "LOG2_ARRAY_DOUBLE_INDEX_SCALE", type := .int, accessFlags := 25, slot := 9, constantValue := 0 }, { name := "LOG2_BYTE_BIT_SIZE", type := .int, accessFlags := 26, slot := 10, constantValue := 0 }, { name := "T_BOOLEAN", type := .int, accessFlags := 25, slot := 11, constantValue := 0 }, { name := "T_CHAR", type := .int, accessFlags := 25, slot := 12, constantValue := 0 }, { name := "T_FLOAT", type := .int, accessFlags := 25, slot := 13, constantValue := 0 }, { name := "T_DOUBLE", type := .int, accessFlags := 25, slot := 14, constantValue := 0 }, { name := "T_BYTE", type := .int, accessFlags := 25, slot := 15, constantValue := 0 }, { name := "T_SHORT", type := .int, accessFlags := 25, slot := 16, constantValue := 0 }, { name := "T_INT", type := .int, accessFlags := 25, slot := 17, constantValue := 0 }, { name := "T_LONG", type := .int, accessFlags := 25, slot := 18, constantValue := 0 }, { name := "JLA", type := (.object "jdk/internal/access/JavaLangAccess"), accessFlags := 26, slot := 19, constantValue := 0 }, { name := "SOFT_MAX_ARRAY_LENGTH", type := .int, accessFlags := 25, slot := 20, constantValue := 0 }]
  methods := #[k12m0]
  instanceTypes := #[]
  staticTypes := #[(.object "jdk/internal/misc/Unsafe"), .boolean, .int, .int, .int, .int, .int, .int, .int, .int, .int, .int, .int, .int, .int, .int, .int, .int, .int, (.object "jdk/internal/access/JavaLangAccess"), .int]
  resolved := Array.replicate 378 none
  statics := none }

def pool13 : Array CpInfo := pool [(1, u "java/lang/Cloneable"), (0, .class_ 1), (0, u "java/lang/Object"), (0, .class_ 3)] 3

/-- java/lang/Cloneable -/
def k13 : Class := { plain "java/lang/Cloneable" (some 0) with
  accessFlags := 1537
  interfaces := #[]
  cf := some (fileOf pool13 2 #[] #[] 1537 4 #[] #[])
  fields := #[]
  methods := #[]
  instanceTypes := #[]
  staticTypes := #[]
  resolved := Array.replicate 8 none
  statics := none }

/-- the primitive byte -/
def k14 : Class := { plain "byte" none with kind := .primitive 'B', accessFlags := 0x411 }
/-- [B -/
def k15 : Class := { plain "[B" (some 0) with kind := .array 14 .byte, interfaces := #[13, 2], accessFlags := 1041 }

/-- the primitive char -/
def k16 : Class := { plain "char" none with kind := .primitive 'C', accessFlags := 0x411 }
/-- [C -/
def k17 : Class := { plain "[C" (some 0) with kind := .array 16 .char, interfaces := #[13, 2], accessFlags := 1041 }

/-- the primitive int -/
def k18 : Class := { plain "int" none with kind := .primitive 'I', accessFlags := 0x411 }
/-- [I -/
def k19 : Class := { plain "[I" (some 0) with kind := .array 18 .int, interfaces := #[13, 2], accessFlags := 1041 }

def heap : Heap := #[{ cls := 7, slots := #[.long 0, .int 1, .null, .int 0, .null, .int 0, .int 0], vm := .statics 7 },
  { cls := 9, slots := #[.int 0, .int 8, .int 0, .int 1], vm := .statics 9 },
  { cls := 10, slots := #[.null, .null, .null], vm := .statics 10 }]
def classes : Array Class := #[k0, k1, k2, k3, k4, k5, k6, k7, k8, k9, k10, k11, k12, k13, k14, k15, k16, k17, k18, k19]
def interned : List (Array UInt16 × Addr) := []
def slotsUsed : Nat := 14
def theMethod : MethodId := ⟨1, 1⟩
def args0 : Array Value := #[.long 50, .long 77, .int 5]
def aboutOver (below : List Frame) : State where
  vm := { classes := classes, interned := interned.toArray }
  heap := heap
  slotsUsed := slotsUsed
  threads := #[{ frames := .invoking theMethod args0 :: below }]
def below0 : List Frame := [.native { method := ⟨0, 0⟩, args := #[] }]
def about1 : State := aboutOver below0
def p0 : Program := .bare "" "" ""
def e0 : Env := launch0.env 0 0 0
theorem w_frames : about1.frames = Frame.invoking theMethod args0 :: below0 := rfl
set_option maxRecDepth 65536 in
theorem w_args : argsFit about1.vm theMethod args0 = true := by decide +kernel
set_option maxRecDepth 65536 in
theorem w_heap : heapFits about1 = true := by decide +kernel
set_option maxRecDepth 65536 in
theorem w_runnable : about1.curStatus? = some .runnable := by decide +kernel
set_option maxRecDepth 65536 in
theorem w_alone : about1.alone = true := by decide +kernel
set_option maxRecDepth 65536 in
theorem w_named : about1.methodNamed? x = some theMethod := by decide +kernel
set_option maxRecDepth 65536 in
theorem w_hears : about1.hears theMethod below0 = true := by decide +kernel
set_option maxRecDepth 65536 in
theorem w_ripe : about1.ripe theMethod args0 below0 = true := by decide +kernel
theorem w_running : about1.status = .running := rfl
set_option maxRecDepth 65536 in
theorem w_room : about1.hasRoom e0.platform room_1 = true :=
  launch0.hasRoom_least _ room_1 (by decide +kernel) (by decide +kernel) (by decide +kernel) (by decide +kernel) (by decide +kernel) (by decide +kernel)
theorem allAtoms_all (ts : List Jvm.Cond) (a : Array Jvm.Value) (st : Jvm.State) : (allAtoms ts).before a st = ts.all (fun c => c.before a st) := by
  induction ts with
  | nil => rfl
  | cons c t ih =>
    show (Jvm.Cond.and c (allAtoms t)).before a st = _
    rw [Jvm.Cond.before_and, ih, List.all_cons]
def words1 : List Jvm.Cond := Jvm.Cond.code x code maxLocals ret :: tables_1
/-- a 'code' word, met by the world's own term for the bytes: nothing is compared byte by byte -/
theorem code_word {y : MethodName} {bytes : ByteArray} {mx : Nat} {rt : Option FieldType} {a : Array Value} {s : State} {m : MethodId} {meth : Method} {c : Code} (h1 : s.methodNamed? y = some m) (h2 : s.vm.method? m = some meth) (h3 : meth.code = some c) (h4 : c.code = bytes)
    (h5 : (c.maxLocals == mx && c.exceptionTable.isEmpty && decide (c.maxStack ≤ mostOperands) && decide (meth.sig.returnType = rt) && !meth.locks && decide (parseMethodDescriptor y.desc = some meth.sig)) = true) : (Jvm.Cond.code y bytes mx rt).before a s = true := by
  simp only [Bool.and_eq_true, beq_iff_eq, Bool.not_eq_true', decide_eq_true_eq] at h5
  obtain ⟨⟨⟨⟨⟨g1, g2⟩, g3⟩, g4⟩, g5⟩, g6⟩ := h5
  simp [Cond.before, Cond.holds, Cond.value, h1, h2, h3, h4, g1, g2, g3, g4, g5, g6]
def isCode : Jvm.Cond → Bool
  | .code _ _ _ _ => true
  | _ => false
theorem all_split {L : List Jvm.Cond} {P : Jvm.Cond → Bool} (h1 : L.all (fun c => isCode c || P c) = true) (h2 : ∀ c ∈ L.filter isCode, P c = true) : L.all P = true := by
  refine List.all_eq_true.mpr fun c hc => ?_
  have h := List.all_eq_true.mp h1 c hc
  rcases Bool.eq_false_or_eq_true (isCode c) with hi | hi
  · exact h2 c (List.mem_filter.mpr ⟨hc, hi⟩)
  · simpa [hi] using h
set_option maxRecDepth 65536 in
theorem w_c0 : (Jvm.Cond.code x code maxLocals ret).before args0 about1 = true := code_word (m := ⟨1, 1⟩) (meth := k1m1) (c := k1c1) (by decide +kernel) rfl rfl rfl (by decide +kernel)
set_option maxRecDepth 65536 in
theorem w_c1 : (Jvm.Cond.code ({ cls := "com/example/throttle/throttle/SipSyntaxStartsWithIgnoringAsciiCasePinLaw", name := "lowerPre", desc := "(C)C" } : Jvm.MethodName) method_3_code (1 : Nat) (Option.some Jvm.ClassFile.FieldType.char)).before args0 about1 = true := code_word (m := ⟨1, 2⟩) (meth := k1m2) (c := k1c2) (by decide +kernel) rfl rfl rfl (by decide +kernel)
set_option maxRecDepth 65536 in
theorem w_c2 : (Jvm.Cond.code ({ cls := "com/example/throttle/throttle/SipSyntaxStartsWithIgnoringAsciiCasePinLaw", name := "textChar", desc := "(ICC)C" } : Jvm.MethodName) method_4_code (3 : Nat) (Option.some Jvm.ClassFile.FieldType.char)).before args0 about1 = true := code_word (m := ⟨1, 3⟩) (meth := k1m3) (c := k1c3) (by decide +kernel) rfl rfl rfl (by decide +kernel)
set_option maxRecDepth 65536 in
theorem w_c3 : (Jvm.Cond.code ({ cls := "com/example/throttle/throttle/SipSyntaxStartsWithIgnoringAsciiCasePinLaw", name := "str", desc := "(ICCC)Ljava/lang/String;" } : Jvm.MethodName) method_6_code (4 : Nat) (Option.some (Jvm.ClassFile.FieldType.object "java/lang/String"))).before args0 about1 = true := code_word (m := ⟨1, 5⟩) (meth := k1m5) (c := k1c5) (by decide +kernel) rfl rfl rfl (by decide +kernel)
set_option maxRecDepth 65536 in
theorem w_c4 : (Jvm.Cond.code ({ cls := "java/lang/String", name := "<init>", desc := "([C)V" } : Jvm.MethodName) jdk_42_method_3_code (2 : Nat) (Option.none : Option Jvm.ClassFile.FieldType)).before args0 about1 = true := code_word (m := ⟨7, 1⟩) (meth := k7m1) (c := k7c1) (by decide +kernel) rfl rfl rfl (by decide +kernel)
set_option maxRecDepth 65536 in
theorem w_c5 : (Jvm.Cond.code ({ cls := "java/lang/String", name := "<init>", desc := "([CIILjava/lang/Void;)V" } : Jvm.MethodName) jdk_42_method_149_code (6 : Nat) (Option.none : Option Jvm.ClassFile.FieldType)).before args0 about1 = true := code_word (m := ⟨7, 4⟩) (meth := k7m4) (c := k7c4) (by decide +kernel) rfl rfl rfl (by decide +kernel)
set_option maxRecDepth 65536 in
theorem w_c6 : (Jvm.Cond.code ({ cls := "java/lang/Object", name := "<init>", desc := "()V" } : Jvm.MethodName) object_method_1_code (1 : Nat) (Option.none : Option Jvm.ClassFile.FieldType)).before args0 about1 = true := code_word (m := ⟨0, 0⟩) (meth := k0m0) (c := k0c0) (by decide +kernel) rfl rfl rfl (by decide +kernel)
set_option maxRecDepth 65536 in
theorem w_c7 : (Jvm.Cond.code ({ cls := "com/example/throttle/throttle/SipSyntax", name := "startsWithIgnoringAsciiCase", desc := "(Ljava/lang/String;Ljava/lang/String;)Z" } : Jvm.MethodName) prog_10_method_5_code (5 : Nat) (Option.some Jvm.ClassFile.FieldType.boolean)).before args0 about1 = true := code_word (m := ⟨8, 1⟩) (meth := k8m1) (c := k8c1) (by decide +kernel) rfl rfl rfl (by decide +kernel)
set_option maxRecDepth 65536 in
theorem w_c8 : (Jvm.Cond.code ({ cls := "java/lang/String", name := "length", desc := "()I" } : Jvm.MethodName) jdk_42_method_54_code (1 : Nat) (Option.some Jvm.ClassFile.FieldType.int)).before args0 about1 = true := code_word (m := ⟨7, 2⟩) (meth := k7m2) (c := k7c2) (by decide +kernel) rfl rfl rfl (by decide +kernel)
set_option maxRecDepth 65536 in
theorem w_c9 : (Jvm.Cond.code ({ cls := "java/lang/String", name := "coder", desc := "()B" } : Jvm.MethodName) jdk_42_method_152_code (1 : Nat) (Option.some Jvm.ClassFile.FieldType.byte)).before args0 about1 = true := code_word (m := ⟨7, 5⟩) (meth := k7m5) (c := k7c5) (by decide +kernel) rfl rfl rfl (by decide +kernel)
set_option maxRecDepth 65536 in
theorem w_c10 : (Jvm.Cond.code ({ cls := "java/lang/StringUTF16", name := "compress", desc := "([CII)[B" } : Jvm.MethodName) jdk_52_method_16_code (6 : Nat) (Option.some (Jvm.ClassFile.FieldType.array Jvm.ClassFile.FieldType.byte))).before args0 about1 = true := code_word (m := ⟨9, 8⟩) (meth := k9m8) (c := k9c8) (by decide +kernel) rfl rfl rfl (by decide +kernel)
set_option maxRecDepth 65536 in
theorem w_c11 : (Jvm.Cond.code ({ cls := "java/lang/StringUTF16", name := "compress", desc := "([CI[BII)I" } : Jvm.MethodName) jdk_52_method_21_code (7 : Nat) (Option.some Jvm.ClassFile.FieldType.int)).before args0 about1 = true := code_word (m := ⟨9, 9⟩) (meth := k9m9) (c := k9c9) (by decide +kernel) rfl rfl rfl (by decide +kernel)
set_option maxRecDepth 65536 in
theorem w_c12 : (Jvm.Cond.code ({ cls := "java/lang/StringUTF16", name := "coderFromArrayLen", desc := "([BI)B" } : Jvm.MethodName) jdk_52_method_15_code (2 : Nat) (Option.some Jvm.ClassFile.FieldType.byte)).before args0 about1 = true := code_word (m := ⟨9, 7⟩) (meth := k9m7) (c := k9c7) (by decide +kernel) rfl rfl rfl (by decide +kernel)
set_option maxRecDepth 65536 in
theorem w_c13 : (Jvm.Cond.code ({ cls := "java/lang/StringUTF16", name := "toBytes", desc := "([CII)[B" } : Jvm.MethodName) jdk_52_method_14_code (5 : Nat) (Option.some (Jvm.ClassFile.FieldType.array Jvm.ClassFile.FieldType.byte))).before args0 about1 = true := code_word (m := ⟨9, 6⟩) (meth := k9m6) (c := k9c6) (by decide +kernel) rfl rfl rfl (by decide +kernel)
set_option maxRecDepth 65536 in
theorem w_c14 : (Jvm.Cond.code ({ cls := "java/lang/StringUTF16", name := "newBytesFor", desc := "(I)[B" } : Jvm.MethodName) jdk_52_method_2_code (1 : Nat) (Option.some (Jvm.ClassFile.FieldType.array Jvm.ClassFile.FieldType.byte))).before args0 about1 = true := code_word (m := ⟨9, 1⟩) (meth := k9m1) (c := k9c1) (by decide +kernel) rfl rfl rfl (by decide +kernel)
set_option maxRecDepth 65536 in
theorem w_c15 : (Jvm.Cond.code ({ cls := "java/lang/StringUTF16", name := "newBytesLength", desc := "(I)I" } : Jvm.MethodName) jdk_52_method_3_code (1 : Nat) (Option.some Jvm.ClassFile.FieldType.int)).before args0 about1 = true := code_word (m := ⟨9, 2⟩) (meth := k9m2) (c := k9c2) (by decide +kernel) rfl rfl rfl (by decide +kernel)
set_option maxRecDepth 65536 in
theorem w_c16 : (Jvm.Cond.code ({ cls := "java/lang/StringUTF16", name := "putChar", desc := "([BII)V" } : Jvm.MethodName) jdk_52_method_4_code (3 : Nat) (Option.none : Option Jvm.ClassFile.FieldType)).before args0 about1 = true := code_word (m := ⟨9, 3⟩) (meth := k9m3) (c := k9c3) (by decide +kernel) rfl rfl rfl (by decide +kernel)
set_option maxRecDepth 65536 in
theorem w_c17 : (Jvm.Cond.code ({ cls := "java/lang/StringUTF16", name := "getChar", desc := "([BI)C" } : Jvm.MethodName) jdk_52_method_5_code (2 : Nat) (Option.some Jvm.ClassFile.FieldType.char)).before args0 about1 = true := code_word (m := ⟨9, 4⟩) (meth := k9m4) (c := k9c4) (by decide +kernel) rfl rfl rfl (by decide +kernel)
set_option maxRecDepth 65536 in
theorem w_c18 : (Jvm.Cond.code ({ cls := "com/example/throttle/throttle/SipSyntaxStartsWithIgnoringAsciiCasePinLaw", name := "matches", desc := "(CC)Z" } : Jvm.MethodName) method_5_code (2 : Nat) (Option.some Jvm.ClassFile.FieldType.boolean)).before args0 about1 = true := code_word (m := ⟨1, 4⟩) (meth := k1m4) (c := k1c4) (by decide +kernel) rfl rfl rfl (by decide +kernel)
set_option maxRecDepth 65536 in
theorem w_c19 : (Jvm.Cond.code ({ cls := "java/lang/String", name := "charAt", desc := "(I)C" } : Jvm.MethodName) jdk_42_method_56_code (2 : Nat) (Option.some Jvm.ClassFile.FieldType.char)).before args0 about1 = true := code_word (m := ⟨7, 3⟩) (meth := k7m3) (c := k7c3) (by decide +kernel) rfl rfl rfl (by decide +kernel)
set_option maxRecDepth 65536 in
theorem w_c20 : (Jvm.Cond.code ({ cls := "java/lang/String", name := "isLatin1", desc := "()Z" } : Jvm.MethodName) jdk_42_method_154_code (1 : Nat) (Option.some Jvm.ClassFile.FieldType.boolean)).before args0 about1 = true := code_word (m := ⟨7, 6⟩) (meth := k7m6) (c := k7c6) (by decide +kernel) rfl rfl rfl (by decide +kernel)
set_option maxRecDepth 65536 in
theorem w_c21 : (Jvm.Cond.code ({ cls := "java/lang/StringUTF16", name := "charAt", desc := "([BI)C" } : Jvm.MethodName) jdk_52_method_83_code (2 : Nat) (Option.some Jvm.ClassFile.FieldType.char)).before args0 about1 = true := code_word (m := ⟨9, 10⟩) (meth := k9m10) (c := k9c10) (by decide +kernel) rfl rfl rfl (by decide +kernel)
set_option maxRecDepth 65536 in
theorem w_c22 : (Jvm.Cond.code ({ cls := "java/lang/StringUTF16", name := "checkIndex", desc := "(I[B)V" } : Jvm.MethodName) jdk_52_method_91_code (2 : Nat) (Option.none : Option Jvm.ClassFile.FieldType)).before args0 about1 = true := code_word (m := ⟨9, 11⟩) (meth := k9m11) (c := k9c11) (by decide +kernel) rfl rfl rfl (by decide +kernel)
set_option maxRecDepth 65536 in
theorem w_c23 : (Jvm.Cond.code ({ cls := "java/lang/StringUTF16", name := "length", desc := "([B)I" } : Jvm.MethodName) jdk_52_method_6_code (1 : Nat) (Option.some Jvm.ClassFile.FieldType.int)).before args0 about1 = true := code_word (m := ⟨9, 5⟩) (meth := k9m5) (c := k9c5) (by decide +kernel) rfl rfl rfl (by decide +kernel)
set_option maxRecDepth 65536 in
theorem w_c24 : (Jvm.Cond.code ({ cls := "java/lang/String", name := "checkIndex", desc := "(II)V" } : Jvm.MethodName) jdk_42_method_155_code (2 : Nat) (Option.none : Option Jvm.ClassFile.FieldType)).before args0 about1 = true := code_word (m := ⟨7, 7⟩) (meth := k7m7) (c := k7c7) (by decide +kernel) rfl rfl rfl (by decide +kernel)
set_option maxRecDepth 65536 in
theorem w_c25 : (Jvm.Cond.code ({ cls := "jdk/internal/util/Preconditions", name := "checkIndex", desc := "(IILjava/util/function/BiFunction;)I" } : Jvm.MethodName) jdk_41_method_11_code (3 : Nat) (Option.some Jvm.ClassFile.FieldType.int)).before args0 about1 = true := code_word (m := ⟨10, 1⟩) (meth := k10m1) (c := k10c1) (by decide +kernel) rfl rfl rfl (by decide +kernel)
set_option maxRecDepth 65536 in
theorem w_c26 : (Jvm.Cond.code ({ cls := "java/lang/StringLatin1", name := "charAt", desc := "([BI)C" } : Jvm.MethodName) jdk_43_method_2_code (2 : Nat) (Option.some Jvm.ClassFile.FieldType.char)).before args0 about1 = true := code_word (m := ⟨11, 1⟩) (meth := k11m1) (c := k11c1) (by decide +kernel) rfl rfl rfl (by decide +kernel)
def codes1 : List Jvm.Cond := [Jvm.Cond.code x code maxLocals ret, Jvm.Cond.code ({ cls := "com/example/throttle/throttle/SipSyntaxStartsWithIgnoringAsciiCasePinLaw", name := "lowerPre", desc := "(C)C" } : Jvm.MethodName) method_3_code (1 : Nat) (Option.some Jvm.ClassFile.FieldType.char), Jvm.Cond.code ({ cls := "com/example/throttle/throttle/SipSyntaxStartsWithIgnoringAsciiCasePinLaw", name := "textChar", desc := "(ICC)C" } : Jvm.MethodName) method_4_code (3 : Nat) (Option.some Jvm.ClassFile.FieldType.char), Jvm.Cond.code ({ cls := "com/example/throttle/throttle/SipSyntaxStartsWithIgnoringAsciiCasePinLaw", name := "str", desc := "(ICCC)Ljava/lang/String;" } : Jvm.MethodName) method_6_code (4 : Nat) (Option.some (Jvm.ClassFile.FieldType.object "java/lang/String")), Jvm.Cond.code ({ cls := "java/lang/String", name := "<init>", desc := "([C)V" } : Jvm.MethodName) jdk_42_method_3_code (2 : Nat) (Option.none : Option Jvm.ClassFile.FieldType), Jvm.Cond.code ({ cls := "java/lang/String", name := "<init>", desc := "([CIILjava/lang/Void;)V" } : Jvm.MethodName) jdk_42_method_149_code (6 : Nat) (Option.none : Option Jvm.ClassFile.FieldType), Jvm.Cond.code ({ cls := "java/lang/Object", name := "<init>", desc := "()V" } : Jvm.MethodName) object_method_1_code (1 : Nat) (Option.none : Option Jvm.ClassFile.FieldType), Jvm.Cond.code ({ cls := "com/example/throttle/throttle/SipSyntax", name := "startsWithIgnoringAsciiCase", desc := "(Ljava/lang/String;Ljava/lang/String;)Z" } : Jvm.MethodName) prog_10_method_5_code (5 : Nat) (Option.some Jvm.ClassFile.FieldType.boolean), Jvm.Cond.code ({ cls := "java/lang/String", name := "length", desc := "()I" } : Jvm.MethodName) jdk_42_method_54_code (1 : Nat) (Option.some Jvm.ClassFile.FieldType.int), Jvm.Cond.code ({ cls := "java/lang/String", name := "coder", desc := "()B" } : Jvm.MethodName) jdk_42_method_152_code (1 : Nat) (Option.some Jvm.ClassFile.FieldType.byte), Jvm.Cond.code ({ cls := "java/lang/StringUTF16", name := "compress", desc := "([CII)[B" } : Jvm.MethodName) jdk_52_method_16_code (6 : Nat) (Option.some (Jvm.ClassFile.FieldType.array Jvm.ClassFile.FieldType.byte)), Jvm.Cond.code ({ cls := "java/lang/StringUTF16", name := "compress", desc := "([CI[BII)I" } : Jvm.MethodName) jdk_52_method_21_code (7 : Nat) (Option.some Jvm.ClassFile.FieldType.int), Jvm.Cond.code ({ cls := "java/lang/StringUTF16", name := "coderFromArrayLen", desc := "([BI)B" } : Jvm.MethodName) jdk_52_method_15_code (2 : Nat) (Option.some Jvm.ClassFile.FieldType.byte), Jvm.Cond.code ({ cls := "java/lang/StringUTF16", name := "toBytes", desc := "([CII)[B" } : Jvm.MethodName) jdk_52_method_14_code (5 : Nat) (Option.some (Jvm.ClassFile.FieldType.array Jvm.ClassFile.FieldType.byte)), Jvm.Cond.code ({ cls := "java/lang/StringUTF16", name := "newBytesFor", desc := "(I)[B" } : Jvm.MethodName) jdk_52_method_2_code (1 : Nat) (Option.some (Jvm.ClassFile.FieldType.array Jvm.ClassFile.FieldType.byte)), Jvm.Cond.code ({ cls := "java/lang/StringUTF16", name := "newBytesLength", desc := "(I)I" } : Jvm.MethodName) jdk_52_method_3_code (1 : Nat) (Option.some Jvm.ClassFile.FieldType.int), Jvm.Cond.code ({ cls := "java/lang/StringUTF16", name := "putChar", desc := "([BII)V" } : Jvm.MethodName) jdk_52_method_4_code (3 : Nat) (Option.none : Option Jvm.ClassFile.FieldType), Jvm.Cond.code ({ cls := "java/lang/StringUTF16", name := "getChar", desc := "([BI)C" } : Jvm.MethodName) jdk_52_method_5_code (2 : Nat) (Option.some Jvm.ClassFile.FieldType.char), Jvm.Cond.code ({ cls := "com/example/throttle/throttle/SipSyntaxStartsWithIgnoringAsciiCasePinLaw", name := "matches", desc := "(CC)Z" } : Jvm.MethodName) method_5_code (2 : Nat) (Option.some Jvm.ClassFile.FieldType.boolean), Jvm.Cond.code ({ cls := "java/lang/String", name := "charAt", desc := "(I)C" } : Jvm.MethodName) jdk_42_method_56_code (2 : Nat) (Option.some Jvm.ClassFile.FieldType.char), Jvm.Cond.code ({ cls := "java/lang/String", name := "isLatin1", desc := "()Z" } : Jvm.MethodName) jdk_42_method_154_code (1 : Nat) (Option.some Jvm.ClassFile.FieldType.boolean), Jvm.Cond.code ({ cls := "java/lang/StringUTF16", name := "charAt", desc := "([BI)C" } : Jvm.MethodName) jdk_52_method_83_code (2 : Nat) (Option.some Jvm.ClassFile.FieldType.char), Jvm.Cond.code ({ cls := "java/lang/StringUTF16", name := "checkIndex", desc := "(I[B)V" } : Jvm.MethodName) jdk_52_method_91_code (2 : Nat) (Option.none : Option Jvm.ClassFile.FieldType), Jvm.Cond.code ({ cls := "java/lang/StringUTF16", name := "length", desc := "([B)I" } : Jvm.MethodName) jdk_52_method_6_code (1 : Nat) (Option.some Jvm.ClassFile.FieldType.int), Jvm.Cond.code ({ cls := "java/lang/String", name := "checkIndex", desc := "(II)V" } : Jvm.MethodName) jdk_42_method_155_code (2 : Nat) (Option.none : Option Jvm.ClassFile.FieldType), Jvm.Cond.code ({ cls := "jdk/internal/util/Preconditions", name := "checkIndex", desc := "(IILjava/util/function/BiFunction;)I" } : Jvm.MethodName) jdk_41_method_11_code (3 : Nat) (Option.some Jvm.ClassFile.FieldType.int), Jvm.Cond.code ({ cls := "java/lang/StringLatin1", name := "charAt", desc := "([BI)C" } : Jvm.MethodName) jdk_43_method_2_code (2 : Nat) (Option.some Jvm.ClassFile.FieldType.char)]
set_option maxRecDepth 65536 in
theorem codes_eq : words1.filter isCode = codes1 := rfl
theorem w_codes : ∀ c ∈ words1.filter isCode, c.before args0 about1 = true := by
  rw [codes_eq]
  intro c hc
  simp only [codes1, List.mem_cons, List.not_mem_nil, or_false] at hc
  rcases hc with rfl | rfl | rfl | rfl | rfl | rfl | rfl | rfl | rfl | rfl | rfl | rfl | rfl | rfl | rfl | rfl | rfl | rfl | rfl | rfl | rfl | rfl | rfl | rfl | rfl | rfl | rfl
  · exact w_c0
  · exact w_c1
  · exact w_c2
  · exact w_c3
  · exact w_c4
  · exact w_c5
  · exact w_c6
  · exact w_c7
  · exact w_c8
  · exact w_c9
  · exact w_c10
  · exact w_c11
  · exact w_c12
  · exact w_c13
  · exact w_c14
  · exact w_c15
  · exact w_c16
  · exact w_c17
  · exact w_c18
  · exact w_c19
  · exact w_c20
  · exact w_c21
  · exact w_c22
  · exact w_c23
  · exact w_c24
  · exact w_c25
  · exact w_c26
set_option maxRecDepth 65536 in
theorem w_t1 : (words1.take 24).all (fun c => isCode c || c.before args0 about1) = true := by decide +kernel
set_option maxRecDepth 65536 in
theorem w_t2 : ((words1.drop 24).take 24).all (fun c => isCode c || c.before args0 about1) = true := by decide +kernel
set_option maxRecDepth 65536 in
theorem w_t3 : (((words1.drop 24).drop 24).take 24).all (fun c => isCode c || c.before args0 about1) = true := by decide +kernel
set_option maxRecDepth 65536 in
theorem w_t4 : ((((words1.drop 24).drop 24).drop 24).take 24).all (fun c => isCode c || c.before args0 about1) = true := by decide +kernel
set_option maxRecDepth 65536 in
theorem w_t5 : ((((words1.drop 24).drop 24).drop 24).drop 24).all (fun c => isCode c || c.before args0 about1) = true := by decide +kernel
theorem w_tables : (allAtoms (Jvm.Cond.code x code maxLocals ret :: tables_1)).before args0 about1 = true := by
  rw [allAtoms_all]
  show words1.all (fun c => c.before args0 about1) = true
  refine all_split ?_ w_codes
  rw [← List.take_append_drop 24 words1, List.all_append, w_t1, ← List.take_append_drop 24 (words1.drop 24), List.all_append, w_t2, ← List.take_append_drop 24 ((words1.drop 24).drop 24), List.all_append, w_t3, ← List.take_append_drop 24 (((words1.drop 24).drop 24).drop 24), List.all_append, w_t4, w_t5]
  rfl
set_option maxRecDepth 65536 in
theorem w_rest : rest_1_c.before args0 about1 = true := by decide +kernel
set_option maxRecDepth 65536 in
theorem w_case : (Jvm.Cond.and given_1 narrow_1).before args0 about1 = true := by decide +kernel
set_option maxRecDepth 65536 in
theorem w_consts : constsHeld consts_1 about1 := Jvm.Lit.constsHeldB_iff.mp (by decide +kernel)
theorem w_applies : (headSpec (Jvm.Cond.code x code maxLocals ret :: tables_1) room_1).applies x e0.platform about1 = true :=
  (Spec.applies_iff w_frames).mpr ⟨w_running, w_runnable, w_alone, w_named, w_hears, w_ripe, w_room, w_tables⟩
theorem atStart : AtStart classFile x code maxLocals ret World_1 tables_1 room_1 Calls_1 rest_1 Pre_1 launch0 p0 e0 about1 theMethod args0 below0 :=
  ⟨lists_1, trivial, launch0.admits_env _ _ _, launch0.least_env, fairChoices_fair.cas, fairChoices_fair.clock, w_frames, w_args, w_heap, w_applies, ⟨w_consts, trivial⟩, w_rest, w_case⟩
end start1
theorem witness_1 : WitnessClaimed_1 := ⟨start1.p0, start1.e0, start1.about1, start1.theMethod, start1.args0, start1.below0, start1.atStart⟩
end Jvm.Pilot.@@N@@
