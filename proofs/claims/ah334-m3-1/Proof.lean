import JvmDerived
import JvmDerived.Pilot.@@N@@Statement
import JvmDerived.Pilot.@@N@@Code
set_option linter.unusedVariables false
set_option linter.unusedSimpArgs false
namespace Jvm.RoadKit
open Sem ClassFile Op Lib Jvm.Stand Jvm.Free Jvm.LawKit
def GoW (p : Program) (e : Env) (below : List Frame) (s : State) (Q : Option Value → Heap → List Loc → Prop) (k n : Nat) (u : State) : Prop :=
  ∃ s₂ o, Steps p.tables e below u s₂ ∧ s₂.status = .running ∧ Ended s₂ below o ∧ ∃ v L, o = .returned v ∧ Q v s₂.heap L ∧ FrameEnd s o s₂ L k n
def PureQ (r : Value) (h0 : Heap) (n0 : Nat) (v : Option Value) (h : Heap) (L : List Loc) : Prop := v = some r ∧ Fr n0 L ∧ h = h0
def ValQ (r : Value) (n0 : Nat) (v : Option Value) (h : Heap) (L : List Loc) : Prop := v = some r ∧ Fr n0 L
section New
variable {p : Program} {l : Launch} {e : Env} {R : Room} {s : State} {m : MethodId} {args : Array Value} {below : List Frame} {meth : Method} {c : Code} {T : State} {locs : List Loc} {cells slots : Nat} {Q : Option Value → Heap → List Loc → Prop} {k n : Nat} {u v : State}
theorem GoW.mk (h : GoW p e below s Q k n u) : ∃ s₂ o, Steps p.tables e below u s₂ ∧ s₂.status = .running ∧ Ended s₂ below o ∧ ∃ v L, o = .returned v ∧ Q v s₂.heap L ∧ FrameEnd s o s₂ L k n := h
theorem GoW.st (h : ∀ t, Steps p.tables e below u t → Steps p.tables e below v t) (q : GoW p e below s Q k n u) : GoW p e below s Q k n v := by
  obtain ⟨s₂, o, h1, h2⟩ := q; exact ⟨s₂, o, h _ h1, h2⟩
theorem GoW.sg {T' : State} (g' : JFrame) (h : ∀ t, Steps p.tables e below (T'.setTop g') t → Steps p.tables e below v t) (q : GoW p e below s Q k n (T'.setTop g')) : GoW p e below s Q k n v := GoW.st h q
theorem retI (X : Stand p l e R s m args below meth c T locs cells slots) (hx : p.tables.exec = Jvm.exec) {pc : Nat} {Ls : Array Slot} {z : Int32} {rest : List Value} (hret : meth.sig.returnType = some .int) (hd : decode c.code pc = .ok (.ireturn, 1)) {fs : List Frame}
    (hl : ∀ (f : JFrame) (acts : List Action), f.method = m → f.locked = none → f.entered = [] → (doReturn e (T.setTop f) acts (some (.int z))).1 = T.setFrames fs) : Steps p.tables e below (T.setTop (mkF m pc Ls (.int z :: rest))) (T.setFrames fs) := by
  have hm' : T.vm.method? m = some meth := X.method'
  have hn : narrow .int (.int z) = .int z := rfl
  show Steps p.tables e below (T.setTop { method := m, pc := pc, locals := Ls, stack := _ :: rest, locked := none }) _
  jvm_step X.here [X.here.top, hx, hd, hm', hret, hn]
  first | (intro acts; rw [hl _ acts rfl rfl rfl]) | rw [hl _ _ rfl rfl rfl]
  exact Steps.refl _
theorem GoW.retN (X : Stand p l e R s m args below meth c T locs cells slots) (hx : p.tables.exec = Jvm.exec) {pc : Nat} {Ls : Array Slot} {z : Int32} {t : FieldType} {rest : List Value} (hret : meth.sig.returnType = some t) (ht : t = .boolean ∨ t = .byte ∨ t = .char ∨ t = .short)
    (hd : decode c.code pc = .ok (.ireturn, 1)) (hlk : meth.locks = false) (hq : Q (some (.int (nar t z))) T.heap locs) (hk : cells ≤ k) (hn : slots ≤ n) : GoW p e below s Q k n (T.setTop (mkF m pc Ls (.int z :: rest))) := by
  obtain ⟨fs, hr, hrun, hended, hW, hsame⟩ := X.leave (v := some (.int (nar t z))) (fun h => by rw [hret] at h; cases h) hlk
  exact ⟨_, _, Jvm.RoadKit.retN X hx hret ht hd hr, hrun, hended, _, _, rfl, hq, ⟨_, rfl⟩, hW, hsame.mono hk hn⟩
theorem GoW.retI (X : Stand p l e R s m args below meth c T locs cells slots) (hx : p.tables.exec = Jvm.exec) {pc : Nat} {Ls : Array Slot} {z : Int32} {rest : List Value} (hret : meth.sig.returnType = some .int)
    (hd : decode c.code pc = .ok (.ireturn, 1)) (hlk : meth.locks = false) (hq : Q (some (.int z)) T.heap locs) (hk : cells ≤ k) (hn : slots ≤ n) : GoW p e below s Q k n (T.setTop (mkF m pc Ls (.int z :: rest))) := by
  obtain ⟨fs, hr, hrun, hended, hW, hsame⟩ := X.leave (v := some (.int z)) (fun h => by rw [hret] at h; cases h) hlk
  exact ⟨_, _, Jvm.RoadKit.retI X hx hret hd hr, hrun, hended, _, _, rfl, hq, ⟨_, rfl⟩, hW, hsame.mono hk hn⟩
theorem GoW.retL (X : Stand p l e R s m args below meth c T locs cells slots) (hx : p.tables.exec = Jvm.exec) {pc : Nat} {Ls : Array Slot} {z : Int64} {rest : List Value} (hret : meth.sig.returnType = some .long)
    (hd : decode c.code pc = .ok (.lreturn, 1)) (hlk : meth.locks = false) (hq : Q (some (.long z)) T.heap locs) (hk : cells ≤ k) (hn : slots ≤ n) : GoW p e below s Q k n (T.setTop (mkF m pc Ls (.long z :: rest))) := by
  obtain ⟨fs, hr, hrun, hended, hW, hsame⟩ := X.leave (v := some (.long z)) (fun h => by rw [hret] at h; cases h) hlk
  exact ⟨_, _, retOut X hx hret rfl (Or.inr (Or.inl ⟨rfl, rfl, z, rfl⟩)) hd hr, hrun, hended, _, _, rfl, hq, ⟨_, rfl⟩, hW, hsame.mono hk hn⟩
theorem GoW.retA (X : Stand p l e R s m args below meth c T locs cells slots) (hx : p.tables.exec = Jvm.exec) {pc : Nat} {Ls : Array Slot} {w : Value} {t : FieldType} {rest : List Value} (hret : meth.sig.returnType = some t) (hw : w.isRef = true) (ht : t.isReference = true)
    (hn' : narrow t w = w) (hd : decode c.code pc = .ok (.areturn, 1)) (hlk : meth.locks = false) (hq : Q (some w) T.heap locs) (hk : cells ≤ k) (hn : slots ≤ n) : GoW p e below s Q k n (T.setTop (mkF m pc Ls (w :: rest))) := by
  obtain ⟨fs, hr, hrun, hended, hW, hsame⟩ := X.leave (v := some w) (fun h => by rw [hret] at h; cases h) hlk
  exact ⟨_, _, retOut X hx hret hn' (Or.inr (Or.inr (Or.inr (Or.inr ⟨rfl, ht, hw⟩)))) hd hr, hrun, hended, _, _, rfl, hq, ⟨_, rfl⟩, hW, hsame.mono hk hn⟩
theorem GoW.retV (X : Stand p l e R s m args below meth c T locs cells slots) (hx : p.tables.exec = Jvm.exec) {pc : Nat} {Ls : Array Slot} (hret : meth.sig.returnType = none)
    (hd : decode c.code pc = .ok (.return_, 1)) (hlk : meth.locks = false) (hq : Q none T.heap locs) (hk : cells ≤ k) (hn : slots ≤ n) : GoW p e below s Q k n (T.setTop (mkF m pc Ls [])) := by
  obtain ⟨fs, hr, hrun, hended, hW, hsame⟩ := X.leave (v := none) (fun _ => rfl) hlk
  exact ⟨_, _, X.returnOut hx hret hd hr, hrun, hended, _, _, rfl, hq, ⟨_, rfl⟩, hW, hsame.mono hk hn⟩
theorem hq_ {T : State} {h : Heap} {a : Addr} {c : Cell} (e : T.heap = h) (q : h[a]? = some c) : T.heap[a]? = some c := by rw [e]; exact q
theorem own_b53 (x : Int32) : B53 x.toInt64 := by
  have h := rng32 x
  unfold B53; rw [Int32.toInt_toInt64]; omega
theorem own_eqI {args : Array Value} {first s : State} {o : Option Outcome} {idx : List Nat} {t : Term} {i : Int32} (h : (Jvm.Cond.eq t (.int i)).value args first o s idx = some true) : t.eval args first o idx s = some (.int i) := by
  obtain ⟨x, y, hx, hy, k1, k2⟩ := cmp_v (Or.inl h)
  rw [Term.int_eval] at hy
  cases hy
  obtain ⟨z, rfl⟩ := k2
  have q := gotT (Cond.eq_ints hx (Term.int_eval i)) h
  rw [hx, q]
theorem own_ne {args : Array Value} {first s : State} {o : Option Outcome} {idx : List Nat} {t u : Term} {C n d : String} {i j : Int32} {a b : Addr} (h1 : (Jvm.Cond.eq (.field t C n d) (.int i)).value args first o s idx = some true) (h2 : (Jvm.Cond.eq (.field u C n d) (.int j)).value args first o s idx = some true)
    (ha : t.eval args first o idx s = some (.ref a)) (hb : u.eval args first o idx s = some (.ref b)) (hij : i ≠ j) : a ≠ b := fun e => by
  subst e
  have q1 := own_eqI h1
  have q2 := own_eqI h2
  rw [fld_at ha] at q1
  rw [fld_at hb, q1] at q2
  exact hij (by cases q2; rfl)
theorem own_staK0 {Z : State} {h h' : Heap} {C n d : String} {v : Value} (F : Sta Z h C n d v) (K : Keep h h' []) : Sta Z h' C n d v := by
  obtain ⟨cf, i, k, f, st, cell, h1, h2, h3, h4, h5, r⟩ := F; exact ⟨cf, i, k, f, st, cell, h1, h2, h3, h4, K.2.1 _ _ h5 nin0, r⟩
def NSt (h : Heap) (a : Addr) : Prop := ∀ c : Cell, h[a]? = some c → c.vm.isStatics = false
theorem own_nsE {Z : State} {h : Heap} {a : Addr} {C : String} (E : Exa Z h a C) : NSt h a := fun c hc => by
  obtain ⟨cell2, k2, g1, -, -, g2, -⟩ := E
  cases hc.symm.trans g1
  exact g2
theorem own_nsA {Z : State} {h : Heap} {a : Addr} {k : ClassId} {ty : FieldType} {z : Int32} {vs : List Value} {dv : Value} (A : Arv Z h a k ty z vs dv) : NSt h a := fun c hc => by
  obtain ⟨cl, A, -⟩ := A
  cases hc.symm.trans A.1
  exact A.plain
theorem own_staK {Z : State} {h h' : Heap} {C n d : String} {v : Value} {ws : List Addr} (F : Sta Z h C n d v) (K : Keep h h' ws) (E : ∀ x ∈ ws, NSt h x) : Sta Z h' C n d v := by
  obtain ⟨cf, i, k, f, st, cell, h1, h2, h3, h4, h5, h6, r⟩ := F
  refine ⟨cf, i, k, f, st, cell, h1, h2, h3, h4, K.2.1 _ _ h5 (fun q => ?_), h6, r⟩
  have := E st q cell h5
  rw [h6] at this; cases this
theorem GoW.retD (X : Stand p l e R s m args below meth c T locs cells slots) (hx : p.tables.exec = Jvm.exec) {pc : Nat} {Ls : Array Slot} {z : UInt64} {rest : List Value} (hret : meth.sig.returnType = some .double)
    (hd : decode c.code pc = .ok (.dreturn, 1)) (hlk : meth.locks = false) (hq : Q (some (.double z)) T.heap locs) (hk : cells ≤ k) (hn : slots ≤ n) : GoW p e below s Q k n (T.setTop (mkF m pc Ls (.double z :: rest))) := by
  obtain ⟨fs, hr, hrun, hended, hW, hsame⟩ := X.leave (v := some (.double z)) (fun h => by rw [hret] at h; cases h) hlk
  exact ⟨_, _, retOut X hx hret rfl (Or.inr (Or.inr (Or.inl ⟨rfl, rfl, z, rfl⟩))) hd hr, hrun, hended, _, _, rfl, hq, ⟨_, rfl⟩, hW, hsame.mono hk hn⟩
theorem own_pop2L {tb : Tables} [Ours tb] {e : Env} {below : List Frame} {T target : State} {m : MethodId} {c : Code} {g : JFrame} (h : At T m c below) (hx : tb.exec = Jvm.exec) (hg : g.method = m) {x : Int64} {rest : List Value} (hd : decode c.code g.pc = .ok (.pop2, 1)) (hs : g.stack = .long x :: rest)
    (hr : Steps tb e below (T.setTop { g with pc := g.pc + 1, stack := rest }) target) : Steps tb e below (T.setTop g) target := by
  subst hg
  jvm_step h [h.top, hx, hd, hs, Value.category]
  exact hr
theorem own_callS {Z : State} {a0 : Array Value} {h : Heap} (X : Stand p l e R s m args below meth c T locs cells slots) (hx : p.tables.exec = Jvm.exec) (hZ : Z.Warmed39 s.vm) {own : String} {index : Nat} {y : MethodName} {bytes : ByteArray} {maxL : Nat} {ret : Option FieldType}
    (hown : s.vm.findClass own = some m.cls) (w1 : (Jvm.Cond.methodLink own index y).before a0 Z = true) (w2 : (Jvm.Cond.static y).before a0 Z = true) (w3 : (Jvm.Cond.initialized y.cls).before a0 Z = true) (w4 : (Jvm.Cond.code y bytes maxL ret).before a0 Z = true)
    (hy : y.cls ≠ "java/lang/invoke/MethodHandle" ∧ y.cls ≠ "java/lang/invoke/VarHandle") (W : Nat) {rm : Room} {argsL rest : List Value} {Q : Option Value → Heap → List Loc → Prop}
    (hM : MetFree l y (head1 [Jvm.Cond.code y bytes maxL ret] rm) (fun a U => a = argsL.toArray ∧ Z.Warmed39 U.vm ∧ U.heap = h) (fun _ _ _ _ _ => True) (fun _ U o U' => ∃ v L, o = .returned v ∧ Q v U'.heap L ∧ FrameEnd U o U' L rm.cells rm.slots))
    (hf : rm.frames + 1 ≤ R.frames) (hl : W + (maxL + 11) + rm.locals ≤ R.locals) (eT : T.heap = h) (hc : cells + rm.cells ≤ R.cells) (hs : slots + rm.slots ≤ R.slots)
    {g : JFrame} (hg : g.method = m) (hsize : g.locals.size = c.maxLocals) (hlen : ∀ sig, parseMethodDescriptor y.desc = some sig → argsL.length = sig.parameters.length)
    (hstack : g.stack = argsL.reverse ++ rest) (hW : 2 * g.monitorRoom + (rest.map fun v => v.category).sum ≤ W) (hdg : decode c.code g.pc = .ok (.invokestatic index, 3)) :
    ∃ (v : Option Value) (T' : State) (L : List Loc), Stand p l e R s m args below meth c T' (locs ++ L) (cells + rm.cells) (slots + rm.slots) ∧ Q v T'.heap L ∧
      ∀ target, Steps p.tables e below (T'.setTop { g with pc := g.pc + 3, stack := v.toList ++ rest }) target → Steps p.tables e below (T.setTop g) target := by
  obtain ⟨v, _, ⟨T', L', k', n'⟩, -, X', ⟨Lc, hQ, l', y', z'⟩, st⟩ := Jvm.LawKit.callS X hx (y := y) hown (mvT hZ w1) (mvT hZ w2) (mvT hZ w3) (mvT hZ w4) hy (backOf (W := W) hM hZ w4 w3 hf hl) (g := g) hg hsize (argsL := argsL) (rest := rest) hlen hstack hW hdg (fun _ _ => ⟨rfl, eT, hc, hs⟩)
  dsimp only [Pt.U, Pt.locs, Pt.cells, Pt.slots] at X' l' y' z' st hQ
  subst l' y' z'
  exact ⟨v, T', Lc, X', hQ, st⟩
def GoV (p : Program) (e : Env) (below : List Frame) (s : State) (Q : Option Value → Heap → List Loc → Prop) (k n : Nat) (u : State) : Prop :=
  ∃ s₂ o, Steps p.tables e below u s₂ ∧ s₂.status = .running ∧ Ended s₂ below o ∧ ∃ v L, o = .returned v ∧ Q v s₂.heap L ∧ ReturnedEndW s o s₂ L k n
theorem GoV.mk (h : GoV p e below s Q k n u) : ∃ s₂ o, Steps p.tables e below u s₂ ∧ s₂.status = .running ∧ Ended s₂ below o ∧ ∃ v L, o = .returned v ∧ Q v s₂.heap L ∧ ReturnedEndW s o s₂ L k n := h
theorem GoV.st (h : ∀ t, Steps p.tables e below u t → Steps p.tables e below v t) (q : GoV p e below s Q k n u) : GoV p e below s Q k n v := by
  obtain ⟨s₂, o, h1, h2⟩ := q; exact ⟨s₂, o, h _ h1, h2⟩
theorem GoV.sg {T' : State} (g' : JFrame) (h : ∀ t, Steps p.tables e below (T'.setTop g') t → Steps p.tables e below v t) (q : GoV p e below s Q k n (T'.setTop g')) : GoV p e below s Q k n v := GoV.st h q
theorem GoV.retN {vm1 : Vm} {n1 : Nat} (X : Stand p l e R (s.setVm vm1) m args below meth c T locs cells slots) (hS : s.Since vm1 n1) (h1 : n1 ≤ T.heap.size) (hx : p.tables.exec = Jvm.exec) {pc : Nat} {Ls : Array Slot} {z : Int32} {t : FieldType} {rest : List Value} (hret : meth.sig.returnType = some t) (ht : t = .boolean ∨ t = .byte ∨ t = .char ∨ t = .short)
    (hd : decode c.code pc = .ok (.ireturn, 1)) (hlk : meth.locks = false) (hq : Q (some (.int (nar t z))) T.heap locs) (hk : cells ≤ k) (hn : slots ≤ n) : GoV p e below s Q k n (T.setTop (mkF m pc Ls (.int z :: rest))) := by
  obtain ⟨fs, hr, hrun, hended, hv, hW, hB, hs⟩ := X.leaveW hS h1 (v := some (.int (nar t z))) (fun h => by rw [hret] at h; cases h) hlk
  exact ⟨_, _, Jvm.RoadKit.retN X hx hret ht hd hr, hrun, hended, _, _, rfl, hq, hv, hW, hB, hs.mono hk hn⟩
end New
end Jvm.RoadKit
namespace Jvm.Pilot.@@N@@
open Jvm Jvm.ClassFile Sem Op Lib Jvm.Free Jvm.Stand Jvm.LawKit Jvm.RoadKit Bundle Jvm.Pilot.@@N@@.Jvm.D
theorem ww {Z : State} {a0 : Array Value} (hw : ∀ d ∈ tables_1, d.before a0 Z = true) (i : Nat) {d : Jvm.Cond} (h : tables_1[i]? = some d) : d.before a0 Z = true := hw _ (List.mem_of_getElem? h)
theorem pn_com_example_abacus_abacus_model_AttributeValueOfPinLaw : plainName "com/example/abacus/abacus/model/AttributeValueOfPinLaw" = true := by first | (simp [plainName, overriddenIn]; done) | decide +kernel
abbrev Sh0 (p0 : Int32) : Array Slot := #[.val (.int p0), .unset, .unset, .unset, .unset]
abbrev Sh1 (p0 : Int32) (p1 : Int32) : Array Slot := #[.val (.int p0), .val (.int p1), .unset, .unset, .unset]
theorem pn_com_example_abacus_abacus_model_AttributeValue : plainName "com/example/abacus/abacus/model/AttributeValue" = true := by first | (simp [plainName, overriddenIn]; done) | decide +kernel
theorem d1_0 : decode prog_87_method_3_code 0 = .ok (.iload_n 0, 1) := by decide +kernel
theorem d1_1 : decode prog_87_method_3_code 1 = .ok (.ifCond .eq 9, 3) := by decide +kernel
theorem d1_10 : decode prog_87_method_3_code 10 = .ok (.getstatic 53, 3) := by decide +kernel
theorem d1_13 : decode prog_87_method_3_code 13 = .ok (.areturn, 1) := by decide +kernel
abbrev Y1 : MethodName := ⟨"com/example/abacus/abacus/model/AttributeValue", "of", "(Z)Lcom/example/abacus/abacus/model/AttributeValue;"⟩
theorem pd_28Z29Lcom2fexample2fabacus2fabacus2fmodel2fAttributeValue3b : parseMethodDescriptor "(Z)Lcom/example/abacus/abacus/model/AttributeValue;" = some ⟨[.boolean], some (.object "com/example/abacus/abacus/model/AttributeValue")⟩ := by decide +kernel
abbrev Sh2 (p0 : Int32) (p1 : Int32) (p2 : Addr) : Array Slot := #[.val (.int p0), .val (.int p1), .val (.ref p2), .unset, .unset]
theorem d2_0 : decode prog_87_method_4_code 0 = .ok (.aload_n 0, 1) := by decide +kernel
theorem d2_1 : decode prog_87_method_4_code 1 = .ok (.getfield 7, 3) := by decide +kernel
theorem d2_4 : decode prog_87_method_4_code 4 = .ok (.areturn, 1) := by decide +kernel
abbrev Y2 : MethodName := ⟨"com/example/abacus/abacus/model/AttributeValue", "dataType", "()Lcom/example/abacus/abacus/model/DataType;"⟩
theorem pd_2829Lcom2fexample2fabacus2fabacus2fmodel2fDataType3b : parseMethodDescriptor "()Lcom/example/abacus/abacus/model/DataType;" = some ⟨[], some (.object "com/example/abacus/abacus/model/DataType")⟩ := by decide +kernel
abbrev Sh3 (p0 : Int32) (p1 : Int32) (p2 : Addr) (p3 : Int32) : Array Slot := #[.val (.int p0), .val (.int p1), .val (.ref p2), .val (.int p3), .unset]
theorem d3_0 : decode prog_87_method_6_code 0 = .ok (.aload_n 0, 1) := by decide +kernel
theorem d3_1 : decode prog_87_method_6_code 1 = .ok (.getfield 17, 3) := by decide +kernel
theorem d3_4 : decode prog_87_method_6_code 4 = .ok (.ifnull 10, 3) := by decide +kernel
theorem d3_7 : decode prog_87_method_6_code 7 = .ok (.aload_n 0, 1) := by decide +kernel
theorem d3_8 : decode prog_87_method_6_code 8 = .ok (.getfield 17, 3) := by decide +kernel
theorem d3_11 : decode prog_87_method_6_code 11 = .ok (.goto 14, 3) := by decide +kernel
theorem d3_25 : decode prog_87_method_6_code 25 = .ok (.areturn, 1) := by decide +kernel
abbrev Y3 : MethodName := ⟨"com/example/abacus/abacus/model/AttributeValue", "lexical", "()Ljava/lang/String;"⟩
theorem pd_2829Ljava2flang2fString3b : parseMethodDescriptor "()Ljava/lang/String;" = some ⟨[], some (.object "java/lang/String")⟩ := by decide +kernel
abbrev Sh4 (p0 : Int32) (p1 : Int32) (p2 : Addr) (p3 : Int32) (p4 : Addr) : Array Slot := #[.val (.int p0), .val (.int p1), .val (.ref p2), .val (.int p3), .val (.ref p4)]
theorem pn_java_lang_String : plainName "java/lang/String" = true := by first | (simp [plainName, overriddenIn]; done) | decide +kernel
abbrev Sh5 (p0 : Addr) (p1 : Addr) : Array Slot := #[.val (.ref p0), .val (.ref p1), .unset]
theorem d4_0 : decode jdk_42_method_66_code 0 = .ok (.aload_n 0, 1) := by decide +kernel
theorem d4_1 : decode jdk_42_method_66_code 1 = .ok (.aload_n 1, 1) := by decide +kernel
theorem d4_2 : decode jdk_42_method_66_code 2 = .ok (.if_acmp .ne 5, 3) := by decide +kernel
theorem d4_5 : decode jdk_42_method_66_code 5 = .ok (.iconst 1, 1) := by decide +kernel
theorem d4_6 : decode jdk_42_method_66_code 6 = .ok (.ireturn, 1) := by decide +kernel
theorem d4_7 : decode jdk_42_method_66_code 7 = .ok (.aload_n 1, 1) := by decide +kernel
theorem d4_8 : decode jdk_42_method_66_code 8 = .ok (.instanceof 10, 3) := by decide +kernel
theorem d4_11 : decode jdk_42_method_66_code 11 = .ok (.ifCond .eq 43, 3) := by decide +kernel
theorem d4_14 : decode jdk_42_method_66_code 14 = .ok (.aload_n 1, 1) := by decide +kernel
theorem d4_15 : decode jdk_42_method_66_code 15 = .ok (.checkcast 10, 3) := by decide +kernel
theorem d4_18 : decode jdk_42_method_66_code 18 = .ok (.astore_n 2, 1) := by decide +kernel
abbrev Sh6 (p0 : Addr) (p1 : Addr) (p2 : Addr) : Array Slot := #[.val (.ref p0), .val (.ref p1), .val (.ref p2)]
theorem d4_19 : decode jdk_42_method_66_code 19 = .ok (.getstatic 38, 3) := by decide +kernel
theorem d4_22 : decode jdk_42_method_66_code 22 = .ok (.ifCond .eq 14, 3) := by decide +kernel
theorem d4_25 : decode jdk_42_method_66_code 25 = .ok (.aload_n 0, 1) := by decide +kernel
theorem d4_26 : decode jdk_42_method_66_code 26 = .ok (.getfield 15, 3) := by decide +kernel
theorem d4_29 : decode jdk_42_method_66_code 29 = .ok (.aload_n 2, 1) := by decide +kernel
theorem d4_30 : decode jdk_42_method_66_code 30 = .ok (.getfield 15, 3) := by decide +kernel
theorem d4_33 : decode jdk_42_method_66_code 33 = .ok (.if_icmp .ne 21, 3) := by decide +kernel
theorem d4_36 : decode jdk_42_method_66_code 36 = .ok (.aload_n 0, 1) := by decide +kernel
theorem d4_37 : decode jdk_42_method_66_code 37 = .ok (.getfield 9, 3) := by decide +kernel
theorem d4_40 : decode jdk_42_method_66_code 40 = .ok (.aload_n 2, 1) := by decide +kernel
theorem d4_41 : decode jdk_42_method_66_code 41 = .ok (.getfield 9, 3) := by decide +kernel
theorem pn_java_lang_StringLatin1 : plainName "java/lang/StringLatin1" = true := by first | (simp [plainName, overriddenIn]; done) | decide +kernel
theorem d5_0 : decode jdk_43_method_13_code 0 = .ok (.aload_n 0, 1) := by decide +kernel
theorem d5_1 : decode jdk_43_method_13_code 1 = .ok (.arraylength, 1) := by decide +kernel
theorem d5_2 : decode jdk_43_method_13_code 2 = .ok (.aload_n 1, 1) := by decide +kernel
theorem d5_3 : decode jdk_43_method_13_code 3 = .ok (.arraylength, 1) := by decide +kernel
theorem d5_4 : decode jdk_43_method_13_code 4 = .ok (.if_icmp .ne 30, 3) := by decide +kernel
theorem d5_7 : decode jdk_43_method_13_code 7 = .ok (.iconst 0, 1) := by decide +kernel
theorem d5_8 : decode jdk_43_method_13_code 8 = .ok (.istore_n 2, 1) := by decide +kernel
abbrev Sh7 (p0 : Addr) (p1 : Addr) (p2 : Int32) : Array Slot := #[.val (.ref p0), .val (.ref p1), .val (.int p2)]
theorem d5_9 : decode jdk_43_method_13_code 9 = .ok (.iload_n 2, 1) := by decide +kernel
theorem d5_10 : decode jdk_43_method_13_code 10 = .ok (.aload_n 0, 1) := by decide +kernel
theorem d5_11 : decode jdk_43_method_13_code 11 = .ok (.arraylength, 1) := by decide +kernel
theorem d5_12 : decode jdk_43_method_13_code 12 = .ok (.if_icmp .ge 20, 3) := by decide +kernel
theorem d5_15 : decode jdk_43_method_13_code 15 = .ok (.aload_n 0, 1) := by decide +kernel
theorem d5_16 : decode jdk_43_method_13_code 16 = .ok (.iload_n 2, 1) := by decide +kernel
theorem d5_17 : decode jdk_43_method_13_code 17 = .ok (.baload, 1) := by decide +kernel
theorem d5_18 : decode jdk_43_method_13_code 18 = .ok (.aload_n 1, 1) := by decide +kernel
theorem d5_19 : decode jdk_43_method_13_code 19 = .ok (.iload_n 2, 1) := by decide +kernel
theorem d5_20 : decode jdk_43_method_13_code 20 = .ok (.baload, 1) := by decide +kernel
theorem d5_21 : decode jdk_43_method_13_code 21 = .ok (.if_icmp .eq 5, 3) := by decide +kernel
theorem d5_26 : decode jdk_43_method_13_code 26 = .ok (.iinc 2 1, 3) := by decide +kernel
theorem d5_29 : decode jdk_43_method_13_code 29 = .ok (.goto (-20), 3) := by decide +kernel
theorem d5_32 : decode jdk_43_method_13_code 32 = .ok (.iconst 1, 1) := by decide +kernel
theorem d5_33 : decode jdk_43_method_13_code 33 = .ok (.ireturn, 1) := by decide +kernel
abbrev Y5 : MethodName := ⟨"java/lang/StringLatin1", "equals", "([B[B)Z"⟩
theorem pd_285bB5bB29Z : parseMethodDescriptor "([B[B)Z" = some ⟨[(.array .byte), (.array .byte)], some .boolean⟩ := by decide +kernel
theorem d4_44 : decode jdk_42_method_66_code 44 = .ok (.invokestatic 541, 3) := by decide +kernel
theorem d4_47 : decode jdk_42_method_66_code 47 = .ok (.ifCond .eq 7, 3) := by decide +kernel
theorem d4_50 : decode jdk_42_method_66_code 50 = .ok (.iconst 1, 1) := by decide +kernel
theorem d4_51 : decode jdk_42_method_66_code 51 = .ok (.goto 4, 3) := by decide +kernel
theorem d4_55 : decode jdk_42_method_66_code 55 = .ok (.ireturn, 1) := by decide +kernel
abbrev Y4 : MethodName := ⟨"java/lang/String", "equals", "(Ljava/lang/Object;)Z"⟩
theorem pd_28Ljava2flang2fObject3b29Z : parseMethodDescriptor "(Ljava/lang/Object;)Z" = some ⟨[(.object "java/lang/Object")], some .boolean⟩ := by decide +kernel
theorem d1_4 : decode prog_87_method_3_code 4 = .ok (.getstatic 49, 3) := by decide +kernel
theorem d1_7 : decode prog_87_method_3_code 7 = .ok (.goto 6, 3) := by decide +kernel
theorem own_wS {Z : State} {a0 : Array Value} (hw : ∀ d ∈ tables_1, d.before a0 Z = true) : ∀ a ∈ Bundle.stringAtoms, a.before a0 Z = true := fun d hd => by
  simp only [Bundle.stringAtoms, List.mem_cons, List.not_mem_nil, or_false] at hd
  rcases hd with rfl | rfl | rfl | rfl | rfl | rfl | rfl
  · exact (ww hw 25 rfl)
  · exact (ww hw 26 rfl)
  · exact (ww hw 27 rfl)
  · exact (ww hw 28 rfl)
  · exact (ww hw 29 rfl)
  · exact (ww hw 30 rfl)
  · exact (ww hw 31 rfl)
theorem own_eqR {s : State} {args : Array Value} {t u : Term} {a : Addr} (h : (Jvm.Cond.eq t u).value args s none s [] = some true) (hu : u.eval args s none [] s = some (.ref a)) : t.eval args s none [] s = some (.ref a) := by
  obtain ⟨x, y, hx, hy, k1, k2⟩ := cmp_v (Or.inl h)
  rw [hu] at hy
  cases hy
  have q := gotT (eq_R hx hu k2.2 rfl) h
  rw [hx, q]
theorem own_elI {s : State} {args : Array Value} {t : Term} {a : Addr} {cl : Cell} {ty : FieldType} {i x : Int32} (ev : t.eval args s none [] s = some (.ref a)) (A : Arr s s.heap a cl ty) (hi : ¬ i < 0) (h : (Jvm.Cond.eq (.elem t (.int i)) (.int x)).value args s none s [] = some true) : cl.slots[i.toNatClampNeg]? = some (.int x) := by
  have ha : s.arrayAt? a = some cl := A.fin (Vm.Alike.refl _)
  have q := own_eqI h
  rw [elem_f ev (Term.int_eval i) ha hi] at q
  exact q
theorem own_arrI {s : State} {args : Array Value} {t : Term} {a : Addr} {cl : Cell} {ty : FieldType} {z : Int32} {vs : List Value} (hf : Fit s) (ev : t.eval args s none [] s = some (.ref a)) (A : Arr s s.heap a cl ty) (hl : (Jvm.Cond.eq (.length t) (.int z)).value args s none s [] = some true) (hz : ¬ z < 0) (hn : z.toNatClampNeg = vs.length) (H : HasL cl 0 vs) : Arv s s.heap a cl.cls ty z vs (.int 0) := by
  have ha : s.arrayAt? a = some cl := A.fin (Vm.Alike.refl _)
  have hl' := own_eqI hl
  have hsz : cl.slots.size < 2 ^ 31 := by
    apply Classical.byContradiction
    intro hs
    simp [Term.eval, ev, ha, hs] at hl'
  rw [len_f ev ha hsz] at hl'
  exact Arv.start hf A hsz (Value.int.inj (Option.some.inj hl')) hz hn H
def Q1_1 (Z : State) (a1c : Addr) (h0 : Heap) (n0 : Nat) (v : Option Value) (h : Heap) (L : List Loc) : Prop := v = some (.ref a1c) ∧ Fr n0 L ∧ (h = h0)
theorem ef1_rm1_1 (m : MethodId)  : entryFrame m #[(.int (0 : Int32))] 1 = (mkF m 0 #[.val (.int 0)] []) := by first | (simp [entryFrame, mkF, argsToLocals, Value.category, maxLocals]; done) | rfl
set_option maxRecDepth 65536 in
set_option maxHeartbeats 40000000 in
theorem rm1_1 (l : Launch) (Z : State) (a0 : Array Value) (hw : ∀ d ∈ tables_1, d.before a0 Z = true) (ws : List Jvm.Cond)  (a1c : Addr) (h0 : Heap) (n0 : Nat) (P0 : Sta Z h0 "com/example/abacus/abacus/model/AttributeValue" "FALSE" "Lcom/example/abacus/abacus/model/AttributeValue;" (.ref a1c))      :
    MetFree l Y1 (head1 (Jvm.Cond.code Y1 prog_87_method_3_code 1 (some (.object "com/example/abacus/abacus/model/AttributeValue")) :: ws) ({ frames := 0, cells := 0, slots := 0, locals := 0 } : Room)) (fun a U => a = #[(.int (0 : Int32))] ∧ Z.Warmed39 U.vm ∧ U.heap = h0) (fun _ _ _ _ _ => True) (fun _ U o U' => ∃ v L, o = .returned v ∧ (Q1_1 Z a1c h0 n0) v U'.heap L ∧ FrameEnd U o U' L 0 0) := by
  refine MetFree.of_bodySF (plainFor_of_name pn_com_example_abacus_abacus_model_AttributeValue) hisR ?_
  intro p e s m args below meth c s₁ Bd hml0 hP hK
  obtain ⟨rfl, hZ, hh⟩ := hP
  have hx := Bd.exec
  have hby := Bd.bytes
  have hml : c.maxLocals = 1 := hml0
  have hown : s.vm.findClass "com/example/abacus/abacus/model/AttributeValue" = some m.cls := findClass_of_methodNamed Bd.named
  have hnm := (name_of_methodNamed Bd.named Bd.method).1
  have X0 : Stand p l e ({ frames := 0, cells := 0, slots := 0, locals := 0 } : Room) s m #[(.int (0 : Int32))] below meth c s₁ [] 0 0 := Stand.of_body Bd
  have e0 : s₁.heap = h0 := by rw [← hh, Bd.state]; rfl
  have N0 := Fr.nil n0
  refine GoW.mk ?_
  refine GoW.st (fun t k => castTop (ef1_rm1_1 m ) k) ?_
  show GoW p e below s (Q1_1 Z a1c h0 n0) 0 0 (s₁.setTop (mkF m 0 #[.val (.int 0)] []))
  refine GoW.sg (mkF m 1 #[.val (.int 0)] [(.int 0)]) (fun t k => XS.iloadN X0.here hx rfl (hb hby d1_0) rfl k) ?_
  refine GoW.sg (mkF m 10 #[.val (.int 0)] []) (fun t k => XS.ifYes X0.here hx rfl (pc0 := 1) (pc' := 10) rfl (hb hby d1_1) rfl (by decide) (by decide) (by decide) k) ?_
  obtain ⟨T3, X3, e3, st3⟩ := getS (host := "") X0 hx hZ hown (ww hw 4 rfl) Via.refl e0 P0 (g := (mkF m 10 #[.val (.int 0)] [])) rfl (hb hby d1_10)
  refine GoW.sg (mkF m 13 #[.val (.int 0)] [(.ref a1c)]) (fun t k => st3 t k) ?_
  refine GoW.retA X3 hx Bd.returns rfl rfl rfl (hb hby d1_13) Bd.notSynchronized ?_ (by decide) (by decide)
  rw [e3]
  exact ⟨rfl, N0, rfl⟩
def Q2_2 (Z : State) (a1c : Addr) (a2c : Addr) (h0 : Heap) (n0 : Nat) (v : Option Value) (h : Heap) (L : List Loc) : Prop := v = some (.ref a2c) ∧ Fr n0 L ∧ (h = h0)
theorem ef2_rm2_2 (m : MethodId) (a1c : Addr) : entryFrame m #[(.ref a1c)] 1 = (mkF m 0 #[.val (.ref a1c)] []) := by first | (simp [entryFrame, mkF, argsToLocals, Value.category, maxLocals]; done) | rfl
set_option maxRecDepth 65536 in
set_option maxHeartbeats 40000000 in
theorem rm2_2 (l : Launch) (Z : State) (a0 : Array Value) (hw : ∀ d ∈ tables_1, d.before a0 Z = true) (ws : List Jvm.Cond) (a1c : Addr) (a2c : Addr) (h0 : Heap) (n0 : Nat) (P0 : Fld Z h0 a1c "com/example/abacus/abacus/model/AttributeValue" "dataType" "Lcom/example/abacus/abacus/model/DataType;" (.ref a2c))      :
    MetFree l Y2 (head1 (Jvm.Cond.code Y2 prog_87_method_4_code 1 (some (.object "com/example/abacus/abacus/model/DataType")) :: ws) ({ frames := 0, cells := 0, slots := 0, locals := 0 } : Room)) (fun a U => a = #[(.ref a1c)] ∧ Z.Warmed39 U.vm ∧ U.heap = h0) (fun _ _ _ _ _ => True) (fun _ U o U' => ∃ v L, o = .returned v ∧ (Q2_2 Z a1c a2c h0 n0) v U'.heap L ∧ FrameEnd U o U' L 0 0) := by
  refine MetFree.of_bodySF (plainFor_of_name pn_com_example_abacus_abacus_model_AttributeValue) hisR ?_
  intro p e s m args below meth c s₁ Bd hml0 hP hK
  obtain ⟨rfl, hZ, hh⟩ := hP
  have hx := Bd.exec
  have hby := Bd.bytes
  have hml : c.maxLocals = 1 := hml0
  have hown : s.vm.findClass "com/example/abacus/abacus/model/AttributeValue" = some m.cls := findClass_of_methodNamed Bd.named
  have hnm := (name_of_methodNamed Bd.named Bd.method).1
  have X0 : Stand p l e ({ frames := 0, cells := 0, slots := 0, locals := 0 } : Room) s m #[(.ref a1c)] below meth c s₁ [] 0 0 := Stand.of_body Bd
  have e0 : s₁.heap = h0 := by rw [← hh, Bd.state]; rfl
  have N0 := Fr.nil n0
  refine GoW.mk ?_
  refine GoW.st (fun t k => castTop (ef2_rm2_2 m a1c) k) ?_
  show GoW p e below s (Q2_2 Z a1c a2c h0 n0) 0 0 (s₁.setTop (mkF m 0 #[.val (.ref a1c)] []))
  refine GoW.sg (mkF m 1 #[.val (.ref a1c)] [(.ref a1c)]) (fun t k => XS.aloadN X0.here hx rfl (hb hby d2_0) rfl rfl k) ?_
  obtain ⟨T6, X6, e6, st6⟩ := getF X0 hx hZ hown (host := "") (Or.inl (ww hw 11 rfl)) Via.refl e0 P0 (g := (mkF m 1 #[.val (.ref a1c)] [(.ref a1c)])) rfl rfl (hb hby d2_1)
  refine GoW.sg (mkF m 4 #[.val (.ref a1c)] [(.ref a2c)]) (fun t k => st6 t k) ?_
  refine GoW.retA X6 hx Bd.returns rfl rfl rfl (hb hby d2_4) Bd.notSynchronized ?_ (by decide) (by decide)
  rw [e6]
  exact ⟨rfl, N0, rfl⟩
def Q3_3 (Z : State) (a1c : Addr) (a2c : Addr) (h0 : Heap) (n0 : Nat) (v : Option Value) (h : Heap) (L : List Loc) : Prop := v = some (.ref a2c) ∧ Fr n0 L ∧ (h = h0)
theorem ef3_rm3_3 (m : MethodId) (a1c : Addr) : entryFrame m #[(.ref a1c)] 1 = (mkF m 0 #[.val (.ref a1c)] []) := by first | (simp [entryFrame, mkF, argsToLocals, Value.category, maxLocals]; done) | rfl
set_option maxRecDepth 65536 in
set_option maxHeartbeats 40000000 in
theorem rm3_3 (l : Launch) (Z : State) (a0 : Array Value) (hw : ∀ d ∈ tables_1, d.before a0 Z = true) (ws : List Jvm.Cond) (a1c : Addr) (a2c : Addr) (h0 : Heap) (n0 : Nat) (P0 : Fld Z h0 a1c "com/example/abacus/abacus/model/AttributeValue" "lexical" "Ljava/lang/String;" (.ref a2c))      :
    MetFree l Y3 (head1 (Jvm.Cond.code Y3 prog_87_method_6_code 1 (some (.object "java/lang/String")) :: ws) ({ frames := 0, cells := 0, slots := 0, locals := 0 } : Room)) (fun a U => a = #[(.ref a1c)] ∧ Z.Warmed39 U.vm ∧ U.heap = h0) (fun _ _ _ _ _ => True) (fun _ U o U' => ∃ v L, o = .returned v ∧ (Q3_3 Z a1c a2c h0 n0) v U'.heap L ∧ FrameEnd U o U' L 0 0) := by
  refine MetFree.of_bodySF (plainFor_of_name pn_com_example_abacus_abacus_model_AttributeValue) hisR ?_
  intro p e s m args below meth c s₁ Bd hml0 hP hK
  obtain ⟨rfl, hZ, hh⟩ := hP
  have hx := Bd.exec
  have hby := Bd.bytes
  have hml : c.maxLocals = 1 := hml0
  have hown : s.vm.findClass "com/example/abacus/abacus/model/AttributeValue" = some m.cls := findClass_of_methodNamed Bd.named
  have hnm := (name_of_methodNamed Bd.named Bd.method).1
  have X0 : Stand p l e ({ frames := 0, cells := 0, slots := 0, locals := 0 } : Room) s m #[(.ref a1c)] below meth c s₁ [] 0 0 := Stand.of_body Bd
  have e0 : s₁.heap = h0 := by rw [← hh, Bd.state]; rfl
  have N0 := Fr.nil n0
  refine GoW.mk ?_
  refine GoW.st (fun t k => castTop (ef3_rm3_3 m a1c) k) ?_
  show GoW p e below s (Q3_3 Z a1c a2c h0 n0) 0 0 (s₁.setTop (mkF m 0 #[.val (.ref a1c)] []))
  refine GoW.sg (mkF m 1 #[.val (.ref a1c)] [(.ref a1c)]) (fun t k => XS.aloadN X0.here hx rfl (hb hby d3_0) rfl rfl k) ?_
  obtain ⟨T11, X11, e11, st11⟩ := getF X0 hx hZ hown (host := "") (Or.inl (ww hw 21 rfl)) Via.refl e0 P0 (g := (mkF m 1 #[.val (.ref a1c)] [(.ref a1c)])) rfl rfl (hb hby d3_1)
  refine GoW.sg (mkF m 4 #[.val (.ref a1c)] [(.ref a2c)]) (fun t k => st11 t k) ?_
  refine GoW.sg (mkF m 7 #[.val (.ref a1c)] []) (fun t k => XS.ifnullNo X11.here hx rfl (hb hby d3_4) rfl k) ?_
  refine GoW.sg (mkF m 8 #[.val (.ref a1c)] [(.ref a1c)]) (fun t k => XS.aloadN X11.here hx rfl (hb hby d3_7) rfl rfl k) ?_
  obtain ⟨T12, X12, e12, st12⟩ := getF X11 hx hZ hown (host := "") (Or.inl (ww hw 21 rfl)) Via.refl e11 P0 (g := (mkF m 8 #[.val (.ref a1c)] [(.ref a1c)])) rfl rfl (hb hby d3_8)
  refine GoW.sg (mkF m 11 #[.val (.ref a1c)] [(.ref a2c)]) (fun t k => st12 t k) ?_
  refine GoW.sg (mkF m 25 #[.val (.ref a1c)] [(.ref a2c)]) (fun t k => XS.goto X12.here hx rfl (pc0 := 11) (pc' := 25) rfl (hb hby d3_11) (by decide) (by decide) k) ?_
  refine GoW.retA X12 hx Bd.returns rfl rfl rfl (hb hby d3_25) Bd.notSynchronized ?_ (by decide) (by decide)
  rw [e12]
  exact ⟨rfl, N0, rfl⟩
def Q5_4 (Z : State) (a1c : Addr) (a2c : Addr) (ka1c : ClassId) (ka2c : ClassId) (h0 : Heap) (n0 : Nat) (v : Option Value) (h : Heap) (L : List Loc) : Prop := v = some (.int (1 : Int32)) ∧ Fr n0 L ∧ (h = h0)
theorem ef5_rm5_4 (m : MethodId) (a1c : Addr) (a2c : Addr) : entryFrame m #[(.ref a1c), (.ref a2c)] 3 = (mkF m 0 #[.val (.ref a1c), .val (.ref a2c), .unset] []) := by first | (simp [entryFrame, mkF, argsToLocals, Value.category, maxLocals]; done) | rfl
set_option maxRecDepth 65536 in
set_option maxHeartbeats 40000000 in
theorem rm5_4 (l : Launch) (Z : State) (a0 : Array Value) (hw : ∀ d ∈ tables_1, d.before a0 Z = true) (ws : List Jvm.Cond) (a1c : Addr) (a2c : Addr) (ka1c : ClassId) (ka2c : ClassId) (h0 : Heap) (n0 : Nat) (P0 : Arv Z h0 a1c ka1c .byte (5 : Int32) [(.int (102 : Int32)), (.int (97 : Int32)), (.int (108 : Int32)), (.int (115 : Int32)), (.int (101 : Int32))] (.int (0 : Int32))) (P1 : Arv Z h0 a2c ka2c .byte (5 : Int32) [(.int (102 : Int32)), (.int (97 : Int32)), (.int (108 : Int32)), (.int (115 : Int32)), (.int (101 : Int32))] (.int (0 : Int32)))      :
    MetFree l Y5 (head1 (Jvm.Cond.code Y5 jdk_43_method_13_code 3 (some .boolean) :: ws) ({ frames := 0, cells := 0, slots := 0, locals := 0 } : Room)) (fun a U => a = #[(.ref a1c), (.ref a2c)] ∧ Z.Warmed39 U.vm ∧ U.heap = h0) (fun _ _ _ _ _ => True) (fun _ U o U' => ∃ v L, o = .returned v ∧ (Q5_4 Z a1c a2c ka1c ka2c h0 n0) v U'.heap L ∧ FrameEnd U o U' L 0 0) := by
  refine MetFree.of_bodySF (plainFor_of_name pn_java_lang_StringLatin1) hisR ?_
  intro p e s m args below meth c s₁ Bd hml0 hP hK
  obtain ⟨rfl, hZ, hh⟩ := hP
  have hx := Bd.exec
  have hby := Bd.bytes
  have hml : c.maxLocals = 3 := hml0
  have hown : s.vm.findClass "java/lang/StringLatin1" = some m.cls := findClass_of_methodNamed Bd.named
  have hnm := (name_of_methodNamed Bd.named Bd.method).1
  have X0 : Stand p l e ({ frames := 0, cells := 0, slots := 0, locals := 0 } : Room) s m #[(.ref a1c), (.ref a2c)] below meth c s₁ [] 0 0 := Stand.of_body Bd
  have e0 : s₁.heap = h0 := by rw [← hh, Bd.state]; rfl
  have N0 := Fr.nil n0
  refine GoW.mk ?_
  refine GoW.st (fun t k => castTop (ef5_rm5_4 m a1c a2c) k) ?_
  show GoW p e below s (Q5_4 Z a1c a2c ka1c ka2c h0 n0) 0 0 (s₁.setTop (mkF m 0 (Sh5 a1c a2c) []))
  refine GoW.sg (mkF m 1 (Sh5 a1c a2c) [(.ref a1c)]) (fun t k => XS.aloadN X0.here hx rfl (hb hby d5_0) rfl rfl k) ?_
  obtain ⟨cl42, Ar42, q42, Sz42, Nn42, Hh42, Gg42⟩ := id P0
  have st42 := X0.arraylength hx (hq_ e0 Ar42.1) (State.isArrayOf_alike hZ.alike Ar42.2.1) (g := (mkF m 1 (Sh5 a1c a2c) [(.ref a1c)])) rfl rfl (hb hby d5_1)
  rw [len_of Sz42 Nn42] at st42
  refine GoW.sg (mkF m 2 (Sh5 a1c a2c) [(.int 5)]) (fun t k => st42 t k) ?_
  refine GoW.sg (mkF m 3 (Sh5 a1c a2c) [(.ref a2c), (.int 5)]) (fun t k => XS.aloadN X0.here hx rfl (hb hby d5_2) rfl rfl k) ?_
  obtain ⟨cl43, Ar43, q43, Sz43, Nn43, Hh43, Gg43⟩ := id P1
  have st43 := X0.arraylength hx (hq_ e0 Ar43.1) (State.isArrayOf_alike hZ.alike Ar43.2.1) (g := (mkF m 3 (Sh5 a1c a2c) [(.ref a2c), (.int 5)])) rfl rfl (hb hby d5_3)
  rw [len_of Sz43 Nn43] at st43
  refine GoW.sg (mkF m 4 (Sh5 a1c a2c) [(.int 5), (.int 5)]) (fun t k => st43 t k) ?_
  refine GoW.sg (mkF m 7 (Sh5 a1c a2c) []) (fun t k => XS.icmpNo X0.here hx rfl (hb hby d5_4) rfl (by decide) k) ?_
  refine GoW.sg (mkF m 8 (Sh5 a1c a2c) [(.int 0)]) (fun t k => XS.iconst X0.here hx rfl (hb hby d5_7) k) ?_
  refine GoW.sg (mkF m 9 (Sh7 a1c a2c 0) []) (fun t k => XS.istoreN X0.here hx rfl (hb hby d5_8) rfl (l' := (Sh7 a1c a2c 0)) rfl k) ?_
  refine GoW.sg (mkF m 10 (Sh7 a1c a2c 0) [(.int 0)]) (fun t k => XS.iloadN X0.here hx rfl (hb hby d5_9) rfl k) ?_
  refine GoW.sg (mkF m 11 (Sh7 a1c a2c 0) [(.ref a1c), (.int 0)]) (fun t k => XS.aloadN X0.here hx rfl (hb hby d5_10) rfl rfl k) ?_
  obtain ⟨cl44, Ar44, q44, Sz44, Nn44, Hh44, Gg44⟩ := id P0
  have st44 := X0.arraylength hx (hq_ e0 Ar44.1) (State.isArrayOf_alike hZ.alike Ar44.2.1) (g := (mkF m 11 (Sh7 a1c a2c 0) [(.ref a1c), (.int 0)])) rfl rfl (hb hby d5_11)
  rw [len_of Sz44 Nn44] at st44
  refine GoW.sg (mkF m 12 (Sh7 a1c a2c 0) [(.int 5), (.int 0)]) (fun t k => st44 t k) ?_
  refine GoW.sg (mkF m 15 (Sh7 a1c a2c 0) []) (fun t k => XS.icmpNo X0.here hx rfl (hb hby d5_12) rfl (by decide) k) ?_
  refine GoW.sg (mkF m 16 (Sh7 a1c a2c 0) [(.ref a1c)]) (fun t k => XS.aloadN X0.here hx rfl (hb hby d5_15) rfl rfl k) ?_
  refine GoW.sg (mkF m 17 (Sh7 a1c a2c 0) [(.int 0), (.ref a1c)]) (fun t k => XS.iloadN X0.here hx rfl (hb hby d5_16) rfl k) ?_
  obtain ⟨cl45, Ar45, q45, Sz45, Nn45, Hh45, Gg45⟩ := id P0
  have hin45 : ¬ ((0 : Int32) < 0 ∨ cl45.slots.size ≤ ((0 : Int32)).toNatClampNeg) := inb_of Sz45 ⟨by decide, by decide⟩
  refine GoW.sg (mkF m 18 (Sh7 a1c a2c 0) [(.int 102)]) (fun t k => X0.baloadBytes hx (j := (0 : Int32)) (v := (.int (102 : Int32))) (hq_ e0 Ar45.1) (State.isArrayOf_alike hZ.alike Ar45.2.1) Ar45.2.2 hin45 (Hh45.at hin45 rfl) (g := (mkF m 17 (Sh7 a1c a2c 0) [(.int 0), (.ref a1c)])) rfl rfl (hb hby d5_17) t k) ?_
  refine GoW.sg (mkF m 19 (Sh7 a1c a2c 0) [(.ref a2c), (.int 102)]) (fun t k => XS.aloadN X0.here hx rfl (hb hby d5_18) rfl rfl k) ?_
  refine GoW.sg (mkF m 20 (Sh7 a1c a2c 0) [(.int 0), (.ref a2c), (.int 102)]) (fun t k => XS.iloadN X0.here hx rfl (hb hby d5_19) rfl k) ?_
  obtain ⟨cl46, Ar46, q46, Sz46, Nn46, Hh46, Gg46⟩ := id P1
  have hin46 : ¬ ((0 : Int32) < 0 ∨ cl46.slots.size ≤ ((0 : Int32)).toNatClampNeg) := inb_of Sz46 ⟨by decide, by decide⟩
  refine GoW.sg (mkF m 21 (Sh7 a1c a2c 0) [(.int 102), (.int 102)]) (fun t k => X0.baloadBytes hx (j := (0 : Int32)) (v := (.int (102 : Int32))) (hq_ e0 Ar46.1) (State.isArrayOf_alike hZ.alike Ar46.2.1) Ar46.2.2 hin46 (Hh46.at hin46 rfl) (g := (mkF m 20 (Sh7 a1c a2c 0) [(.int 0), (.ref a2c), (.int 102)])) rfl rfl (hb hby d5_20) t k) ?_
  refine GoW.sg (mkF m 26 (Sh7 a1c a2c 0) []) (fun t k => XS.icmpYes X0.here hx rfl (pc0 := 21) (pc' := 26) rfl (hb hby d5_21) rfl (by decide) (by decide) (by decide) k) ?_
  refine GoW.sg (mkF m 29 (Sh7 a1c a2c 1) []) (fun t k => XS.iinc X0.here hx rfl (hb hby d5_26) rfl (l' := (Sh7 a1c a2c 1)) rfl k) ?_
  refine GoW.sg (mkF m 9 (Sh7 a1c a2c 1) []) (fun t k => XS.goto X0.here hx rfl (pc0 := 29) (pc' := 9) rfl (hb hby d5_29) (by decide) (by decide) k) ?_
  refine GoW.sg (mkF m 10 (Sh7 a1c a2c 1) [(.int 1)]) (fun t k => XS.iloadN X0.here hx rfl (hb hby d5_9) rfl k) ?_
  refine GoW.sg (mkF m 11 (Sh7 a1c a2c 1) [(.ref a1c), (.int 1)]) (fun t k => XS.aloadN X0.here hx rfl (hb hby d5_10) rfl rfl k) ?_
  obtain ⟨cl47, Ar47, q47, Sz47, Nn47, Hh47, Gg47⟩ := id P0
  have st47 := X0.arraylength hx (hq_ e0 Ar47.1) (State.isArrayOf_alike hZ.alike Ar47.2.1) (g := (mkF m 11 (Sh7 a1c a2c 1) [(.ref a1c), (.int 1)])) rfl rfl (hb hby d5_11)
  rw [len_of Sz47 Nn47] at st47
  refine GoW.sg (mkF m 12 (Sh7 a1c a2c 1) [(.int 5), (.int 1)]) (fun t k => st47 t k) ?_
  refine GoW.sg (mkF m 15 (Sh7 a1c a2c 1) []) (fun t k => XS.icmpNo X0.here hx rfl (hb hby d5_12) rfl (by decide) k) ?_
  refine GoW.sg (mkF m 16 (Sh7 a1c a2c 1) [(.ref a1c)]) (fun t k => XS.aloadN X0.here hx rfl (hb hby d5_15) rfl rfl k) ?_
  refine GoW.sg (mkF m 17 (Sh7 a1c a2c 1) [(.int 1), (.ref a1c)]) (fun t k => XS.iloadN X0.here hx rfl (hb hby d5_16) rfl k) ?_
  obtain ⟨cl48, Ar48, q48, Sz48, Nn48, Hh48, Gg48⟩ := id P0
  have hin48 : ¬ ((1 : Int32) < 0 ∨ cl48.slots.size ≤ ((1 : Int32)).toNatClampNeg) := inb_of Sz48 ⟨by decide, by decide⟩
  refine GoW.sg (mkF m 18 (Sh7 a1c a2c 1) [(.int 97)]) (fun t k => X0.baloadBytes hx (j := (1 : Int32)) (v := (.int (97 : Int32))) (hq_ e0 Ar48.1) (State.isArrayOf_alike hZ.alike Ar48.2.1) Ar48.2.2 hin48 (Hh48.at hin48 rfl) (g := (mkF m 17 (Sh7 a1c a2c 1) [(.int 1), (.ref a1c)])) rfl rfl (hb hby d5_17) t k) ?_
  refine GoW.sg (mkF m 19 (Sh7 a1c a2c 1) [(.ref a2c), (.int 97)]) (fun t k => XS.aloadN X0.here hx rfl (hb hby d5_18) rfl rfl k) ?_
  refine GoW.sg (mkF m 20 (Sh7 a1c a2c 1) [(.int 1), (.ref a2c), (.int 97)]) (fun t k => XS.iloadN X0.here hx rfl (hb hby d5_19) rfl k) ?_
  obtain ⟨cl49, Ar49, q49, Sz49, Nn49, Hh49, Gg49⟩ := id P1
  have hin49 : ¬ ((1 : Int32) < 0 ∨ cl49.slots.size ≤ ((1 : Int32)).toNatClampNeg) := inb_of Sz49 ⟨by decide, by decide⟩
  refine GoW.sg (mkF m 21 (Sh7 a1c a2c 1) [(.int 97), (.int 97)]) (fun t k => X0.baloadBytes hx (j := (1 : Int32)) (v := (.int (97 : Int32))) (hq_ e0 Ar49.1) (State.isArrayOf_alike hZ.alike Ar49.2.1) Ar49.2.2 hin49 (Hh49.at hin49 rfl) (g := (mkF m 20 (Sh7 a1c a2c 1) [(.int 1), (.ref a2c), (.int 97)])) rfl rfl (hb hby d5_20) t k) ?_
  refine GoW.sg (mkF m 26 (Sh7 a1c a2c 1) []) (fun t k => XS.icmpYes X0.here hx rfl (pc0 := 21) (pc' := 26) rfl (hb hby d5_21) rfl (by decide) (by decide) (by decide) k) ?_
  refine GoW.sg (mkF m 29 (Sh7 a1c a2c 2) []) (fun t k => XS.iinc X0.here hx rfl (hb hby d5_26) rfl (l' := (Sh7 a1c a2c 2)) rfl k) ?_
  refine GoW.sg (mkF m 9 (Sh7 a1c a2c 2) []) (fun t k => XS.goto X0.here hx rfl (pc0 := 29) (pc' := 9) rfl (hb hby d5_29) (by decide) (by decide) k) ?_
  refine GoW.sg (mkF m 10 (Sh7 a1c a2c 2) [(.int 2)]) (fun t k => XS.iloadN X0.here hx rfl (hb hby d5_9) rfl k) ?_
  refine GoW.sg (mkF m 11 (Sh7 a1c a2c 2) [(.ref a1c), (.int 2)]) (fun t k => XS.aloadN X0.here hx rfl (hb hby d5_10) rfl rfl k) ?_
  obtain ⟨cl50, Ar50, q50, Sz50, Nn50, Hh50, Gg50⟩ := id P0
  have st50 := X0.arraylength hx (hq_ e0 Ar50.1) (State.isArrayOf_alike hZ.alike Ar50.2.1) (g := (mkF m 11 (Sh7 a1c a2c 2) [(.ref a1c), (.int 2)])) rfl rfl (hb hby d5_11)
  rw [len_of Sz50 Nn50] at st50
  refine GoW.sg (mkF m 12 (Sh7 a1c a2c 2) [(.int 5), (.int 2)]) (fun t k => st50 t k) ?_
  refine GoW.sg (mkF m 15 (Sh7 a1c a2c 2) []) (fun t k => XS.icmpNo X0.here hx rfl (hb hby d5_12) rfl (by decide) k) ?_
  refine GoW.sg (mkF m 16 (Sh7 a1c a2c 2) [(.ref a1c)]) (fun t k => XS.aloadN X0.here hx rfl (hb hby d5_15) rfl rfl k) ?_
  refine GoW.sg (mkF m 17 (Sh7 a1c a2c 2) [(.int 2), (.ref a1c)]) (fun t k => XS.iloadN X0.here hx rfl (hb hby d5_16) rfl k) ?_
  obtain ⟨cl51, Ar51, q51, Sz51, Nn51, Hh51, Gg51⟩ := id P0
  have hin51 : ¬ ((2 : Int32) < 0 ∨ cl51.slots.size ≤ ((2 : Int32)).toNatClampNeg) := inb_of Sz51 ⟨by decide, by decide⟩
  refine GoW.sg (mkF m 18 (Sh7 a1c a2c 2) [(.int 108)]) (fun t k => X0.baloadBytes hx (j := (2 : Int32)) (v := (.int (108 : Int32))) (hq_ e0 Ar51.1) (State.isArrayOf_alike hZ.alike Ar51.2.1) Ar51.2.2 hin51 (Hh51.at hin51 rfl) (g := (mkF m 17 (Sh7 a1c a2c 2) [(.int 2), (.ref a1c)])) rfl rfl (hb hby d5_17) t k) ?_
  refine GoW.sg (mkF m 19 (Sh7 a1c a2c 2) [(.ref a2c), (.int 108)]) (fun t k => XS.aloadN X0.here hx rfl (hb hby d5_18) rfl rfl k) ?_
  refine GoW.sg (mkF m 20 (Sh7 a1c a2c 2) [(.int 2), (.ref a2c), (.int 108)]) (fun t k => XS.iloadN X0.here hx rfl (hb hby d5_19) rfl k) ?_
  obtain ⟨cl52, Ar52, q52, Sz52, Nn52, Hh52, Gg52⟩ := id P1
  have hin52 : ¬ ((2 : Int32) < 0 ∨ cl52.slots.size ≤ ((2 : Int32)).toNatClampNeg) := inb_of Sz52 ⟨by decide, by decide⟩
  refine GoW.sg (mkF m 21 (Sh7 a1c a2c 2) [(.int 108), (.int 108)]) (fun t k => X0.baloadBytes hx (j := (2 : Int32)) (v := (.int (108 : Int32))) (hq_ e0 Ar52.1) (State.isArrayOf_alike hZ.alike Ar52.2.1) Ar52.2.2 hin52 (Hh52.at hin52 rfl) (g := (mkF m 20 (Sh7 a1c a2c 2) [(.int 2), (.ref a2c), (.int 108)])) rfl rfl (hb hby d5_20) t k) ?_
  refine GoW.sg (mkF m 26 (Sh7 a1c a2c 2) []) (fun t k => XS.icmpYes X0.here hx rfl (pc0 := 21) (pc' := 26) rfl (hb hby d5_21) rfl (by decide) (by decide) (by decide) k) ?_
  refine GoW.sg (mkF m 29 (Sh7 a1c a2c 3) []) (fun t k => XS.iinc X0.here hx rfl (hb hby d5_26) rfl (l' := (Sh7 a1c a2c 3)) rfl k) ?_
  refine GoW.sg (mkF m 9 (Sh7 a1c a2c 3) []) (fun t k => XS.goto X0.here hx rfl (pc0 := 29) (pc' := 9) rfl (hb hby d5_29) (by decide) (by decide) k) ?_
  refine GoW.sg (mkF m 10 (Sh7 a1c a2c 3) [(.int 3)]) (fun t k => XS.iloadN X0.here hx rfl (hb hby d5_9) rfl k) ?_
  refine GoW.sg (mkF m 11 (Sh7 a1c a2c 3) [(.ref a1c), (.int 3)]) (fun t k => XS.aloadN X0.here hx rfl (hb hby d5_10) rfl rfl k) ?_
  obtain ⟨cl53, Ar53, q53, Sz53, Nn53, Hh53, Gg53⟩ := id P0
  have st53 := X0.arraylength hx (hq_ e0 Ar53.1) (State.isArrayOf_alike hZ.alike Ar53.2.1) (g := (mkF m 11 (Sh7 a1c a2c 3) [(.ref a1c), (.int 3)])) rfl rfl (hb hby d5_11)
  rw [len_of Sz53 Nn53] at st53
  refine GoW.sg (mkF m 12 (Sh7 a1c a2c 3) [(.int 5), (.int 3)]) (fun t k => st53 t k) ?_
  refine GoW.sg (mkF m 15 (Sh7 a1c a2c 3) []) (fun t k => XS.icmpNo X0.here hx rfl (hb hby d5_12) rfl (by decide) k) ?_
  refine GoW.sg (mkF m 16 (Sh7 a1c a2c 3) [(.ref a1c)]) (fun t k => XS.aloadN X0.here hx rfl (hb hby d5_15) rfl rfl k) ?_
  refine GoW.sg (mkF m 17 (Sh7 a1c a2c 3) [(.int 3), (.ref a1c)]) (fun t k => XS.iloadN X0.here hx rfl (hb hby d5_16) rfl k) ?_
  obtain ⟨cl54, Ar54, q54, Sz54, Nn54, Hh54, Gg54⟩ := id P0
  have hin54 : ¬ ((3 : Int32) < 0 ∨ cl54.slots.size ≤ ((3 : Int32)).toNatClampNeg) := inb_of Sz54 ⟨by decide, by decide⟩
  refine GoW.sg (mkF m 18 (Sh7 a1c a2c 3) [(.int 115)]) (fun t k => X0.baloadBytes hx (j := (3 : Int32)) (v := (.int (115 : Int32))) (hq_ e0 Ar54.1) (State.isArrayOf_alike hZ.alike Ar54.2.1) Ar54.2.2 hin54 (Hh54.at hin54 rfl) (g := (mkF m 17 (Sh7 a1c a2c 3) [(.int 3), (.ref a1c)])) rfl rfl (hb hby d5_17) t k) ?_
  refine GoW.sg (mkF m 19 (Sh7 a1c a2c 3) [(.ref a2c), (.int 115)]) (fun t k => XS.aloadN X0.here hx rfl (hb hby d5_18) rfl rfl k) ?_
  refine GoW.sg (mkF m 20 (Sh7 a1c a2c 3) [(.int 3), (.ref a2c), (.int 115)]) (fun t k => XS.iloadN X0.here hx rfl (hb hby d5_19) rfl k) ?_
  obtain ⟨cl55, Ar55, q55, Sz55, Nn55, Hh55, Gg55⟩ := id P1
  have hin55 : ¬ ((3 : Int32) < 0 ∨ cl55.slots.size ≤ ((3 : Int32)).toNatClampNeg) := inb_of Sz55 ⟨by decide, by decide⟩
  refine GoW.sg (mkF m 21 (Sh7 a1c a2c 3) [(.int 115), (.int 115)]) (fun t k => X0.baloadBytes hx (j := (3 : Int32)) (v := (.int (115 : Int32))) (hq_ e0 Ar55.1) (State.isArrayOf_alike hZ.alike Ar55.2.1) Ar55.2.2 hin55 (Hh55.at hin55 rfl) (g := (mkF m 20 (Sh7 a1c a2c 3) [(.int 3), (.ref a2c), (.int 115)])) rfl rfl (hb hby d5_20) t k) ?_
  refine GoW.sg (mkF m 26 (Sh7 a1c a2c 3) []) (fun t k => XS.icmpYes X0.here hx rfl (pc0 := 21) (pc' := 26) rfl (hb hby d5_21) rfl (by decide) (by decide) (by decide) k) ?_
  refine GoW.sg (mkF m 29 (Sh7 a1c a2c 4) []) (fun t k => XS.iinc X0.here hx rfl (hb hby d5_26) rfl (l' := (Sh7 a1c a2c 4)) rfl k) ?_
  refine GoW.sg (mkF m 9 (Sh7 a1c a2c 4) []) (fun t k => XS.goto X0.here hx rfl (pc0 := 29) (pc' := 9) rfl (hb hby d5_29) (by decide) (by decide) k) ?_
  refine GoW.sg (mkF m 10 (Sh7 a1c a2c 4) [(.int 4)]) (fun t k => XS.iloadN X0.here hx rfl (hb hby d5_9) rfl k) ?_
  refine GoW.sg (mkF m 11 (Sh7 a1c a2c 4) [(.ref a1c), (.int 4)]) (fun t k => XS.aloadN X0.here hx rfl (hb hby d5_10) rfl rfl k) ?_
  obtain ⟨cl56, Ar56, q56, Sz56, Nn56, Hh56, Gg56⟩ := id P0
  have st56 := X0.arraylength hx (hq_ e0 Ar56.1) (State.isArrayOf_alike hZ.alike Ar56.2.1) (g := (mkF m 11 (Sh7 a1c a2c 4) [(.ref a1c), (.int 4)])) rfl rfl (hb hby d5_11)
  rw [len_of Sz56 Nn56] at st56
  refine GoW.sg (mkF m 12 (Sh7 a1c a2c 4) [(.int 5), (.int 4)]) (fun t k => st56 t k) ?_
  refine GoW.sg (mkF m 15 (Sh7 a1c a2c 4) []) (fun t k => XS.icmpNo X0.here hx rfl (hb hby d5_12) rfl (by decide) k) ?_
  refine GoW.sg (mkF m 16 (Sh7 a1c a2c 4) [(.ref a1c)]) (fun t k => XS.aloadN X0.here hx rfl (hb hby d5_15) rfl rfl k) ?_
  refine GoW.sg (mkF m 17 (Sh7 a1c a2c 4) [(.int 4), (.ref a1c)]) (fun t k => XS.iloadN X0.here hx rfl (hb hby d5_16) rfl k) ?_
  obtain ⟨cl57, Ar57, q57, Sz57, Nn57, Hh57, Gg57⟩ := id P0
  have hin57 : ¬ ((4 : Int32) < 0 ∨ cl57.slots.size ≤ ((4 : Int32)).toNatClampNeg) := inb_of Sz57 ⟨by decide, by decide⟩
  refine GoW.sg (mkF m 18 (Sh7 a1c a2c 4) [(.int 101)]) (fun t k => X0.baloadBytes hx (j := (4 : Int32)) (v := (.int (101 : Int32))) (hq_ e0 Ar57.1) (State.isArrayOf_alike hZ.alike Ar57.2.1) Ar57.2.2 hin57 (Hh57.at hin57 rfl) (g := (mkF m 17 (Sh7 a1c a2c 4) [(.int 4), (.ref a1c)])) rfl rfl (hb hby d5_17) t k) ?_
  refine GoW.sg (mkF m 19 (Sh7 a1c a2c 4) [(.ref a2c), (.int 101)]) (fun t k => XS.aloadN X0.here hx rfl (hb hby d5_18) rfl rfl k) ?_
  refine GoW.sg (mkF m 20 (Sh7 a1c a2c 4) [(.int 4), (.ref a2c), (.int 101)]) (fun t k => XS.iloadN X0.here hx rfl (hb hby d5_19) rfl k) ?_
  obtain ⟨cl58, Ar58, q58, Sz58, Nn58, Hh58, Gg58⟩ := id P1
  have hin58 : ¬ ((4 : Int32) < 0 ∨ cl58.slots.size ≤ ((4 : Int32)).toNatClampNeg) := inb_of Sz58 ⟨by decide, by decide⟩
  refine GoW.sg (mkF m 21 (Sh7 a1c a2c 4) [(.int 101), (.int 101)]) (fun t k => X0.baloadBytes hx (j := (4 : Int32)) (v := (.int (101 : Int32))) (hq_ e0 Ar58.1) (State.isArrayOf_alike hZ.alike Ar58.2.1) Ar58.2.2 hin58 (Hh58.at hin58 rfl) (g := (mkF m 20 (Sh7 a1c a2c 4) [(.int 4), (.ref a2c), (.int 101)])) rfl rfl (hb hby d5_20) t k) ?_
  refine GoW.sg (mkF m 26 (Sh7 a1c a2c 4) []) (fun t k => XS.icmpYes X0.here hx rfl (pc0 := 21) (pc' := 26) rfl (hb hby d5_21) rfl (by decide) (by decide) (by decide) k) ?_
  refine GoW.sg (mkF m 29 (Sh7 a1c a2c 5) []) (fun t k => XS.iinc X0.here hx rfl (hb hby d5_26) rfl (l' := (Sh7 a1c a2c 5)) rfl k) ?_
  refine GoW.sg (mkF m 9 (Sh7 a1c a2c 5) []) (fun t k => XS.goto X0.here hx rfl (pc0 := 29) (pc' := 9) rfl (hb hby d5_29) (by decide) (by decide) k) ?_
  refine GoW.sg (mkF m 10 (Sh7 a1c a2c 5) [(.int 5)]) (fun t k => XS.iloadN X0.here hx rfl (hb hby d5_9) rfl k) ?_
  refine GoW.sg (mkF m 11 (Sh7 a1c a2c 5) [(.ref a1c), (.int 5)]) (fun t k => XS.aloadN X0.here hx rfl (hb hby d5_10) rfl rfl k) ?_
  obtain ⟨cl59, Ar59, q59, Sz59, Nn59, Hh59, Gg59⟩ := id P0
  have st59 := X0.arraylength hx (hq_ e0 Ar59.1) (State.isArrayOf_alike hZ.alike Ar59.2.1) (g := (mkF m 11 (Sh7 a1c a2c 5) [(.ref a1c), (.int 5)])) rfl rfl (hb hby d5_11)
  rw [len_of Sz59 Nn59] at st59
  refine GoW.sg (mkF m 12 (Sh7 a1c a2c 5) [(.int 5), (.int 5)]) (fun t k => st59 t k) ?_
  refine GoW.sg (mkF m 32 (Sh7 a1c a2c 5) []) (fun t k => XS.icmpYes X0.here hx rfl (pc0 := 12) (pc' := 32) rfl (hb hby d5_12) rfl (by decide) (by decide) (by decide) k) ?_
  refine GoW.sg (mkF m 33 (Sh7 a1c a2c 5) [(.int 1)]) (fun t k => XS.iconst X0.here hx rfl (hb hby d5_32) k) ?_
  refine GoW.retN X0 hx (t := .boolean) Bd.returns (by simp) (hb hby d5_33) Bd.notSynchronized ?_ (by decide) (by decide)
  rw [e0]
  exact ⟨rfl, N0, rfl⟩
def Q4_5 (Z : State) (a1c : Addr) (a2c : Addr) (a3c : Addr) (a4c : Addr) (ka3c : ClassId) (ka4c : ClassId) (x1c : Int32) (h0 : Heap) (n0 : Nat) (v : Option Value) (h : Heap) (L : List Loc) : Prop := v = some (.int (1 : Int32)) ∧ Fr n0 L ∧ (h = h0)
theorem ef4_rm4_5 (m : MethodId) (a1c : Addr) (a2c : Addr) : entryFrame m #[(.ref a1c), (.ref a2c)] 3 = (mkF m 0 #[.val (.ref a1c), .val (.ref a2c), .unset] []) := by first | (simp [entryFrame, mkF, argsToLocals, Value.category, maxLocals]; done) | rfl
set_option maxRecDepth 65536 in
set_option maxHeartbeats 40000000 in
theorem rm4_5 (l : Launch) (Z : State) (a0 : Array Value) (hw : ∀ d ∈ tables_1, d.before a0 Z = true) (ws : List Jvm.Cond) (a1c : Addr) (a2c : Addr) (a3c : Addr) (a4c : Addr) (ka3c : ClassId) (ka4c : ClassId) (x1c : Int32) (h0 : Heap) (n0 : Nat) (P0 : Exa Z h0 a2c "java/lang/String") (P1 : Fld Z h0 a1c "java/lang/String" "coder" "B" (.int (0 : Int32))) (P2 : Fld Z h0 a2c "java/lang/String" "coder" "B" (.int (0 : Int32))) (P3 : Fld Z h0 a1c "java/lang/String" "value" "[B" (.ref a3c)) (P4 : Fld Z h0 a2c "java/lang/String" "value" "[B" (.ref a4c)) (P5 : Arv Z h0 a3c ka3c .byte (5 : Int32) [(.int (102 : Int32)), (.int (97 : Int32)), (.int (108 : Int32)), (.int (115 : Int32)), (.int (101 : Int32))] (.int (0 : Int32))) (P6 : Arv Z h0 a4c ka4c .byte (5 : Int32) [(.int (102 : Int32)), (.int (97 : Int32)), (.int (108 : Int32)), (.int (115 : Int32)), (.int (101 : Int32))] (.int (0 : Int32))) (P7 : Sta Z h0 "java/lang/String" "COMPACT_STRINGS" "Z" (.int x1c))   (u0 : ¬ (x1c = (0 : Int32)))   :
    MetFree l Y4 (head1 (Jvm.Cond.code Y4 jdk_42_method_66_code 3 (some .boolean) :: ws) ({ frames := 1, cells := 0, slots := 0, locals := 14 } : Room)) (fun a U => a = #[(.ref a1c), (.ref a2c)] ∧ Z.Warmed39 U.vm ∧ U.heap = h0) (fun _ _ _ _ _ => True) (fun _ U o U' => ∃ v L, o = .returned v ∧ (Q4_5 Z a1c a2c a3c a4c ka3c ka4c x1c h0 n0) v U'.heap L ∧ FrameEnd U o U' L 0 0) := by
  refine MetFree.of_bodySF (plainFor_of_name pn_java_lang_String) hisR ?_
  intro p e s m args below meth c s₁ Bd hml0 hP hK
  obtain ⟨rfl, hZ, hh⟩ := hP
  have hx := Bd.exec
  have hby := Bd.bytes
  have hml : c.maxLocals = 3 := hml0
  have hown : s.vm.findClass "java/lang/String" = some m.cls := findClass_of_methodNamed Bd.named
  have hnm := (name_of_methodNamed Bd.named Bd.method).1
  have X0 : Stand p l e ({ frames := 1, cells := 0, slots := 0, locals := 14 } : Room) s m #[(.ref a1c), (.ref a2c)] below meth c s₁ [] 0 0 := Stand.of_body Bd
  have e0 : s₁.heap = h0 := by rw [← hh, Bd.state]; rfl
  have N0 := Fr.nil n0
  refine GoW.mk ?_
  refine GoW.st (fun t k => castTop (ef4_rm4_5 m a1c a2c) k) ?_
  show GoW p e below s (Q4_5 Z a1c a2c a3c a4c ka3c ka4c x1c h0 n0) 0 0 (s₁.setTop (mkF m 0 (Sh5 a1c a2c) []))
  refine GoW.sg (mkF m 1 (Sh5 a1c a2c) [(.ref a1c)]) (fun t k => XS.aloadN X0.here hx rfl (hb hby d4_0) rfl rfl k) ?_
  refine GoW.sg (mkF m 2 (Sh5 a1c a2c) [(.ref a2c), (.ref a1c)]) (fun t k => XS.aloadN X0.here hx rfl (hb hby d4_1) rfl rfl k) ?_
  by_cases c61 : a1c = a2c
  · refine GoW.sg (mkF m 5 (Sh5 a1c a2c) []) (fun t k => Jvm.RoadKit.acmp X0 hx rfl (cd := .ne) (x := (.ref a1c)) (y := (.ref a2c)) rfl rfl (pc0 := 2) (pc' := 5) (same := true) rfl (hb hby d4_2) rfl (decide_eq_true (congrArg Value.ref c61)) (by decide) (by decide) k) ?_
    refine GoW.sg (mkF m 6 (Sh5 a1c a2c) [(.int 1)]) (fun t k => XS.iconst X0.here hx rfl (hb hby d4_5) k) ?_
    refine GoW.retN X0 hx (t := .boolean) Bd.returns (by simp) (hb hby d4_6) Bd.notSynchronized ?_ (by decide) (by decide)
    rw [e0]
    exact ⟨rfl, N0, rfl⟩
  · refine GoW.sg (mkF m 7 (Sh5 a1c a2c) []) (fun t k => Jvm.RoadKit.acmp X0 hx rfl (cd := .ne) (x := (.ref a1c)) (y := (.ref a2c)) rfl rfl (pc0 := 2) (pc' := 7) (same := false) rfl (hb hby d4_2) rfl (decide_eq_false fun q => c61 (Value.ref.inj q)) (by decide) (by decide) k) ?_
    refine GoW.sg (mkF m 8 (Sh5 a1c a2c) [(.ref a2c)]) (fun t k => XS.aloadN X0.here hx rfl (hb hby d4_7) rfl rfl k) ?_
    obtain ⟨T62, X62, e62, st62⟩ := instY X0 hx hZ hown (ww hw 37 rfl) e0 (Ins.self P0) (g := (mkF m 8 (Sh5 a1c a2c) [(.ref a2c)])) rfl rfl (hb hby d4_8)
    refine GoW.sg (mkF m 11 (Sh5 a1c a2c) [(.int 1)]) (fun t k => st62 t k) ?_
    refine GoW.sg (mkF m 14 (Sh5 a1c a2c) []) (fun t k => XS.ifNo X62.here hx rfl (hb hby d4_11) rfl (by decide) k) ?_
    refine GoW.sg (mkF m 15 (Sh5 a1c a2c) [(.ref a2c)]) (fun t k => XS.aloadN X62.here hx rfl (hb hby d4_14) rfl rfl k) ?_
    obtain ⟨T63, X63, e63, st63⟩ := castY X62 hx hZ hown (ww hw 37 rfl) e62 (Ins.self P0) (g := (mkF m 15 (Sh5 a1c a2c) [(.ref a2c)])) rfl rfl (hb hby d4_15)
    refine GoW.sg (mkF m 18 (Sh5 a1c a2c) [(.ref a2c)]) (fun t k => st63 t k) ?_
    refine GoW.sg (mkF m 19 (Sh6 a1c a2c a2c) []) (fun t k => XS.astoreN X63.here hx rfl (hb hby d4_18) rfl rfl (l' := (Sh6 a1c a2c a2c)) rfl k) ?_
    obtain ⟨T64, X64, e64, st64⟩ := getS (host := "") X63 hx hZ hown (ww hw 39 rfl) Via.refl e63 P7 (g := (mkF m 19 (Sh6 a1c a2c a2c) [])) rfl (hb hby d4_19)
    refine GoW.sg (mkF m 22 (Sh6 a1c a2c a2c) [(.int x1c)]) (fun t k => st64 t k) ?_
    refine GoW.sg (mkF m 25 (Sh6 a1c a2c a2c) []) (fun t k => XS.ifNo X64.here hx rfl (hb hby d4_22) rfl ((if0 _ _).trans (feq u0).1) k) ?_
    refine GoW.sg (mkF m 26 (Sh6 a1c a2c a2c) [(.ref a1c)]) (fun t k => XS.aloadN X64.here hx rfl (hb hby d4_25) rfl rfl k) ?_
    obtain ⟨T65, X65, e65, st65⟩ := getF X64 hx hZ hown (host := "") (Or.inl (ww hw 40 rfl)) Via.refl e64 P1 (g := (mkF m 26 (Sh6 a1c a2c a2c) [(.ref a1c)])) rfl rfl (hb hby d4_26)
    refine GoW.sg (mkF m 29 (Sh6 a1c a2c a2c) [(.int 0)]) (fun t k => st65 t k) ?_
    refine GoW.sg (mkF m 30 (Sh6 a1c a2c a2c) [(.ref a2c), (.int 0)]) (fun t k => XS.aloadN X65.here hx rfl (hb hby d4_29) rfl rfl k) ?_
    obtain ⟨T66, X66, e66, st66⟩ := getF X65 hx hZ hown (host := "") (Or.inl (ww hw 40 rfl)) Via.refl e65 P2 (g := (mkF m 30 (Sh6 a1c a2c a2c) [(.ref a2c), (.int 0)])) rfl rfl (hb hby d4_30)
    refine GoW.sg (mkF m 33 (Sh6 a1c a2c a2c) [(.int 0), (.int 0)]) (fun t k => st66 t k) ?_
    refine GoW.sg (mkF m 36 (Sh6 a1c a2c a2c) []) (fun t k => XS.icmpNo X66.here hx rfl (hb hby d4_33) rfl (by decide) k) ?_
    refine GoW.sg (mkF m 37 (Sh6 a1c a2c a2c) [(.ref a1c)]) (fun t k => XS.aloadN X66.here hx rfl (hb hby d4_36) rfl rfl k) ?_
    obtain ⟨T67, X67, e67, st67⟩ := getF X66 hx hZ hown (host := "") (Or.inl (ww hw 41 rfl)) Via.refl e66 P3 (g := (mkF m 37 (Sh6 a1c a2c a2c) [(.ref a1c)])) rfl rfl (hb hby d4_37)
    refine GoW.sg (mkF m 40 (Sh6 a1c a2c a2c) [(.ref a3c)]) (fun t k => st67 t k) ?_
    refine GoW.sg (mkF m 41 (Sh6 a1c a2c a2c) [(.ref a2c), (.ref a3c)]) (fun t k => XS.aloadN X67.here hx rfl (hb hby d4_40) rfl rfl k) ?_
    obtain ⟨T68, X68, e68, st68⟩ := getF X67 hx hZ hown (host := "") (Or.inl (ww hw 41 rfl)) Via.refl e67 P4 (g := (mkF m 41 (Sh6 a1c a2c a2c) [(.ref a2c), (.ref a3c)])) rfl rfl (hb hby d4_41)
    refine GoW.sg (mkF m 44 (Sh6 a1c a2c a2c) [(.ref a4c), (.ref a3c)]) (fun t k => st68 t k) ?_
    obtain ⟨_, T87, L87, X87, hQ87, st87⟩ := own_callS X68 hx hZ hown (y := Y5) (ww hw 42 rfl) (ww hw 43 rfl) (ww hw 44 rfl) (ww hw 45 rfl) (by decide) 0 (rm5_4 l Z a0 hw [] a3c a4c ka3c ka4c h0 n0  P5 P6    ) (by decide) (by decide) e68 (by decide) (by decide) (g := (mkF m 44 (Sh6 a1c a2c a2c) [(.ref a4c), (.ref a3c)])) rfl (by rw [hml]; rfl) (argsL := [(.ref a3c), (.ref a4c)]) (rest := []) (lenOf pd_285bB5bB29Z rfl) rfl (by show 2 * 0 + _ ≤ _; exact Nat.le_of_eq rfl) (hb hby d4_44)
    obtain ⟨rfl, N87q, e87⟩ := hQ87
    have N87 := Fr.app N0 N87q
    refine GoW.sg (mkF m 47 (Sh6 a1c a2c a2c) [(.int 1)]) (fun t k => st87 t k) ?_
    refine GoW.sg (mkF m 50 (Sh6 a1c a2c a2c) []) (fun t k => XS.ifNo X87.here hx rfl (hb hby d4_47) rfl (by decide) k) ?_
    refine GoW.sg (mkF m 51 (Sh6 a1c a2c a2c) [(.int 1)]) (fun t k => XS.iconst X87.here hx rfl (hb hby d4_50) k) ?_
    refine GoW.sg (mkF m 55 (Sh6 a1c a2c a2c) [(.int 1)]) (fun t k => XS.goto X87.here hx rfl (pc0 := 51) (pc' := 55) rfl (hb hby d4_51) (by decide) (by decide) k) ?_
    refine GoW.retN X87 hx (t := .boolean) Bd.returns (by simp) (hb hby d4_55) Bd.notSynchronized ?_ (by decide) (by decide)
    rw [e87]
    exact ⟨rfl, N87, rfl⟩
def Q1_6 (Z : State) (a1c : Addr) (h0 : Heap) (n0 : Nat) (v : Option Value) (h : Heap) (L : List Loc) : Prop := v = some (.ref a1c) ∧ Fr n0 L ∧ (h = h0)
theorem ef1_rm1_6 (m : MethodId)  : entryFrame m #[(.int (1 : Int32))] 1 = (mkF m 0 #[.val (.int 1)] []) := by first | (simp [entryFrame, mkF, argsToLocals, Value.category, maxLocals]; done) | rfl
set_option maxRecDepth 65536 in
set_option maxHeartbeats 40000000 in
theorem rm1_6 (l : Launch) (Z : State) (a0 : Array Value) (hw : ∀ d ∈ tables_1, d.before a0 Z = true) (ws : List Jvm.Cond)  (a1c : Addr) (h0 : Heap) (n0 : Nat) (P0 : Sta Z h0 "com/example/abacus/abacus/model/AttributeValue" "TRUE" "Lcom/example/abacus/abacus/model/AttributeValue;" (.ref a1c))      :
    MetFree l Y1 (head1 (Jvm.Cond.code Y1 prog_87_method_3_code 1 (some (.object "com/example/abacus/abacus/model/AttributeValue")) :: ws) ({ frames := 0, cells := 0, slots := 0, locals := 0 } : Room)) (fun a U => a = #[(.int (1 : Int32))] ∧ Z.Warmed39 U.vm ∧ U.heap = h0) (fun _ _ _ _ _ => True) (fun _ U o U' => ∃ v L, o = .returned v ∧ (Q1_6 Z a1c h0 n0) v U'.heap L ∧ FrameEnd U o U' L 0 0) := by
  refine MetFree.of_bodySF (plainFor_of_name pn_com_example_abacus_abacus_model_AttributeValue) hisR ?_
  intro p e s m args below meth c s₁ Bd hml0 hP hK
  obtain ⟨rfl, hZ, hh⟩ := hP
  have hx := Bd.exec
  have hby := Bd.bytes
  have hml : c.maxLocals = 1 := hml0
  have hown : s.vm.findClass "com/example/abacus/abacus/model/AttributeValue" = some m.cls := findClass_of_methodNamed Bd.named
  have hnm := (name_of_methodNamed Bd.named Bd.method).1
  have X0 : Stand p l e ({ frames := 0, cells := 0, slots := 0, locals := 0 } : Room) s m #[(.int (1 : Int32))] below meth c s₁ [] 0 0 := Stand.of_body Bd
  have e0 : s₁.heap = h0 := by rw [← hh, Bd.state]; rfl
  have N0 := Fr.nil n0
  refine GoW.mk ?_
  refine GoW.st (fun t k => castTop (ef1_rm1_6 m ) k) ?_
  show GoW p e below s (Q1_6 Z a1c h0 n0) 0 0 (s₁.setTop (mkF m 0 #[.val (.int 1)] []))
  refine GoW.sg (mkF m 1 #[.val (.int 1)] [(.int 1)]) (fun t k => XS.iloadN X0.here hx rfl (hb hby d1_0) rfl k) ?_
  refine GoW.sg (mkF m 4 #[.val (.int 1)] []) (fun t k => XS.ifNo X0.here hx rfl (hb hby d1_1) rfl (by decide) k) ?_
  obtain ⟨T90, X90, e90, st90⟩ := getS (host := "") X0 hx hZ hown (ww hw 46 rfl) Via.refl e0 P0 (g := (mkF m 4 #[.val (.int 1)] [])) rfl (hb hby d1_4)
  refine GoW.sg (mkF m 7 #[.val (.int 1)] [(.ref a1c)]) (fun t k => st90 t k) ?_
  refine GoW.sg (mkF m 13 #[.val (.int 1)] [(.ref a1c)]) (fun t k => XS.goto X90.here hx rfl (pc0 := 7) (pc' := 13) rfl (hb hby d1_7) (by decide) (by decide) k) ?_
  refine GoW.retA X90 hx Bd.returns rfl rfl rfl (hb hby d1_13) Bd.notSynchronized ?_ (by decide) (by decide)
  rw [e90]
  exact ⟨rfl, N0, rfl⟩
def Q5_7 (Z : State) (a1c : Addr) (a2c : Addr) (ka1c : ClassId) (ka2c : ClassId) (h0 : Heap) (n0 : Nat) (v : Option Value) (h : Heap) (L : List Loc) : Prop := v = some (.int (1 : Int32)) ∧ Fr n0 L ∧ (h = h0)
theorem ef5_rm5_7 (m : MethodId) (a1c : Addr) (a2c : Addr) : entryFrame m #[(.ref a1c), (.ref a2c)] 3 = (mkF m 0 #[.val (.ref a1c), .val (.ref a2c), .unset] []) := by first | (simp [entryFrame, mkF, argsToLocals, Value.category, maxLocals]; done) | rfl
set_option maxRecDepth 65536 in
set_option maxHeartbeats 40000000 in
theorem rm5_7 (l : Launch) (Z : State) (a0 : Array Value) (hw : ∀ d ∈ tables_1, d.before a0 Z = true) (ws : List Jvm.Cond) (a1c : Addr) (a2c : Addr) (ka1c : ClassId) (ka2c : ClassId) (h0 : Heap) (n0 : Nat) (P0 : Arv Z h0 a1c ka1c .byte (4 : Int32) [(.int (116 : Int32)), (.int (114 : Int32)), (.int (117 : Int32)), (.int (101 : Int32))] (.int (0 : Int32))) (P1 : Arv Z h0 a2c ka2c .byte (4 : Int32) [(.int (116 : Int32)), (.int (114 : Int32)), (.int (117 : Int32)), (.int (101 : Int32))] (.int (0 : Int32)))      :
    MetFree l Y5 (head1 (Jvm.Cond.code Y5 jdk_43_method_13_code 3 (some .boolean) :: ws) ({ frames := 0, cells := 0, slots := 0, locals := 0 } : Room)) (fun a U => a = #[(.ref a1c), (.ref a2c)] ∧ Z.Warmed39 U.vm ∧ U.heap = h0) (fun _ _ _ _ _ => True) (fun _ U o U' => ∃ v L, o = .returned v ∧ (Q5_7 Z a1c a2c ka1c ka2c h0 n0) v U'.heap L ∧ FrameEnd U o U' L 0 0) := by
  refine MetFree.of_bodySF (plainFor_of_name pn_java_lang_StringLatin1) hisR ?_
  intro p e s m args below meth c s₁ Bd hml0 hP hK
  obtain ⟨rfl, hZ, hh⟩ := hP
  have hx := Bd.exec
  have hby := Bd.bytes
  have hml : c.maxLocals = 3 := hml0
  have hown : s.vm.findClass "java/lang/StringLatin1" = some m.cls := findClass_of_methodNamed Bd.named
  have hnm := (name_of_methodNamed Bd.named Bd.method).1
  have X0 : Stand p l e ({ frames := 0, cells := 0, slots := 0, locals := 0 } : Room) s m #[(.ref a1c), (.ref a2c)] below meth c s₁ [] 0 0 := Stand.of_body Bd
  have e0 : s₁.heap = h0 := by rw [← hh, Bd.state]; rfl
  have N0 := Fr.nil n0
  refine GoW.mk ?_
  refine GoW.st (fun t k => castTop (ef5_rm5_7 m a1c a2c) k) ?_
  show GoW p e below s (Q5_7 Z a1c a2c ka1c ka2c h0 n0) 0 0 (s₁.setTop (mkF m 0 (Sh5 a1c a2c) []))
  refine GoW.sg (mkF m 1 (Sh5 a1c a2c) [(.ref a1c)]) (fun t k => XS.aloadN X0.here hx rfl (hb hby d5_0) rfl rfl k) ?_
  obtain ⟨cl123, Ar123, q123, Sz123, Nn123, Hh123, Gg123⟩ := id P0
  have st123 := X0.arraylength hx (hq_ e0 Ar123.1) (State.isArrayOf_alike hZ.alike Ar123.2.1) (g := (mkF m 1 (Sh5 a1c a2c) [(.ref a1c)])) rfl rfl (hb hby d5_1)
  rw [len_of Sz123 Nn123] at st123
  refine GoW.sg (mkF m 2 (Sh5 a1c a2c) [(.int 4)]) (fun t k => st123 t k) ?_
  refine GoW.sg (mkF m 3 (Sh5 a1c a2c) [(.ref a2c), (.int 4)]) (fun t k => XS.aloadN X0.here hx rfl (hb hby d5_2) rfl rfl k) ?_
  obtain ⟨cl124, Ar124, q124, Sz124, Nn124, Hh124, Gg124⟩ := id P1
  have st124 := X0.arraylength hx (hq_ e0 Ar124.1) (State.isArrayOf_alike hZ.alike Ar124.2.1) (g := (mkF m 3 (Sh5 a1c a2c) [(.ref a2c), (.int 4)])) rfl rfl (hb hby d5_3)
  rw [len_of Sz124 Nn124] at st124
  refine GoW.sg (mkF m 4 (Sh5 a1c a2c) [(.int 4), (.int 4)]) (fun t k => st124 t k) ?_
  refine GoW.sg (mkF m 7 (Sh5 a1c a2c) []) (fun t k => XS.icmpNo X0.here hx rfl (hb hby d5_4) rfl (by decide) k) ?_
  refine GoW.sg (mkF m 8 (Sh5 a1c a2c) [(.int 0)]) (fun t k => XS.iconst X0.here hx rfl (hb hby d5_7) k) ?_
  refine GoW.sg (mkF m 9 (Sh7 a1c a2c 0) []) (fun t k => XS.istoreN X0.here hx rfl (hb hby d5_8) rfl (l' := (Sh7 a1c a2c 0)) rfl k) ?_
  refine GoW.sg (mkF m 10 (Sh7 a1c a2c 0) [(.int 0)]) (fun t k => XS.iloadN X0.here hx rfl (hb hby d5_9) rfl k) ?_
  refine GoW.sg (mkF m 11 (Sh7 a1c a2c 0) [(.ref a1c), (.int 0)]) (fun t k => XS.aloadN X0.here hx rfl (hb hby d5_10) rfl rfl k) ?_
  obtain ⟨cl125, Ar125, q125, Sz125, Nn125, Hh125, Gg125⟩ := id P0
  have st125 := X0.arraylength hx (hq_ e0 Ar125.1) (State.isArrayOf_alike hZ.alike Ar125.2.1) (g := (mkF m 11 (Sh7 a1c a2c 0) [(.ref a1c), (.int 0)])) rfl rfl (hb hby d5_11)
  rw [len_of Sz125 Nn125] at st125
  refine GoW.sg (mkF m 12 (Sh7 a1c a2c 0) [(.int 4), (.int 0)]) (fun t k => st125 t k) ?_
  refine GoW.sg (mkF m 15 (Sh7 a1c a2c 0) []) (fun t k => XS.icmpNo X0.here hx rfl (hb hby d5_12) rfl (by decide) k) ?_
  refine GoW.sg (mkF m 16 (Sh7 a1c a2c 0) [(.ref a1c)]) (fun t k => XS.aloadN X0.here hx rfl (hb hby d5_15) rfl rfl k) ?_
  refine GoW.sg (mkF m 17 (Sh7 a1c a2c 0) [(.int 0), (.ref a1c)]) (fun t k => XS.iloadN X0.here hx rfl (hb hby d5_16) rfl k) ?_
  obtain ⟨cl126, Ar126, q126, Sz126, Nn126, Hh126, Gg126⟩ := id P0
  have hin126 : ¬ ((0 : Int32) < 0 ∨ cl126.slots.size ≤ ((0 : Int32)).toNatClampNeg) := inb_of Sz126 ⟨by decide, by decide⟩
  refine GoW.sg (mkF m 18 (Sh7 a1c a2c 0) [(.int 116)]) (fun t k => X0.baloadBytes hx (j := (0 : Int32)) (v := (.int (116 : Int32))) (hq_ e0 Ar126.1) (State.isArrayOf_alike hZ.alike Ar126.2.1) Ar126.2.2 hin126 (Hh126.at hin126 rfl) (g := (mkF m 17 (Sh7 a1c a2c 0) [(.int 0), (.ref a1c)])) rfl rfl (hb hby d5_17) t k) ?_
  refine GoW.sg (mkF m 19 (Sh7 a1c a2c 0) [(.ref a2c), (.int 116)]) (fun t k => XS.aloadN X0.here hx rfl (hb hby d5_18) rfl rfl k) ?_
  refine GoW.sg (mkF m 20 (Sh7 a1c a2c 0) [(.int 0), (.ref a2c), (.int 116)]) (fun t k => XS.iloadN X0.here hx rfl (hb hby d5_19) rfl k) ?_
  obtain ⟨cl127, Ar127, q127, Sz127, Nn127, Hh127, Gg127⟩ := id P1
  have hin127 : ¬ ((0 : Int32) < 0 ∨ cl127.slots.size ≤ ((0 : Int32)).toNatClampNeg) := inb_of Sz127 ⟨by decide, by decide⟩
  refine GoW.sg (mkF m 21 (Sh7 a1c a2c 0) [(.int 116), (.int 116)]) (fun t k => X0.baloadBytes hx (j := (0 : Int32)) (v := (.int (116 : Int32))) (hq_ e0 Ar127.1) (State.isArrayOf_alike hZ.alike Ar127.2.1) Ar127.2.2 hin127 (Hh127.at hin127 rfl) (g := (mkF m 20 (Sh7 a1c a2c 0) [(.int 0), (.ref a2c), (.int 116)])) rfl rfl (hb hby d5_20) t k) ?_
  refine GoW.sg (mkF m 26 (Sh7 a1c a2c 0) []) (fun t k => XS.icmpYes X0.here hx rfl (pc0 := 21) (pc' := 26) rfl (hb hby d5_21) rfl (by decide) (by decide) (by decide) k) ?_
  refine GoW.sg (mkF m 29 (Sh7 a1c a2c 1) []) (fun t k => XS.iinc X0.here hx rfl (hb hby d5_26) rfl (l' := (Sh7 a1c a2c 1)) rfl k) ?_
  refine GoW.sg (mkF m 9 (Sh7 a1c a2c 1) []) (fun t k => XS.goto X0.here hx rfl (pc0 := 29) (pc' := 9) rfl (hb hby d5_29) (by decide) (by decide) k) ?_
  refine GoW.sg (mkF m 10 (Sh7 a1c a2c 1) [(.int 1)]) (fun t k => XS.iloadN X0.here hx rfl (hb hby d5_9) rfl k) ?_
  refine GoW.sg (mkF m 11 (Sh7 a1c a2c 1) [(.ref a1c), (.int 1)]) (fun t k => XS.aloadN X0.here hx rfl (hb hby d5_10) rfl rfl k) ?_
  obtain ⟨cl128, Ar128, q128, Sz128, Nn128, Hh128, Gg128⟩ := id P0
  have st128 := X0.arraylength hx (hq_ e0 Ar128.1) (State.isArrayOf_alike hZ.alike Ar128.2.1) (g := (mkF m 11 (Sh7 a1c a2c 1) [(.ref a1c), (.int 1)])) rfl rfl (hb hby d5_11)
  rw [len_of Sz128 Nn128] at st128
  refine GoW.sg (mkF m 12 (Sh7 a1c a2c 1) [(.int 4), (.int 1)]) (fun t k => st128 t k) ?_
  refine GoW.sg (mkF m 15 (Sh7 a1c a2c 1) []) (fun t k => XS.icmpNo X0.here hx rfl (hb hby d5_12) rfl (by decide) k) ?_
  refine GoW.sg (mkF m 16 (Sh7 a1c a2c 1) [(.ref a1c)]) (fun t k => XS.aloadN X0.here hx rfl (hb hby d5_15) rfl rfl k) ?_
  refine GoW.sg (mkF m 17 (Sh7 a1c a2c 1) [(.int 1), (.ref a1c)]) (fun t k => XS.iloadN X0.here hx rfl (hb hby d5_16) rfl k) ?_
  obtain ⟨cl129, Ar129, q129, Sz129, Nn129, Hh129, Gg129⟩ := id P0
  have hin129 : ¬ ((1 : Int32) < 0 ∨ cl129.slots.size ≤ ((1 : Int32)).toNatClampNeg) := inb_of Sz129 ⟨by decide, by decide⟩
  refine GoW.sg (mkF m 18 (Sh7 a1c a2c 1) [(.int 114)]) (fun t k => X0.baloadBytes hx (j := (1 : Int32)) (v := (.int (114 : Int32))) (hq_ e0 Ar129.1) (State.isArrayOf_alike hZ.alike Ar129.2.1) Ar129.2.2 hin129 (Hh129.at hin129 rfl) (g := (mkF m 17 (Sh7 a1c a2c 1) [(.int 1), (.ref a1c)])) rfl rfl (hb hby d5_17) t k) ?_
  refine GoW.sg (mkF m 19 (Sh7 a1c a2c 1) [(.ref a2c), (.int 114)]) (fun t k => XS.aloadN X0.here hx rfl (hb hby d5_18) rfl rfl k) ?_
  refine GoW.sg (mkF m 20 (Sh7 a1c a2c 1) [(.int 1), (.ref a2c), (.int 114)]) (fun t k => XS.iloadN X0.here hx rfl (hb hby d5_19) rfl k) ?_
  obtain ⟨cl130, Ar130, q130, Sz130, Nn130, Hh130, Gg130⟩ := id P1
  have hin130 : ¬ ((1 : Int32) < 0 ∨ cl130.slots.size ≤ ((1 : Int32)).toNatClampNeg) := inb_of Sz130 ⟨by decide, by decide⟩
  refine GoW.sg (mkF m 21 (Sh7 a1c a2c 1) [(.int 114), (.int 114)]) (fun t k => X0.baloadBytes hx (j := (1 : Int32)) (v := (.int (114 : Int32))) (hq_ e0 Ar130.1) (State.isArrayOf_alike hZ.alike Ar130.2.1) Ar130.2.2 hin130 (Hh130.at hin130 rfl) (g := (mkF m 20 (Sh7 a1c a2c 1) [(.int 1), (.ref a2c), (.int 114)])) rfl rfl (hb hby d5_20) t k) ?_
  refine GoW.sg (mkF m 26 (Sh7 a1c a2c 1) []) (fun t k => XS.icmpYes X0.here hx rfl (pc0 := 21) (pc' := 26) rfl (hb hby d5_21) rfl (by decide) (by decide) (by decide) k) ?_
  refine GoW.sg (mkF m 29 (Sh7 a1c a2c 2) []) (fun t k => XS.iinc X0.here hx rfl (hb hby d5_26) rfl (l' := (Sh7 a1c a2c 2)) rfl k) ?_
  refine GoW.sg (mkF m 9 (Sh7 a1c a2c 2) []) (fun t k => XS.goto X0.here hx rfl (pc0 := 29) (pc' := 9) rfl (hb hby d5_29) (by decide) (by decide) k) ?_
  refine GoW.sg (mkF m 10 (Sh7 a1c a2c 2) [(.int 2)]) (fun t k => XS.iloadN X0.here hx rfl (hb hby d5_9) rfl k) ?_
  refine GoW.sg (mkF m 11 (Sh7 a1c a2c 2) [(.ref a1c), (.int 2)]) (fun t k => XS.aloadN X0.here hx rfl (hb hby d5_10) rfl rfl k) ?_
  obtain ⟨cl131, Ar131, q131, Sz131, Nn131, Hh131, Gg131⟩ := id P0
  have st131 := X0.arraylength hx (hq_ e0 Ar131.1) (State.isArrayOf_alike hZ.alike Ar131.2.1) (g := (mkF m 11 (Sh7 a1c a2c 2) [(.ref a1c), (.int 2)])) rfl rfl (hb hby d5_11)
  rw [len_of Sz131 Nn131] at st131
  refine GoW.sg (mkF m 12 (Sh7 a1c a2c 2) [(.int 4), (.int 2)]) (fun t k => st131 t k) ?_
  refine GoW.sg (mkF m 15 (Sh7 a1c a2c 2) []) (fun t k => XS.icmpNo X0.here hx rfl (hb hby d5_12) rfl (by decide) k) ?_
  refine GoW.sg (mkF m 16 (Sh7 a1c a2c 2) [(.ref a1c)]) (fun t k => XS.aloadN X0.here hx rfl (hb hby d5_15) rfl rfl k) ?_
  refine GoW.sg (mkF m 17 (Sh7 a1c a2c 2) [(.int 2), (.ref a1c)]) (fun t k => XS.iloadN X0.here hx rfl (hb hby d5_16) rfl k) ?_
  obtain ⟨cl132, Ar132, q132, Sz132, Nn132, Hh132, Gg132⟩ := id P0
  have hin132 : ¬ ((2 : Int32) < 0 ∨ cl132.slots.size ≤ ((2 : Int32)).toNatClampNeg) := inb_of Sz132 ⟨by decide, by decide⟩
  refine GoW.sg (mkF m 18 (Sh7 a1c a2c 2) [(.int 117)]) (fun t k => X0.baloadBytes hx (j := (2 : Int32)) (v := (.int (117 : Int32))) (hq_ e0 Ar132.1) (State.isArrayOf_alike hZ.alike Ar132.2.1) Ar132.2.2 hin132 (Hh132.at hin132 rfl) (g := (mkF m 17 (Sh7 a1c a2c 2) [(.int 2), (.ref a1c)])) rfl rfl (hb hby d5_17) t k) ?_
  refine GoW.sg (mkF m 19 (Sh7 a1c a2c 2) [(.ref a2c), (.int 117)]) (fun t k => XS.aloadN X0.here hx rfl (hb hby d5_18) rfl rfl k) ?_
  refine GoW.sg (mkF m 20 (Sh7 a1c a2c 2) [(.int 2), (.ref a2c), (.int 117)]) (fun t k => XS.iloadN X0.here hx rfl (hb hby d5_19) rfl k) ?_
  obtain ⟨cl133, Ar133, q133, Sz133, Nn133, Hh133, Gg133⟩ := id P1
  have hin133 : ¬ ((2 : Int32) < 0 ∨ cl133.slots.size ≤ ((2 : Int32)).toNatClampNeg) := inb_of Sz133 ⟨by decide, by decide⟩
  refine GoW.sg (mkF m 21 (Sh7 a1c a2c 2) [(.int 117), (.int 117)]) (fun t k => X0.baloadBytes hx (j := (2 : Int32)) (v := (.int (117 : Int32))) (hq_ e0 Ar133.1) (State.isArrayOf_alike hZ.alike Ar133.2.1) Ar133.2.2 hin133 (Hh133.at hin133 rfl) (g := (mkF m 20 (Sh7 a1c a2c 2) [(.int 2), (.ref a2c), (.int 117)])) rfl rfl (hb hby d5_20) t k) ?_
  refine GoW.sg (mkF m 26 (Sh7 a1c a2c 2) []) (fun t k => XS.icmpYes X0.here hx rfl (pc0 := 21) (pc' := 26) rfl (hb hby d5_21) rfl (by decide) (by decide) (by decide) k) ?_
  refine GoW.sg (mkF m 29 (Sh7 a1c a2c 3) []) (fun t k => XS.iinc X0.here hx rfl (hb hby d5_26) rfl (l' := (Sh7 a1c a2c 3)) rfl k) ?_
  refine GoW.sg (mkF m 9 (Sh7 a1c a2c 3) []) (fun t k => XS.goto X0.here hx rfl (pc0 := 29) (pc' := 9) rfl (hb hby d5_29) (by decide) (by decide) k) ?_
  refine GoW.sg (mkF m 10 (Sh7 a1c a2c 3) [(.int 3)]) (fun t k => XS.iloadN X0.here hx rfl (hb hby d5_9) rfl k) ?_
  refine GoW.sg (mkF m 11 (Sh7 a1c a2c 3) [(.ref a1c), (.int 3)]) (fun t k => XS.aloadN X0.here hx rfl (hb hby d5_10) rfl rfl k) ?_
  obtain ⟨cl134, Ar134, q134, Sz134, Nn134, Hh134, Gg134⟩ := id P0
  have st134 := X0.arraylength hx (hq_ e0 Ar134.1) (State.isArrayOf_alike hZ.alike Ar134.2.1) (g := (mkF m 11 (Sh7 a1c a2c 3) [(.ref a1c), (.int 3)])) rfl rfl (hb hby d5_11)
  rw [len_of Sz134 Nn134] at st134
  refine GoW.sg (mkF m 12 (Sh7 a1c a2c 3) [(.int 4), (.int 3)]) (fun t k => st134 t k) ?_
  refine GoW.sg (mkF m 15 (Sh7 a1c a2c 3) []) (fun t k => XS.icmpNo X0.here hx rfl (hb hby d5_12) rfl (by decide) k) ?_
  refine GoW.sg (mkF m 16 (Sh7 a1c a2c 3) [(.ref a1c)]) (fun t k => XS.aloadN X0.here hx rfl (hb hby d5_15) rfl rfl k) ?_
  refine GoW.sg (mkF m 17 (Sh7 a1c a2c 3) [(.int 3), (.ref a1c)]) (fun t k => XS.iloadN X0.here hx rfl (hb hby d5_16) rfl k) ?_
  obtain ⟨cl135, Ar135, q135, Sz135, Nn135, Hh135, Gg135⟩ := id P0
  have hin135 : ¬ ((3 : Int32) < 0 ∨ cl135.slots.size ≤ ((3 : Int32)).toNatClampNeg) := inb_of Sz135 ⟨by decide, by decide⟩
  refine GoW.sg (mkF m 18 (Sh7 a1c a2c 3) [(.int 101)]) (fun t k => X0.baloadBytes hx (j := (3 : Int32)) (v := (.int (101 : Int32))) (hq_ e0 Ar135.1) (State.isArrayOf_alike hZ.alike Ar135.2.1) Ar135.2.2 hin135 (Hh135.at hin135 rfl) (g := (mkF m 17 (Sh7 a1c a2c 3) [(.int 3), (.ref a1c)])) rfl rfl (hb hby d5_17) t k) ?_
  refine GoW.sg (mkF m 19 (Sh7 a1c a2c 3) [(.ref a2c), (.int 101)]) (fun t k => XS.aloadN X0.here hx rfl (hb hby d5_18) rfl rfl k) ?_
  refine GoW.sg (mkF m 20 (Sh7 a1c a2c 3) [(.int 3), (.ref a2c), (.int 101)]) (fun t k => XS.iloadN X0.here hx rfl (hb hby d5_19) rfl k) ?_
  obtain ⟨cl136, Ar136, q136, Sz136, Nn136, Hh136, Gg136⟩ := id P1
  have hin136 : ¬ ((3 : Int32) < 0 ∨ cl136.slots.size ≤ ((3 : Int32)).toNatClampNeg) := inb_of Sz136 ⟨by decide, by decide⟩
  refine GoW.sg (mkF m 21 (Sh7 a1c a2c 3) [(.int 101), (.int 101)]) (fun t k => X0.baloadBytes hx (j := (3 : Int32)) (v := (.int (101 : Int32))) (hq_ e0 Ar136.1) (State.isArrayOf_alike hZ.alike Ar136.2.1) Ar136.2.2 hin136 (Hh136.at hin136 rfl) (g := (mkF m 20 (Sh7 a1c a2c 3) [(.int 3), (.ref a2c), (.int 101)])) rfl rfl (hb hby d5_20) t k) ?_
  refine GoW.sg (mkF m 26 (Sh7 a1c a2c 3) []) (fun t k => XS.icmpYes X0.here hx rfl (pc0 := 21) (pc' := 26) rfl (hb hby d5_21) rfl (by decide) (by decide) (by decide) k) ?_
  refine GoW.sg (mkF m 29 (Sh7 a1c a2c 4) []) (fun t k => XS.iinc X0.here hx rfl (hb hby d5_26) rfl (l' := (Sh7 a1c a2c 4)) rfl k) ?_
  refine GoW.sg (mkF m 9 (Sh7 a1c a2c 4) []) (fun t k => XS.goto X0.here hx rfl (pc0 := 29) (pc' := 9) rfl (hb hby d5_29) (by decide) (by decide) k) ?_
  refine GoW.sg (mkF m 10 (Sh7 a1c a2c 4) [(.int 4)]) (fun t k => XS.iloadN X0.here hx rfl (hb hby d5_9) rfl k) ?_
  refine GoW.sg (mkF m 11 (Sh7 a1c a2c 4) [(.ref a1c), (.int 4)]) (fun t k => XS.aloadN X0.here hx rfl (hb hby d5_10) rfl rfl k) ?_
  obtain ⟨cl137, Ar137, q137, Sz137, Nn137, Hh137, Gg137⟩ := id P0
  have st137 := X0.arraylength hx (hq_ e0 Ar137.1) (State.isArrayOf_alike hZ.alike Ar137.2.1) (g := (mkF m 11 (Sh7 a1c a2c 4) [(.ref a1c), (.int 4)])) rfl rfl (hb hby d5_11)
  rw [len_of Sz137 Nn137] at st137
  refine GoW.sg (mkF m 12 (Sh7 a1c a2c 4) [(.int 4), (.int 4)]) (fun t k => st137 t k) ?_
  refine GoW.sg (mkF m 32 (Sh7 a1c a2c 4) []) (fun t k => XS.icmpYes X0.here hx rfl (pc0 := 12) (pc' := 32) rfl (hb hby d5_12) rfl (by decide) (by decide) (by decide) k) ?_
  refine GoW.sg (mkF m 33 (Sh7 a1c a2c 4) [(.int 1)]) (fun t k => XS.iconst X0.here hx rfl (hb hby d5_32) k) ?_
  refine GoW.retN X0 hx (t := .boolean) Bd.returns (by simp) (hb hby d5_33) Bd.notSynchronized ?_ (by decide) (by decide)
  rw [e0]
  exact ⟨rfl, N0, rfl⟩
def Q4_8 (Z : State) (a1c : Addr) (a2c : Addr) (a3c : Addr) (a4c : Addr) (ka3c : ClassId) (ka4c : ClassId) (x1c : Int32) (h0 : Heap) (n0 : Nat) (v : Option Value) (h : Heap) (L : List Loc) : Prop := v = some (.int (1 : Int32)) ∧ Fr n0 L ∧ (h = h0)
theorem ef4_rm4_8 (m : MethodId) (a1c : Addr) (a2c : Addr) : entryFrame m #[(.ref a1c), (.ref a2c)] 3 = (mkF m 0 #[.val (.ref a1c), .val (.ref a2c), .unset] []) := by first | (simp [entryFrame, mkF, argsToLocals, Value.category, maxLocals]; done) | rfl
set_option maxRecDepth 65536 in
set_option maxHeartbeats 40000000 in
theorem rm4_8 (l : Launch) (Z : State) (a0 : Array Value) (hw : ∀ d ∈ tables_1, d.before a0 Z = true) (ws : List Jvm.Cond) (a1c : Addr) (a2c : Addr) (a3c : Addr) (a4c : Addr) (ka3c : ClassId) (ka4c : ClassId) (x1c : Int32) (h0 : Heap) (n0 : Nat) (P0 : Exa Z h0 a2c "java/lang/String") (P1 : Fld Z h0 a1c "java/lang/String" "coder" "B" (.int (0 : Int32))) (P2 : Fld Z h0 a2c "java/lang/String" "coder" "B" (.int (0 : Int32))) (P3 : Fld Z h0 a1c "java/lang/String" "value" "[B" (.ref a3c)) (P4 : Fld Z h0 a2c "java/lang/String" "value" "[B" (.ref a4c)) (P5 : Arv Z h0 a3c ka3c .byte (4 : Int32) [(.int (116 : Int32)), (.int (114 : Int32)), (.int (117 : Int32)), (.int (101 : Int32))] (.int (0 : Int32))) (P6 : Arv Z h0 a4c ka4c .byte (4 : Int32) [(.int (116 : Int32)), (.int (114 : Int32)), (.int (117 : Int32)), (.int (101 : Int32))] (.int (0 : Int32))) (P7 : Sta Z h0 "java/lang/String" "COMPACT_STRINGS" "Z" (.int x1c))   (u0 : ¬ (x1c = (0 : Int32)))   :
    MetFree l Y4 (head1 (Jvm.Cond.code Y4 jdk_42_method_66_code 3 (some .boolean) :: ws) ({ frames := 1, cells := 0, slots := 0, locals := 14 } : Room)) (fun a U => a = #[(.ref a1c), (.ref a2c)] ∧ Z.Warmed39 U.vm ∧ U.heap = h0) (fun _ _ _ _ _ => True) (fun _ U o U' => ∃ v L, o = .returned v ∧ (Q4_8 Z a1c a2c a3c a4c ka3c ka4c x1c h0 n0) v U'.heap L ∧ FrameEnd U o U' L 0 0) := by
  refine MetFree.of_bodySF (plainFor_of_name pn_java_lang_String) hisR ?_
  intro p e s m args below meth c s₁ Bd hml0 hP hK
  obtain ⟨rfl, hZ, hh⟩ := hP
  have hx := Bd.exec
  have hby := Bd.bytes
  have hml : c.maxLocals = 3 := hml0
  have hown : s.vm.findClass "java/lang/String" = some m.cls := findClass_of_methodNamed Bd.named
  have hnm := (name_of_methodNamed Bd.named Bd.method).1
  have X0 : Stand p l e ({ frames := 1, cells := 0, slots := 0, locals := 14 } : Room) s m #[(.ref a1c), (.ref a2c)] below meth c s₁ [] 0 0 := Stand.of_body Bd
  have e0 : s₁.heap = h0 := by rw [← hh, Bd.state]; rfl
  have N0 := Fr.nil n0
  refine GoW.mk ?_
  refine GoW.st (fun t k => castTop (ef4_rm4_8 m a1c a2c) k) ?_
  show GoW p e below s (Q4_8 Z a1c a2c a3c a4c ka3c ka4c x1c h0 n0) 0 0 (s₁.setTop (mkF m 0 (Sh5 a1c a2c) []))
  refine GoW.sg (mkF m 1 (Sh5 a1c a2c) [(.ref a1c)]) (fun t k => XS.aloadN X0.here hx rfl (hb hby d4_0) rfl rfl k) ?_
  refine GoW.sg (mkF m 2 (Sh5 a1c a2c) [(.ref a2c), (.ref a1c)]) (fun t k => XS.aloadN X0.here hx rfl (hb hby d4_1) rfl rfl k) ?_
  by_cases c139 : a1c = a2c
  · refine GoW.sg (mkF m 5 (Sh5 a1c a2c) []) (fun t k => Jvm.RoadKit.acmp X0 hx rfl (cd := .ne) (x := (.ref a1c)) (y := (.ref a2c)) rfl rfl (pc0 := 2) (pc' := 5) (same := true) rfl (hb hby d4_2) rfl (decide_eq_true (congrArg Value.ref c139)) (by decide) (by decide) k) ?_
    refine GoW.sg (mkF m 6 (Sh5 a1c a2c) [(.int 1)]) (fun t k => XS.iconst X0.here hx rfl (hb hby d4_5) k) ?_
    refine GoW.retN X0 hx (t := .boolean) Bd.returns (by simp) (hb hby d4_6) Bd.notSynchronized ?_ (by decide) (by decide)
    rw [e0]
    exact ⟨rfl, N0, rfl⟩
  · refine GoW.sg (mkF m 7 (Sh5 a1c a2c) []) (fun t k => Jvm.RoadKit.acmp X0 hx rfl (cd := .ne) (x := (.ref a1c)) (y := (.ref a2c)) rfl rfl (pc0 := 2) (pc' := 7) (same := false) rfl (hb hby d4_2) rfl (decide_eq_false fun q => c139 (Value.ref.inj q)) (by decide) (by decide) k) ?_
    refine GoW.sg (mkF m 8 (Sh5 a1c a2c) [(.ref a2c)]) (fun t k => XS.aloadN X0.here hx rfl (hb hby d4_7) rfl rfl k) ?_
    obtain ⟨T140, X140, e140, st140⟩ := instY X0 hx hZ hown (ww hw 37 rfl) e0 (Ins.self P0) (g := (mkF m 8 (Sh5 a1c a2c) [(.ref a2c)])) rfl rfl (hb hby d4_8)
    refine GoW.sg (mkF m 11 (Sh5 a1c a2c) [(.int 1)]) (fun t k => st140 t k) ?_
    refine GoW.sg (mkF m 14 (Sh5 a1c a2c) []) (fun t k => XS.ifNo X140.here hx rfl (hb hby d4_11) rfl (by decide) k) ?_
    refine GoW.sg (mkF m 15 (Sh5 a1c a2c) [(.ref a2c)]) (fun t k => XS.aloadN X140.here hx rfl (hb hby d4_14) rfl rfl k) ?_
    obtain ⟨T141, X141, e141, st141⟩ := castY X140 hx hZ hown (ww hw 37 rfl) e140 (Ins.self P0) (g := (mkF m 15 (Sh5 a1c a2c) [(.ref a2c)])) rfl rfl (hb hby d4_15)
    refine GoW.sg (mkF m 18 (Sh5 a1c a2c) [(.ref a2c)]) (fun t k => st141 t k) ?_
    refine GoW.sg (mkF m 19 (Sh6 a1c a2c a2c) []) (fun t k => XS.astoreN X141.here hx rfl (hb hby d4_18) rfl rfl (l' := (Sh6 a1c a2c a2c)) rfl k) ?_
    obtain ⟨T142, X142, e142, st142⟩ := getS (host := "") X141 hx hZ hown (ww hw 39 rfl) Via.refl e141 P7 (g := (mkF m 19 (Sh6 a1c a2c a2c) [])) rfl (hb hby d4_19)
    refine GoW.sg (mkF m 22 (Sh6 a1c a2c a2c) [(.int x1c)]) (fun t k => st142 t k) ?_
    refine GoW.sg (mkF m 25 (Sh6 a1c a2c a2c) []) (fun t k => XS.ifNo X142.here hx rfl (hb hby d4_22) rfl ((if0 _ _).trans (feq u0).1) k) ?_
    refine GoW.sg (mkF m 26 (Sh6 a1c a2c a2c) [(.ref a1c)]) (fun t k => XS.aloadN X142.here hx rfl (hb hby d4_25) rfl rfl k) ?_
    obtain ⟨T143, X143, e143, st143⟩ := getF X142 hx hZ hown (host := "") (Or.inl (ww hw 40 rfl)) Via.refl e142 P1 (g := (mkF m 26 (Sh6 a1c a2c a2c) [(.ref a1c)])) rfl rfl (hb hby d4_26)
    refine GoW.sg (mkF m 29 (Sh6 a1c a2c a2c) [(.int 0)]) (fun t k => st143 t k) ?_
    refine GoW.sg (mkF m 30 (Sh6 a1c a2c a2c) [(.ref a2c), (.int 0)]) (fun t k => XS.aloadN X143.here hx rfl (hb hby d4_29) rfl rfl k) ?_
    obtain ⟨T144, X144, e144, st144⟩ := getF X143 hx hZ hown (host := "") (Or.inl (ww hw 40 rfl)) Via.refl e143 P2 (g := (mkF m 30 (Sh6 a1c a2c a2c) [(.ref a2c), (.int 0)])) rfl rfl (hb hby d4_30)
    refine GoW.sg (mkF m 33 (Sh6 a1c a2c a2c) [(.int 0), (.int 0)]) (fun t k => st144 t k) ?_
    refine GoW.sg (mkF m 36 (Sh6 a1c a2c a2c) []) (fun t k => XS.icmpNo X144.here hx rfl (hb hby d4_33) rfl (by decide) k) ?_
    refine GoW.sg (mkF m 37 (Sh6 a1c a2c a2c) [(.ref a1c)]) (fun t k => XS.aloadN X144.here hx rfl (hb hby d4_36) rfl rfl k) ?_
    obtain ⟨T145, X145, e145, st145⟩ := getF X144 hx hZ hown (host := "") (Or.inl (ww hw 41 rfl)) Via.refl e144 P3 (g := (mkF m 37 (Sh6 a1c a2c a2c) [(.ref a1c)])) rfl rfl (hb hby d4_37)
    refine GoW.sg (mkF m 40 (Sh6 a1c a2c a2c) [(.ref a3c)]) (fun t k => st145 t k) ?_
    refine GoW.sg (mkF m 41 (Sh6 a1c a2c a2c) [(.ref a2c), (.ref a3c)]) (fun t k => XS.aloadN X145.here hx rfl (hb hby d4_40) rfl rfl k) ?_
    obtain ⟨T146, X146, e146, st146⟩ := getF X145 hx hZ hown (host := "") (Or.inl (ww hw 41 rfl)) Via.refl e145 P4 (g := (mkF m 41 (Sh6 a1c a2c a2c) [(.ref a2c), (.ref a3c)])) rfl rfl (hb hby d4_41)
    refine GoW.sg (mkF m 44 (Sh6 a1c a2c a2c) [(.ref a4c), (.ref a3c)]) (fun t k => st146 t k) ?_
    obtain ⟨_, T162, L162, X162, hQ162, st162⟩ := own_callS X146 hx hZ hown (y := Y5) (ww hw 42 rfl) (ww hw 43 rfl) (ww hw 44 rfl) (ww hw 45 rfl) (by decide) 0 (rm5_7 l Z a0 hw [] a3c a4c ka3c ka4c h0 n0  P5 P6    ) (by decide) (by decide) e146 (by decide) (by decide) (g := (mkF m 44 (Sh6 a1c a2c a2c) [(.ref a4c), (.ref a3c)])) rfl (by rw [hml]; rfl) (argsL := [(.ref a3c), (.ref a4c)]) (rest := []) (lenOf pd_285bB5bB29Z rfl) rfl (by show 2 * 0 + _ ≤ _; exact Nat.le_of_eq rfl) (hb hby d4_44)
    obtain ⟨rfl, N162q, e162⟩ := hQ162
    have N162 := Fr.app N0 N162q
    refine GoW.sg (mkF m 47 (Sh6 a1c a2c a2c) [(.int 1)]) (fun t k => st162 t k) ?_
    refine GoW.sg (mkF m 50 (Sh6 a1c a2c a2c) []) (fun t k => XS.ifNo X162.here hx rfl (hb hby d4_47) rfl (by decide) k) ?_
    refine GoW.sg (mkF m 51 (Sh6 a1c a2c a2c) [(.int 1)]) (fun t k => XS.iconst X162.here hx rfl (hb hby d4_50) k) ?_
    refine GoW.sg (mkF m 55 (Sh6 a1c a2c a2c) [(.int 1)]) (fun t k => XS.goto X162.here hx rfl (pc0 := 51) (pc' := 55) rfl (hb hby d4_51) (by decide) (by decide) k) ?_
    refine GoW.retN X162 hx (t := .boolean) Bd.returns (by simp) (hb hby d4_55) Bd.notSynchronized ?_ (by decide) (by decide)
    rw [e162]
    exact ⟨rfl, N162, rfl⟩
theorem ef0_rm0 (m : MethodId) (q1 : Int32) : entryFrame m #[(.int q1)] maxLocals = (mkF m 0 #[.val (.int q1), .unset, .unset, .unset, .unset] []) := by first | (simp [entryFrame, mkF, argsToLocals, Value.category, maxLocals]; done) | rfl
set_option maxRecDepth 65536 in
set_option maxHeartbeats 40000000 in
theorem rm0 (l : Launch) (Z : State) (a0 : Array Value) (hw : ∀ d ∈ tables_1, d.before a0 Z = true) (ws : List Jvm.Cond) (q1 : Int32) (cs : Int32) (aB : Addr) (aT : Addr) (xT : Addr) (vT : Addr) (kT : ClassId) (aF : Addr) (xF : Addr) (vF : Addr) (kF : ClassId) (h0 : Heap) (n0 : Nat) (Z0 : n0 ≤ h0.size) (P0 : Sta Z h0 "java/lang/String" "COMPACT_STRINGS" "Z" (.int cs)) (P1 : Sta Z h0 "com/example/abacus/abacus/model/DataType" "BOOLEAN" "Lcom/example/abacus/abacus/model/DataType;" (.ref aB)) (P2 : Sta Z h0 "com/example/abacus/abacus/model/AttributeValue" "TRUE" "Lcom/example/abacus/abacus/model/AttributeValue;" (.ref aT)) (P3 : Exa Z h0 aT "com/example/abacus/abacus/model/AttributeValue") (P4 : Fld Z h0 aT "com/example/abacus/abacus/model/AttributeValue" "dataType" "Lcom/example/abacus/abacus/model/DataType;" (.ref aB)) (P5 : Fld Z h0 aT "com/example/abacus/abacus/model/AttributeValue" "lexical" "Ljava/lang/String;" (.ref xT)) (P6 : Exa Z h0 xT "java/lang/String") (P7 : Fld Z h0 xT "java/lang/String" "coder" "B" (.int (0 : Int32))) (P8 : Fld Z h0 xT "java/lang/String" "value" "[B" (.ref vT)) (P9 : Arv Z h0 vT kT .byte (4 : Int32) [(.int (116 : Int32)), (.int (114 : Int32)), (.int (117 : Int32)), (.int (101 : Int32))] (.int (0 : Int32))) (P10 : Sta Z h0 "com/example/abacus/abacus/model/AttributeValue" "FALSE" "Lcom/example/abacus/abacus/model/AttributeValue;" (.ref aF)) (P11 : Exa Z h0 aF "com/example/abacus/abacus/model/AttributeValue") (P12 : Fld Z h0 aF "com/example/abacus/abacus/model/AttributeValue" "dataType" "Lcom/example/abacus/abacus/model/DataType;" (.ref aB)) (P13 : Fld Z h0 aF "com/example/abacus/abacus/model/AttributeValue" "lexical" "Ljava/lang/String;" (.ref xF)) (P14 : Exa Z h0 xF "java/lang/String") (P15 : Fld Z h0 xF "java/lang/String" "coder" "B" (.int (0 : Int32))) (P16 : Fld Z h0 xF "java/lang/String" "value" "[B" (.ref vF)) (P17 : Arv Z h0 vF kF .byte (5 : Int32) [(.int (102 : Int32)), (.int (97 : Int32)), (.int (108 : Int32)), (.int (115 : Int32)), (.int (101 : Int32))] (.int (0 : Int32))) (ncs : ¬ (cs = (0 : Int32))) (E0 : h0.size = n0) (hc_31 : Jvm.Lit.constHeld Z "com/example/abacus/abacus/model/AttributeValueOfPinLaw" 31) (hc_42 : Jvm.Lit.constHeld Z "com/example/abacus/abacus/model/AttributeValueOfPinLaw" 42) (hcw : Jvm.Lit.compactW.before a0 Z = true) :
    MetFree l x (head1 (Jvm.Cond.code x code maxLocals ret :: ws) room_1) (fun a U => a = #[(.int q1)] ∧ U = Z ∧ U.heap = h0) (fun _ _ _ _ _ => True) (fun _ U o U' => ∃ v L, o = .returned v ∧ (ValQ (.int (1 : Int32)) n0) v U'.heap L ∧ ReturnedEndW U o U' L room_1.cells room_1.slots) := by
  refine MetFree.of_bodySF (plainFor_of_name pn_com_example_abacus_abacus_model_AttributeValueOfPinLaw) hisR ?_
  intro p e s m args below meth c s₁ Bd hml0 hP hK
  obtain ⟨rfl, hU, hh⟩ := hP
  have hZ : Z.Warmed39 s.vm := hU ▸ State.Warmed39.refl _
  have I0 : IB Z s.vm [] := hU ▸ IB.start
  have hS0 : s.Since s.vm 0 := (State.WarmedH.refl s).since 0
  have hx := Bd.exec
  have hby := Bd.bytes
  have hml : c.maxLocals = 5 := hml0
  have hown : s.vm.findClass "com/example/abacus/abacus/model/AttributeValueOfPinLaw" = some m.cls := findClass_of_methodNamed Bd.named
  have hnm := (name_of_methodNamed Bd.named Bd.method).1
  have X0 : Stand p l e room_1 (s.setVm s.vm) m #[(.int q1)] below meth c s₁ [] 0 0 := Stand.of_body Bd
  have e0 : s₁.heap = h0 := by rw [← hh, Bd.state]; rfl
  have N0 := Fr.nil n0
  refine GoV.mk ?_
  refine GoV.st (fun t k => castTop (ef0_rm0 m q1) k) ?_
  show GoV p e below s (ValQ (.int (1 : Int32)) n0) room_1.cells room_1.slots (s₁.setTop (mkF m 0 (Sh0 q1) []))
  have hkeep : ∀ (b : Addr) (cl : Cell), Z.heap[b]? = some cl → s.heap[b]? = some cl := hU ▸ fun _ _ h => h
  have hsz0 : s.heap.size = n0 := by rw [hh]; exact E0
  have wSt := own_wS hw
  refine GoV.sg (mkF m 1 (Sh0 q1) [(.int q1)]) (fun t k => XS.iloadN X0.here hx rfl (hb hby at_0) rfl k) ?_
  refine GoV.sg (mkF m 2 (Sh0 q1) [(.int 1), (.int q1)]) (fun t k => XS.iconst X0.here hx rfl (hb hby at_1) k) ?_
  refine GoV.sg (mkF m 3 (Sh0 q1) [(.int (q1 &&& (1 : Int32)))]) (fun t k => XS.iand X0.here hx rfl (hb hby at_2) rfl k) ?_
  by_cases c1 : (q1 &&& (1 : Int32)) = (0 : Int32)
  · refine GoV.sg (mkF m 10 (Sh0 q1) []) (fun t k => XS.ifYes X0.here hx rfl (pc0 := 3) (pc' := 10) rfl (hb hby at_3) rfl ((if0 _ _).trans (teq c1).1) (by decide) (by decide) k) ?_
    refine GoV.sg (mkF m 11 (Sh0 q1) [(.int 0)]) (fun t k => XS.iconst X0.here hx rfl (hb hby at_10) k) ?_
    refine GoV.sg (mkF m 12 (Sh1 q1 0) []) (fun t k => XS.istoreN X0.here hx rfl (hb hby at_11) rfl (l' := (Sh1 q1 0)) rfl k) ?_
    refine GoV.sg (mkF m 13 (Sh1 q1 0) [(.int 0)]) (fun t k => XS.iloadN X0.here hx rfl (hb hby at_12) rfl k) ?_
    obtain ⟨_, T4, L4, X4, hQ4, st4⟩ := own_callS X0 hx hZ hown (y := Y1) (ww hw 0 rfl) (ww hw 1 rfl) (ww hw 2 rfl) (ww hw 3 rfl) (by decide) 0 (rm1_1 l Z a0 hw []  aF h0 n0  P10    ) (by decide) (by decide) e0 (by decide) (by decide) (g := (mkF m 13 (Sh1 q1 0) [(.int 0)])) rfl (by rw [hml]; rfl) (argsL := [(.int (0 : Int32))]) (rest := []) (lenOf pd_28Z29Lcom2fexample2fabacus2fabacus2fmodel2fAttributeValue3b rfl) rfl (by show 2 * 0 + _ ≤ _; exact Nat.le_of_eq rfl) (hb hby at_13)
    obtain ⟨rfl, N4q, e4⟩ := hQ4
    have N4 := Fr.app N0 N4q
    refine GoV.sg (mkF m 16 (Sh1 q1 0) [(.ref aF)]) (fun t k => st4 t k) ?_
    refine GoV.sg (mkF m 17 (Sh2 q1 0 aF) []) (fun t k => XS.astoreN X4.here hx rfl (hb hby at_16) rfl rfl (l' := (Sh2 q1 0 aF)) rfl k) ?_
    refine GoV.sg (mkF m 18 (Sh2 q1 0 aF) [(.ref aF)]) (fun t k => XS.aloadN X4.here hx rfl (hb hby at_17) rfl rfl k) ?_
    refine GoV.sg (mkF m 21 (Sh2 q1 0 aF) []) (fun t k => XS.ifnullNo X4.here hx rfl (hb hby at_18) rfl k) ?_
    refine GoV.sg (mkF m 22 (Sh2 q1 0 aF) [(.ref aF)]) (fun t k => XS.aloadN X4.here hx rfl (hb hby at_21) rfl rfl k) ?_
    obtain ⟨cq7, kq7, q7a, q7b, q7c⟩ := isOf hZ e4 P11
    obtain ⟨_, _, ⟨T7, L7, k7, n7⟩, -, X7, ⟨Lc7, hQ7, l7, y7, z7⟩, st7⟩ := X4.virtualBack hx (y := (⟨"com/example/abacus/abacus/model/AttributeValue", "dataType", "()Lcom/example/abacus/abacus/model/DataType;"⟩ : MethodName)) (z := Y2) hown (mvT hZ (ww hw 6 rfl)) (mvT hZ (ww hw 7 rfl)) (notFace_of_selects (args := #[]) (mvT hZ (ww hw 9 rfl))) (mvT hZ (ww hw 9 rfl)) (mvT hZ (ww hw 8 rfl)) (by decide) (backOf (W := 0) (rm2_2 l Z a0 hw [] aF aB h0 n0  P12    ) hZ (ww hw 10 rfl) (ww hw 2 rfl) (by decide) (by decide)) q7a q7c (g := (mkF m 22 (Sh2 q1 0 aF) [(.ref aF)])) rfl (by rw [hml]; rfl) (Steps.refl _) (argsL := []) (rest := []) (lenOf pd_2829Lcom2fexample2fabacus2fabacus2fmodel2fDataType3b rfl) rfl (by show 2 * 0 + _ ≤ _; exact Nat.le_of_eq rfl) (hb hby at_22) (fun _ _ => ⟨rfl, e4, (by decide : 0 + 0 ≤ _), (by decide : 0 + 0 ≤ _)⟩)
    dsimp only [Pt.U, Pt.locs, Pt.cells, Pt.slots] at X7 l7 y7 z7 st7 hQ7
    subst l7 y7 z7
    obtain ⟨rfl, N7q, e7⟩ := hQ7
    have N7 := Fr.app N4 N7q
    refine GoV.sg (mkF m 25 (Sh2 q1 0 aF) [(.ref aB)]) (fun t k => st7.trans k) ?_
    obtain ⟨T8, X8, e8, st8⟩ := getS (host := "") X7 hx hZ hown (ww hw 15 rfl) Via.refl e7 P1 (g := (mkF m 25 (Sh2 q1 0 aF) [(.ref aB)])) rfl (hb hby at_25)
    refine GoV.sg (mkF m 28 (Sh2 q1 0 aF) [(.ref aB), (.ref aB)]) (fun t k => st8 t k) ?_
    refine GoV.sg (mkF m 31 (Sh2 q1 0 aF) []) (fun t k => Jvm.RoadKit.acmp X8 hx rfl (cd := .ne) (x := (.ref aB)) (y := (.ref aB)) rfl rfl (pc0 := 28) (pc' := 31) (same := true) rfl (hb hby at_28) rfl (decide_eq_true rfl) (by decide) (by decide) k) ?_
    refine GoV.sg (mkF m 32 (Sh2 q1 0 aF) [(.int 1)]) (fun t k => XS.iconst X8.here hx rfl (hb hby at_31) k) ?_
    refine GoV.sg (mkF m 36 (Sh2 q1 0 aF) [(.int 1)]) (fun t k => XS.goto X8.here hx rfl (pc0 := 32) (pc' := 36) rfl (hb hby at_32) (by decide) (by decide) k) ?_
    refine GoV.sg (mkF m 37 (Sh3 q1 0 aF 1) []) (fun t k => XS.istoreN X8.here hx rfl (hb hby at_36) rfl (l' := (Sh3 q1 0 aF 1)) rfl k) ?_
    refine GoV.sg (mkF m 38 (Sh3 q1 0 aF 1) [(.int 1)]) (fun t k => XS.iloadN X8.here hx rfl (hb hby at_37) rfl k) ?_
    refine GoV.sg (mkF m 43 (Sh3 q1 0 aF 1) []) (fun t k => XS.ifYes X8.here hx rfl (pc0 := 38) (pc' := 43) rfl (hb hby at_38) rfl (by decide) (by decide) (by decide) k) ?_
    refine GoV.sg (mkF m 44 (Sh3 q1 0 aF 1) [(.ref aF)]) (fun t k => XS.aloadN X8.here hx rfl (hb hby at_43) rfl rfl k) ?_
    obtain ⟨cq13, kq13, q13a, q13b, q13c⟩ := isOf hZ e8 P11
    obtain ⟨_, _, ⟨T13, L13, k13, n13⟩, -, X13, ⟨Lc13, hQ13, l13, y13, z13⟩, st13⟩ := X8.virtualBack hx (y := (⟨"com/example/abacus/abacus/model/AttributeValue", "lexical", "()Ljava/lang/String;"⟩ : MethodName)) (z := Y3) hown (mvT hZ (ww hw 16 rfl)) (mvT hZ (ww hw 17 rfl)) (notFace_of_selects (args := #[]) (mvT hZ (ww hw 19 rfl))) (mvT hZ (ww hw 19 rfl)) (mvT hZ (ww hw 18 rfl)) (by decide) (backOf (W := 0) (rm3_3 l Z a0 hw [] aF xF h0 n0  P13    ) hZ (ww hw 20 rfl) (ww hw 2 rfl) (by decide) (by decide)) q13a q13c (g := (mkF m 44 (Sh3 q1 0 aF 1) [(.ref aF)])) rfl (by rw [hml]; rfl) (Steps.refl _) (argsL := []) (rest := []) (lenOf pd_2829Ljava2flang2fString3b rfl) rfl (by show 2 * 0 + _ ≤ _; exact Nat.le_of_eq rfl) (hb hby at_44) (fun _ _ => ⟨rfl, e8, (by decide : 0 + 0 ≤ _), (by decide : 0 + 0 ≤ _)⟩)
    dsimp only [Pt.U, Pt.locs, Pt.cells, Pt.slots] at X13 l13 y13 z13 st13 hQ13
    subst l13 y13 z13
    obtain ⟨rfl, N13q, e13⟩ := hQ13
    have N13 := Fr.app N7 N13q
    refine GoV.sg (mkF m 47 (Sh3 q1 0 aF 1) [(.ref xF)]) (fun t k => st13.trans k) ?_
    refine GoV.sg (mkF m 49 (Sh4 q1 0 aF 1 xF) []) (fun t k => XS.astore X13.here hx rfl (hb hby at_47) rfl rfl (l' := (Sh4 q1 0 aF 1 xF)) rfl k) ?_
    refine GoV.sg (mkF m 50 (Sh4 q1 0 aF 1 xF) [(.int 0)]) (fun t k => XS.iloadN X13.here hx rfl (hb hby at_49) rfl k) ?_
    refine GoV.sg (mkF m 79 (Sh4 q1 0 aF 1 xF) []) (fun t k => XS.ifYes X13.here hx rfl (pc0 := 50) (pc' := 79) rfl (hb hby at_50) rfl (by decide) (by decide) (by decide) k) ?_
    refine GoV.sg (mkF m 80 (Sh4 q1 0 aF 1 xF) [(.ref aF)]) (fun t k => XS.aloadN X13.here hx rfl (hb hby at_79) rfl rfl k) ?_
    obtain ⟨T14, X14, e14, st14⟩ := getS (host := "") X13 hx hZ hown (ww hw 23 rfl) Via.refl e13 P10 (g := (mkF m 80 (Sh4 q1 0 aF 1 xF) [(.ref aF)])) rfl (hb hby at_80)
    refine GoV.sg (mkF m 83 (Sh4 q1 0 aF 1 xF) [(.ref aF), (.ref aF)]) (fun t k => st14 t k) ?_
    refine GoV.sg (mkF m 86 (Sh4 q1 0 aF 1 xF) []) (fun t k => Jvm.RoadKit.acmp X14 hx rfl (cd := .ne) (x := (.ref aF)) (y := (.ref aF)) rfl rfl (pc0 := 83) (pc' := 86) (same := true) rfl (hb hby at_83) rfl (decide_eq_true rfl) (by decide) (by decide) k) ?_
    refine GoV.sg (mkF m 88 (Sh4 q1 0 aF 1 xF) [(.ref xF)]) (fun t k => XS.aload X14.here hx rfl (hb hby at_86) rfl rfl k) ?_
    obtain ⟨la15, T15, h15, k15, lb15, kc15, X15, e15, E15, hS15, hk15, hZ15, hown15, LE15, LC15, LV15, LA15, -, -, I15, LL15, st15⟩ := ldcSVL X14 hx hZ hown (ww hw 24 rfl) wSt e14 hS0 (Nat.zero_le _) (N := (by rw [hsz0]; exact N13)) hkeep I0 (by decide) hc_42 hcw (vs := [(.int (102 : Int32)), (.int (97 : Int32)), (.int (108 : Int32)), (.int (115 : Int32)), (.int (101 : Int32))]) (z := (5 : Int32)) ⟨by decide, by decide⟩ (by decide) (by decide) (g := (mkF m 88 (Sh4 q1 0 aF 1 xF) [(.ref xF)])) rfl (hb hby at_88) (n := 20) (by decide) (by decide) (by decide) (by decide)
    have f15_1 := Nat.le_trans Z0 E15.1
    have f15_2 := P0.ext E15
    have f15_3 := P1.ext E15
    have f15_4 := P2.ext E15
    have f15_5 := P3.ext E15
    have f15_6 := P4.ext E15
    have f15_7 := P5.ext E15
    have f15_8 := P6.ext E15
    have f15_9 := P7.ext E15
    have f15_10 := P8.ext E15
    have f15_11 := P9.ext E15
    have f15_12 := P10.ext E15
    have f15_13 := P11.ext E15
    have f15_14 := P12.ext E15
    have f15_15 := P13.ext E15
    have f15_16 := P14.ext E15
    have f15_17 := P15.ext E15
    have f15_18 := P16.ext E15
    have f15_19 := P17.ext E15
    refine GoV.sg (mkF m 90 (Sh4 q1 0 aF 1 xF) [(.ref la15), (.ref xF)]) (fun t k => st15 t k) ?_
    obtain ⟨cq88, kq88, q88a, q88b, q88c⟩ := isOf hZ15 e15 f15_16
    obtain ⟨_, _, ⟨T88, L88, k88, n88⟩, -, X88, ⟨Lc88, hQ88, l88, y88, z88⟩, st88⟩ := X15.virtualBack hx (y := (⟨"java/lang/String", "equals", "(Ljava/lang/Object;)Z"⟩ : MethodName)) (z := Y4) hown15 (mvT hZ15 (ww hw 32 rfl)) (mvT hZ15 (ww hw 33 rfl)) (notFace_of_selects (args := #[]) (mvT hZ15 (ww hw 35 rfl))) (mvT hZ15 (ww hw 35 rfl)) (mvT hZ15 (ww hw 34 rfl)) (by decide) (backOf (W := 0) (rm4_5 l Z a0 hw [] xF la15 vF lb15 kF kc15 cs h15 n0  LE15 f15_17 LC15 f15_18 LV15 f15_19 LA15 f15_2   ncs ) hZ15 (ww hw 36 rfl) (ww hw 25 rfl) (by decide) (by decide)) q88a q88c (g := (mkF m 90 (Sh4 q1 0 aF 1 xF) [(.ref la15), (.ref xF)])) rfl (by rw [hml]; rfl) (Steps.refl _) (argsL := [(.ref la15)]) (rest := []) (lenOf pd_28Ljava2flang2fObject3b29Z rfl) rfl (by show 2 * 0 + _ ≤ _; exact Nat.le_of_eq rfl) (hb hby at_90) (fun _ _ => ⟨rfl, e15, (by decide : 2 + 0 ≤ _), (by decide : 24 + 0 ≤ _)⟩)
    dsimp only [Pt.U, Pt.locs, Pt.cells, Pt.slots] at X88 l88 y88 z88 st88 hQ88
    subst l88 y88 z88
    obtain ⟨rfl, N88q, e88⟩ := hQ88
    have N88 := Fr.app N13 N88q
    refine GoV.sg (mkF m 93 (Sh4 q1 0 aF 1 xF) [(.int 1)]) (fun t k => st88.trans k) ?_
    refine GoV.sg (mkF m 96 (Sh4 q1 0 aF 1 xF) []) (fun t k => XS.ifNo X88.here hx rfl (hb hby at_93) rfl (by decide) k) ?_
    refine GoV.sg (mkF m 97 (Sh4 q1 0 aF 1 xF) [(.int 1)]) (fun t k => XS.iconst X88.here hx rfl (hb hby at_96) k) ?_
    refine GoV.sg (mkF m 101 (Sh4 q1 0 aF 1 xF) [(.int 1)]) (fun t k => XS.goto X88.here hx rfl (pc0 := 97) (pc' := 101) rfl (hb hby at_97) (by decide) (by decide) k) ?_
    refine GoV.sg (mkF m 102 (Sh4 q1 0 aF 1 xF) []) (fun t k => XS.istoreN X88.here hx rfl (hb hby at_101) rfl (l' := (Sh4 q1 0 aF 1 xF)) rfl k) ?_
    refine GoV.sg (mkF m 103 (Sh4 q1 0 aF 1 xF) [(.int 1)]) (fun t k => XS.iloadN X88.here hx rfl (hb hby at_102) rfl k) ?_
    refine GoV.retN X88 hS15 (by rw [e88]; exact hk15) hx (t := .boolean) Bd.returns (by simp) (hb hby at_103) Bd.notSynchronized ?_ (by decide) (by decide)
    exact ⟨rfl, N88⟩
  · refine GoV.sg (mkF m 6 (Sh0 q1) []) (fun t k => XS.ifNo X0.here hx rfl (hb hby at_3) rfl ((if0 _ _).trans (feq c1).1) k) ?_
    refine GoV.sg (mkF m 7 (Sh0 q1) [(.int 1)]) (fun t k => XS.iconst X0.here hx rfl (hb hby at_6) k) ?_
    refine GoV.sg (mkF m 11 (Sh0 q1) [(.int 1)]) (fun t k => XS.goto X0.here hx rfl (pc0 := 7) (pc' := 11) rfl (hb hby at_7) (by decide) (by decide) k) ?_
    refine GoV.sg (mkF m 12 (Sh1 q1 1) []) (fun t k => XS.istoreN X0.here hx rfl (hb hby at_11) rfl (l' := (Sh1 q1 1)) rfl k) ?_
    refine GoV.sg (mkF m 13 (Sh1 q1 1) [(.int 1)]) (fun t k => XS.iloadN X0.here hx rfl (hb hby at_12) rfl k) ?_
    obtain ⟨_, T91, L91, X91, hQ91, st91⟩ := own_callS X0 hx hZ hown (y := Y1) (ww hw 0 rfl) (ww hw 1 rfl) (ww hw 2 rfl) (ww hw 3 rfl) (by decide) 0 (rm1_6 l Z a0 hw []  aT h0 n0  P2    ) (by decide) (by decide) e0 (by decide) (by decide) (g := (mkF m 13 (Sh1 q1 1) [(.int 1)])) rfl (by rw [hml]; rfl) (argsL := [(.int (1 : Int32))]) (rest := []) (lenOf pd_28Z29Lcom2fexample2fabacus2fabacus2fmodel2fAttributeValue3b rfl) rfl (by show 2 * 0 + _ ≤ _; exact Nat.le_of_eq rfl) (hb hby at_13)
    obtain ⟨rfl, N91q, e91⟩ := hQ91
    have N91 := Fr.app N0 N91q
    refine GoV.sg (mkF m 16 (Sh1 q1 1) [(.ref aT)]) (fun t k => st91 t k) ?_
    refine GoV.sg (mkF m 17 (Sh2 q1 1 aT) []) (fun t k => XS.astoreN X91.here hx rfl (hb hby at_16) rfl rfl (l' := (Sh2 q1 1 aT)) rfl k) ?_
    refine GoV.sg (mkF m 18 (Sh2 q1 1 aT) [(.ref aT)]) (fun t k => XS.aloadN X91.here hx rfl (hb hby at_17) rfl rfl k) ?_
    refine GoV.sg (mkF m 21 (Sh2 q1 1 aT) []) (fun t k => XS.ifnullNo X91.here hx rfl (hb hby at_18) rfl k) ?_
    refine GoV.sg (mkF m 22 (Sh2 q1 1 aT) [(.ref aT)]) (fun t k => XS.aloadN X91.here hx rfl (hb hby at_21) rfl rfl k) ?_
    obtain ⟨cq93, kq93, q93a, q93b, q93c⟩ := isOf hZ e91 P3
    obtain ⟨_, _, ⟨T93, L93, k93, n93⟩, -, X93, ⟨Lc93, hQ93, l93, y93, z93⟩, st93⟩ := X91.virtualBack hx (y := (⟨"com/example/abacus/abacus/model/AttributeValue", "dataType", "()Lcom/example/abacus/abacus/model/DataType;"⟩ : MethodName)) (z := Y2) hown (mvT hZ (ww hw 6 rfl)) (mvT hZ (ww hw 7 rfl)) (notFace_of_selects (args := #[]) (mvT hZ (ww hw 9 rfl))) (mvT hZ (ww hw 9 rfl)) (mvT hZ (ww hw 8 rfl)) (by decide) (backOf (W := 0) (rm2_2 l Z a0 hw [] aT aB h0 n0  P4    ) hZ (ww hw 10 rfl) (ww hw 2 rfl) (by decide) (by decide)) q93a q93c (g := (mkF m 22 (Sh2 q1 1 aT) [(.ref aT)])) rfl (by rw [hml]; rfl) (Steps.refl _) (argsL := []) (rest := []) (lenOf pd_2829Lcom2fexample2fabacus2fabacus2fmodel2fDataType3b rfl) rfl (by show 2 * 0 + _ ≤ _; exact Nat.le_of_eq rfl) (hb hby at_22) (fun _ _ => ⟨rfl, e91, (by decide : 0 + 0 ≤ _), (by decide : 0 + 0 ≤ _)⟩)
    dsimp only [Pt.U, Pt.locs, Pt.cells, Pt.slots] at X93 l93 y93 z93 st93 hQ93
    subst l93 y93 z93
    obtain ⟨rfl, N93q, e93⟩ := hQ93
    have N93 := Fr.app N91 N93q
    refine GoV.sg (mkF m 25 (Sh2 q1 1 aT) [(.ref aB)]) (fun t k => st93.trans k) ?_
    obtain ⟨T94, X94, e94, st94⟩ := getS (host := "") X93 hx hZ hown (ww hw 15 rfl) Via.refl e93 P1 (g := (mkF m 25 (Sh2 q1 1 aT) [(.ref aB)])) rfl (hb hby at_25)
    refine GoV.sg (mkF m 28 (Sh2 q1 1 aT) [(.ref aB), (.ref aB)]) (fun t k => st94 t k) ?_
    refine GoV.sg (mkF m 31 (Sh2 q1 1 aT) []) (fun t k => Jvm.RoadKit.acmp X94 hx rfl (cd := .ne) (x := (.ref aB)) (y := (.ref aB)) rfl rfl (pc0 := 28) (pc' := 31) (same := true) rfl (hb hby at_28) rfl (decide_eq_true rfl) (by decide) (by decide) k) ?_
    refine GoV.sg (mkF m 32 (Sh2 q1 1 aT) [(.int 1)]) (fun t k => XS.iconst X94.here hx rfl (hb hby at_31) k) ?_
    refine GoV.sg (mkF m 36 (Sh2 q1 1 aT) [(.int 1)]) (fun t k => XS.goto X94.here hx rfl (pc0 := 32) (pc' := 36) rfl (hb hby at_32) (by decide) (by decide) k) ?_
    refine GoV.sg (mkF m 37 (Sh3 q1 1 aT 1) []) (fun t k => XS.istoreN X94.here hx rfl (hb hby at_36) rfl (l' := (Sh3 q1 1 aT 1)) rfl k) ?_
    refine GoV.sg (mkF m 38 (Sh3 q1 1 aT 1) [(.int 1)]) (fun t k => XS.iloadN X94.here hx rfl (hb hby at_37) rfl k) ?_
    refine GoV.sg (mkF m 43 (Sh3 q1 1 aT 1) []) (fun t k => XS.ifYes X94.here hx rfl (pc0 := 38) (pc' := 43) rfl (hb hby at_38) rfl (by decide) (by decide) (by decide) k) ?_
    refine GoV.sg (mkF m 44 (Sh3 q1 1 aT 1) [(.ref aT)]) (fun t k => XS.aloadN X94.here hx rfl (hb hby at_43) rfl rfl k) ?_
    obtain ⟨cq97, kq97, q97a, q97b, q97c⟩ := isOf hZ e94 P3
    obtain ⟨_, _, ⟨T97, L97, k97, n97⟩, -, X97, ⟨Lc97, hQ97, l97, y97, z97⟩, st97⟩ := X94.virtualBack hx (y := (⟨"com/example/abacus/abacus/model/AttributeValue", "lexical", "()Ljava/lang/String;"⟩ : MethodName)) (z := Y3) hown (mvT hZ (ww hw 16 rfl)) (mvT hZ (ww hw 17 rfl)) (notFace_of_selects (args := #[]) (mvT hZ (ww hw 19 rfl))) (mvT hZ (ww hw 19 rfl)) (mvT hZ (ww hw 18 rfl)) (by decide) (backOf (W := 0) (rm3_3 l Z a0 hw [] aT xT h0 n0  P5    ) hZ (ww hw 20 rfl) (ww hw 2 rfl) (by decide) (by decide)) q97a q97c (g := (mkF m 44 (Sh3 q1 1 aT 1) [(.ref aT)])) rfl (by rw [hml]; rfl) (Steps.refl _) (argsL := []) (rest := []) (lenOf pd_2829Ljava2flang2fString3b rfl) rfl (by show 2 * 0 + _ ≤ _; exact Nat.le_of_eq rfl) (hb hby at_44) (fun _ _ => ⟨rfl, e94, (by decide : 0 + 0 ≤ _), (by decide : 0 + 0 ≤ _)⟩)
    dsimp only [Pt.U, Pt.locs, Pt.cells, Pt.slots] at X97 l97 y97 z97 st97 hQ97
    subst l97 y97 z97
    obtain ⟨rfl, N97q, e97⟩ := hQ97
    have N97 := Fr.app N93 N97q
    refine GoV.sg (mkF m 47 (Sh3 q1 1 aT 1) [(.ref xT)]) (fun t k => st97.trans k) ?_
    refine GoV.sg (mkF m 49 (Sh4 q1 1 aT 1 xT) []) (fun t k => XS.astore X97.here hx rfl (hb hby at_47) rfl rfl (l' := (Sh4 q1 1 aT 1 xT)) rfl k) ?_
    refine GoV.sg (mkF m 50 (Sh4 q1 1 aT 1 xT) [(.int 1)]) (fun t k => XS.iloadN X97.here hx rfl (hb hby at_49) rfl k) ?_
    refine GoV.sg (mkF m 53 (Sh4 q1 1 aT 1 xT) []) (fun t k => XS.ifNo X97.here hx rfl (hb hby at_50) rfl (by decide) k) ?_
    refine GoV.sg (mkF m 54 (Sh4 q1 1 aT 1 xT) [(.ref aT)]) (fun t k => XS.aloadN X97.here hx rfl (hb hby at_53) rfl rfl k) ?_
    obtain ⟨T98, X98, e98, st98⟩ := getS (host := "") X97 hx hZ hown (ww hw 48 rfl) Via.refl e97 P2 (g := (mkF m 54 (Sh4 q1 1 aT 1 xT) [(.ref aT)])) rfl (hb hby at_54)
    refine GoV.sg (mkF m 57 (Sh4 q1 1 aT 1 xT) [(.ref aT), (.ref aT)]) (fun t k => st98 t k) ?_
    refine GoV.sg (mkF m 60 (Sh4 q1 1 aT 1 xT) []) (fun t k => Jvm.RoadKit.acmp X98 hx rfl (cd := .ne) (x := (.ref aT)) (y := (.ref aT)) rfl rfl (pc0 := 57) (pc' := 60) (same := true) rfl (hb hby at_57) rfl (decide_eq_true rfl) (by decide) (by decide) k) ?_
    refine GoV.sg (mkF m 62 (Sh4 q1 1 aT 1 xT) [(.ref xT)]) (fun t k => XS.aload X98.here hx rfl (hb hby at_60) rfl rfl k) ?_
    obtain ⟨la99, T99, h99, k99, lb99, kc99, X99, e99, E99, hS99, hk99, hZ99, hown99, LE99, LC99, LV99, LA99, -, -, I99, LL99, st99⟩ := ldcSVL X98 hx hZ hown (ww hw 49 rfl) wSt e98 hS0 (Nat.zero_le _) (N := (by rw [hsz0]; exact N97)) hkeep I0 (by decide) hc_31 hcw (vs := [(.int (116 : Int32)), (.int (114 : Int32)), (.int (117 : Int32)), (.int (101 : Int32))]) (z := (4 : Int32)) ⟨by decide, by decide⟩ (by decide) (by decide) (g := (mkF m 62 (Sh4 q1 1 aT 1 xT) [(.ref xT)])) rfl (hb hby at_62) (n := 16) (by decide) (by decide) (by decide) (by decide)
    have f99_20 := Nat.le_trans Z0 E99.1
    have f99_21 := P0.ext E99
    have f99_22 := P1.ext E99
    have f99_23 := P2.ext E99
    have f99_24 := P3.ext E99
    have f99_25 := P4.ext E99
    have f99_26 := P5.ext E99
    have f99_27 := P6.ext E99
    have f99_28 := P7.ext E99
    have f99_29 := P8.ext E99
    have f99_30 := P9.ext E99
    have f99_31 := P10.ext E99
    have f99_32 := P11.ext E99
    have f99_33 := P12.ext E99
    have f99_34 := P13.ext E99
    have f99_35 := P14.ext E99
    have f99_36 := P15.ext E99
    have f99_37 := P16.ext E99
    have f99_38 := P17.ext E99
    refine GoV.sg (mkF m 64 (Sh4 q1 1 aT 1 xT) [(.ref la99), (.ref xT)]) (fun t k => st99 t k) ?_
    obtain ⟨cq163, kq163, q163a, q163b, q163c⟩ := isOf hZ99 e99 f99_27
    obtain ⟨_, _, ⟨T163, L163, k163, n163⟩, -, X163, ⟨Lc163, hQ163, l163, y163, z163⟩, st163⟩ := X99.virtualBack hx (y := (⟨"java/lang/String", "equals", "(Ljava/lang/Object;)Z"⟩ : MethodName)) (z := Y4) hown99 (mvT hZ99 (ww hw 32 rfl)) (mvT hZ99 (ww hw 33 rfl)) (notFace_of_selects (args := #[]) (mvT hZ99 (ww hw 35 rfl))) (mvT hZ99 (ww hw 35 rfl)) (mvT hZ99 (ww hw 34 rfl)) (by decide) (backOf (W := 0) (rm4_8 l Z a0 hw [] xT la99 vT lb99 kT kc99 cs h99 n0  LE99 f99_28 LC99 f99_29 LV99 f99_30 LA99 f99_21   ncs ) hZ99 (ww hw 36 rfl) (ww hw 25 rfl) (by decide) (by decide)) q163a q163c (g := (mkF m 64 (Sh4 q1 1 aT 1 xT) [(.ref la99), (.ref xT)])) rfl (by rw [hml]; rfl) (Steps.refl _) (argsL := [(.ref la99)]) (rest := []) (lenOf pd_28Ljava2flang2fObject3b29Z rfl) rfl (by show 2 * 0 + _ ≤ _; exact Nat.le_of_eq rfl) (hb hby at_64) (fun _ _ => ⟨rfl, e99, (by decide : 2 + 0 ≤ _), (by decide : 20 + 0 ≤ _)⟩)
    dsimp only [Pt.U, Pt.locs, Pt.cells, Pt.slots] at X163 l163 y163 z163 st163 hQ163
    subst l163 y163 z163
    obtain ⟨rfl, N163q, e163⟩ := hQ163
    have N163 := Fr.app N97 N163q
    refine GoV.sg (mkF m 67 (Sh4 q1 1 aT 1 xT) [(.int 1)]) (fun t k => st163.trans k) ?_
    refine GoV.sg (mkF m 70 (Sh4 q1 1 aT 1 xT) []) (fun t k => XS.ifNo X163.here hx rfl (hb hby at_67) rfl (by decide) k) ?_
    refine GoV.sg (mkF m 71 (Sh4 q1 1 aT 1 xT) [(.int 1)]) (fun t k => XS.iconst X163.here hx rfl (hb hby at_70) k) ?_
    refine GoV.sg (mkF m 75 (Sh4 q1 1 aT 1 xT) [(.int 1)]) (fun t k => XS.goto X163.here hx rfl (pc0 := 71) (pc' := 75) rfl (hb hby at_71) (by decide) (by decide) k) ?_
    refine GoV.sg (mkF m 76 (Sh4 q1 1 aT 1 xT) []) (fun t k => XS.istoreN X163.here hx rfl (hb hby at_75) rfl (l' := (Sh4 q1 1 aT 1 xT)) rfl k) ?_
    refine GoV.sg (mkF m 102 (Sh4 q1 1 aT 1 xT) []) (fun t k => XS.goto X163.here hx rfl (pc0 := 76) (pc' := 102) rfl (hb hby at_76) (by decide) (by decide) k) ?_
    refine GoV.sg (mkF m 103 (Sh4 q1 1 aT 1 xT) [(.int 1)]) (fun t k => XS.iloadN X163.here hx rfl (hb hby at_102) rfl k) ?_
    refine GoV.retN X163 hS99 (by rw [e163]; exact hk99) hx (t := .boolean) Bd.returns (by simp) (hb hby at_103) Bd.notSynchronized ?_ (by decide) (by decide)
    exact ⟨rfl, N163⟩

set_option maxRecDepth 65536 in
set_option maxHeartbeats 40000000 in
theorem comes_1 {Post : Tables → Env → Array Value → State → Outcome → State → Prop} (hpost : ∀ tb e args s v u, (limb_1_1.after args s (.returned v) u = true ∧ limb_1_2.after args s (.returned v) u = true ∧ True) → ReturnedEndW s (.returned v) u (Jvm.fieldLocs frame_1_writes args s ++ Jvm.arrayLocs frame_1_arrays args s ++ Jvm.staticLocs frame_1_statics s) 8 2112 → Post tb e args s (.returned v) u) :
    ArmFor flags0 classFile x code maxLocals ret World_1 tables_1 room_1 Calls_1 rest_1 Pre_1 Post := by
  intro l hfl _ _ p e ha hc hk s m args below hf hA hF happ hP
  obtain ⟨hcalls, hrest, hpre⟩ := hP
  obtain ⟨-, -, -, hnamed, -, -, -, hat⟩ := (Spec.applies_iff hf).mp happ
  obtain ⟨hg, hn⟩ := and_e (Cond.before_iff.mp (show (Jvm.Cond.and given_1 narrow_1).before args s = true from hpre))
  obtain ⟨ga0, gb0⟩ := and_e hg
  obtain ⟨w0, rfl⟩ : ∃ w0 : Value, args = #[w0] := by
    have hs : args.size = 1 := by simpa [Cond.value, given_1] using ga0
    obtain ⟨L⟩ := args
    match L, hs with
    | [w0], _ => exact ⟨w0, rfl⟩
  have hw := fun d (hd : d ∈ tables_1) => atoms_spec (ws := Jvm.Cond.code x code maxLocals ret :: tables_1) hat d (List.mem_cons_of_mem _ hd)
  have hfit : Fit s := fun {y c} hc i hi => by
    obtain ⟨ha, rfl⟩ := Array.getElem?_eq_some_iff.mp hc
    have q := List.all_eq_true.mp ((Array.all_eq_true_iff_forall_mem.mp hF) _ (Array.getElem_mem ha)) i (List.mem_range.mpr hi)
    simpa [Array.getElem?_eq_getElem hi] using q
  obtain ⟨i0, ei0⟩ := is_v gb0
  obtain rfl : w0 = (.int i0) := Option.some.inj ei0
  obtain ⟨hsets, hown0⟩ := atoms_of _ (rest_1_c_eq ▸ (show rest_1_c.before _ s = true from hrest))
  have n5 := not_v (Cond.before_iff.mp (hsets _ (List.mem_of_getElem? (i := 2) rfl)))
  obtain ⟨cs, ecs⟩ := is_v (Cond.before_iff.mp (hsets _ (List.mem_of_getElem? (i := 1) rfl)))
  have SC := Sta.start ecs (Or.inl (hsets _ (List.mem_of_getElem? (i := 0) rfl)))
  have ncs : ¬ (cs = (0 : Int32)) := gotF (Cond.eq_ints ecs (Term.int_eval (0))) n5
  obtain ⟨meF, r0⟩ := and_e hn
  obtain ⟨meB, r1⟩ := and_e r0
  obtain ⟨mdF, r2⟩ := and_e r1
  obtain ⟨mxF, r3⟩ := and_e r2
  obtain ⟨mcF, r4⟩ := and_e r3
  obtain ⟨mvF, r5⟩ := and_e r4
  obtain ⟨mlF, r6⟩ := and_e r5
  obtain ⟨meT, r7⟩ := and_e r6
  obtain ⟨mdT, r8⟩ := and_e r7
  obtain ⟨mxT, r9⟩ := and_e r8
  obtain ⟨mcT, r10⟩ := and_e r9
  obtain ⟨mvT, r11⟩ := and_e r10
  obtain ⟨mlT, r12⟩ := and_e r11
  obtain ⟨mtT0, r13⟩ := and_e r12
  obtain ⟨mtT1, r14⟩ := and_e r13
  obtain ⟨mtT2, r15⟩ := and_e r14
  obtain ⟨mtT3, r16⟩ := and_e r15
  obtain ⟨mtF0, r17⟩ := and_e r16
  obtain ⟨mtF1, r18⟩ := and_e r17
  obtain ⟨mtF2, r19⟩ := and_e r18
  obtain ⟨mtF3, mtF4⟩ := and_e r19
  obtain ⟨aB, evB⟩ := exa_v meB
  have SB := Sta.start evB (Or.inr ⟨(ww hw 13 rfl), (ww hw 14 rfl)⟩)
  obtain ⟨aT, evT⟩ := exa_v meT
  have ST := Sta.start evT (Or.inr ⟨(ww hw 2 rfl), (ww hw 47 rfl)⟩)
  have ET := Exa.start evT meT
  have DT := Fld.start ((fld_at evT).symm.trans (own_eqR mdT evB))
  obtain ⟨xT, exT⟩ := exa_v mxT
  have LT := Fld.start ((fld_at evT).symm.trans exT)
  have XT := Exa.start exT mxT
  have CT := Fld.start ((fld_at exT).symm.trans (own_eqI mcT))
  obtain ⟨vT, evvT⟩ := arr_v mvT
  have VT := Fld.start ((fld_at exT).symm.trans evvT)
  obtain ⟨clT, AT⟩ := Arr.start evvT mvT
  have RT := own_arrI (vs := [.int 116, .int 114, .int 117, .int 101]) hfit evvT AT mlT (by decide) rfl ⟨own_elI evvT AT (by decide) mtT0, own_elI evvT AT (by decide) mtT1, own_elI evvT AT (by decide) mtT2, own_elI evvT AT (by decide) mtT3, trivial⟩
  obtain ⟨aF, evF⟩ := exa_v meF
  have SF := Sta.start evF (Or.inr ⟨(ww hw 2 rfl), (ww hw 5 rfl)⟩)
  have EF := Exa.start evF meF
  have DF := Fld.start ((fld_at evF).symm.trans (own_eqR mdF evB))
  obtain ⟨xF, exF⟩ := exa_v mxF
  have LF := Fld.start ((fld_at evF).symm.trans exF)
  have XF := Exa.start exF mxF
  have CF := Fld.start ((fld_at exF).symm.trans (own_eqI mcF))
  obtain ⟨vF, evvF⟩ := arr_v mvF
  have VF := Fld.start ((fld_at exF).symm.trans evvF)
  obtain ⟨clF, AF⟩ := Arr.start evvF mvF
  have RF := own_arrI (vs := [.int 102, .int 97, .int 108, .int 115, .int 101]) hfit evvF AF mlF (by decide) rfl ⟨own_elI evvF AF (by decide) mtF0, own_elI evvF AF (by decide) mtF1, own_elI evvF AF (by decide) mtF2, own_elI evvF AF (by decide) mtF3, own_elI evvF AF (by decide) mtF4, trivial⟩
  have hc31 : Jvm.Lit.constHeld s "com/example/abacus/abacus/model/AttributeValueOfPinLaw" 31 := hcalls.1 ("com/example/abacus/abacus/model/AttributeValueOfPinLaw", 31) (by simp [consts_1])
  have hc42 : Jvm.Lit.constHeld s "com/example/abacus/abacus/model/AttributeValueOfPinLaw" 42 := hcalls.1 ("com/example/abacus/abacus/model/AttributeValueOfPinLaw", 42) (by simp [consts_1])
  obtain ⟨n, o, h1, h2, h3, v, L, rfl, ⟨hv, N⟩, hq⟩ := rm0 l s _ hw tables_1 i0 cs aB aT xT vT clT.cls aF xF vF clF.cls s.heap s.heap.size (Nat.le_refl _) SC SB ST ET DT LT XT CT VT RT SF EF DF LF XF CF VF RF ncs rfl hc31 hc42 (hsets _ (List.mem_of_getElem? (i := 2) rfl)) p e ha hc hk s m _ below hf ((Spec.applies_iff_loose hf).mp happ).1 ⟨rfl, rfl, rfl⟩ trivial
  subst hv
  refine ⟨n, _, h1, h2, h3, hpost _ _ _ _ _ _ ⟨Cond.after_iff.mpr rfl, Cond.after_iff.mpr (eq_i res_at (Term.int_eval (1)) rfl), trivial⟩ ⟨hq.1, hq.2.1, hq.2.2.1, (hq.2.2.2.sift fun y hy => Or.inr (N y hy)).mono (by decide) (by decide)⟩⟩
theorem main_1_1 : Claimed_1_1 := comes_1 fun _ _ _ _ _ _ h hF => ⟨h.1, hF⟩
theorem main_1_2 : Claimed_1_2 := comes_1 fun _ _ _ _ _ _ h hF => ⟨h.2.1, hF⟩
end Jvm.Pilot.@@N@@
namespace Jvm.Pilot.@@N@@
open Jvm Jvm.ClassFile Sem Op Lib Jvm.Free Jvm.Stand Jvm.Pilot.@@N@@.Jvm.D
/-! MADE BY PROGRAM (witnessworld.py) out of the Statement's table words and the real class files: 21 classes; the members and pool entries that the words name. The judged class is class 1, her method 1. -/
namespace start1
open Jvm.ClassFile
def u (s : String) : CpInfo := .utf8 (stringToUtf16 s)
/-- a pool by its gaps: so many unusable entries, then the entry; so many at the end -/
def gap : Nat → List CpInfo → List CpInfo
  | 0, r => r
  | n + 1, r => .unusable :: gap n r
def poolList (es : List (Nat × CpInfo)) (last : Nat) : List CpInfo := es.foldr (fun e r => gap e.1 (e.2 :: r)) (gap last [])
def pool (es : List (Nat × CpInfo)) (last : Nat) : Array CpInfo := ⟨poolList es last⟩
def fileOf (pool : Array CpInfo) (this : Nat) (attrs : Array Attribute := #[]) (ms : Array MethodInfo := #[]) (fl : Nat := 33) (sup : Nat := 0) (ifs : Array Nat := #[]) (fds : Array FieldInfo := #[]) : ClassFile where
  minorVersion := 0
  majorVersion := 65
  constantPool := pool
  accessFlags := fl
  thisClass := this
  superClass := sup
  interfaces := ifs
  fields := fds
  methods := ms
  attributes := attrs
def plain (name : String) (sup : Option ClassId) : Class where
  name := name
  kind := .ordinary
  loader := none
  accessFlags := 33
  super := sup
  interfaces := #[]
  cf := none
  fields := #[]
  methods := #[]
  instanceTypes := #[]
  staticTypes := #[]
  resolved := #[]
  callSites := []
  init := .initialized
  statics := none
  mirror := none

def pool0 : Array CpInfo := pool [(5, u "<init>"), (0, u "()V"), (1, .class_ 10), (1, u "java/lang/Object")] 113

def k0m0 : Method := { name := "<init>", desc := "()V", sig := { parameters := [], returnType := none }, accessFlags := 1, code := none }
/-- java/lang/Object -/
def k0 : Class := { plain "java/lang/Object" none with
  accessFlags := 33
  interfaces := #[]
  cf := some (fileOf pool0 8 #[] #[{ accessFlags := 1, nameIndex := 5, descriptorIndex := 6, attributes := #[] }] 33 0 #[] #[])
  fields := #[]
  methods := #[k0m0]
  instanceTypes := #[]
  staticTypes := #[]
  resolved := Array.replicate 124 none
  statics := none }

def pool1 : Array CpInfo := pool [(2, .class_ 4), (1, u "java/lang/Object"), (0, u "<init>"), (0, u "()V"), (0, .methodref 8 9), (0, .class_ 10), (0, .nameAndType 11 12), (0, u "com/example/abacus/abacus/model/AttributeValue"), (0, u "of"), (0, u "(Z)Lcom/example/abacus/abacus/model/AttributeValue;"), (0, .methodref 8 14), (0, .nameAndType 15 16), (0, u "dataType"), (0, u "()Lcom/example/abacus/abacus/model/DataType;"), (0, .fieldref 18 19), (0, .class_ 20), (0, .nameAndType 21 22), (0, u "com/example/abacus/abacus/model/DataType"), (0, u "BOOLEAN"), (0, u "Lcom/example/abacus/abacus/model/DataType;"), (0, .methodref 8 24), (0, .nameAndType 25 26), (0, u "lexical"), (0, u "()Ljava/lang/String;"), (0, .fieldref 8 28), (0, .nameAndType 29 30), (0, u "TRUE"), (0, u "Lcom/example/abacus/abacus/model/AttributeValue;"), (0, .string 32), (0, u "true"), (0, .methodref 34 35), (0, .class_ 36), (0, .nameAndType 37 38), (0, u "java/lang/String"), (0, u "equals"), (0, u "(Ljava/lang/Object;)Z"), (0, .fieldref 8 40), (0, .nameAndType 41 30), (0, u "FALSE"), (0, .string 43), (0, u "false"), (0, .class_ 45), (0, u "com/example/abacus/abacus/model/AttributeValueOfPinLaw"), (2, u "law"), (0, u "(I)Z")] 3

def k1m0 : Method := { name := "<init>", desc := "()V", sig := { parameters := [], returnType := none }, accessFlags := 2, code := none }
def k1c1 : Code := { maxStack := 2, maxLocals := 5, code := code, exceptionTable := #[], attributes := #[] }
def k1m1 : Method := { name := "law", desc := "(I)Z", sig := { parameters := [.int], returnType := some .boolean }, accessFlags := 9, code := some k1c1 }
/-- com/example/abacus/abacus/model/AttributeValueOfPinLaw -/
def k1 : Class := { plain "com/example/abacus/abacus/model/AttributeValueOfPinLaw" (some 0) with
  accessFlags := 49
  interfaces := #[]
  cf := some (fileOf pool1 44 #[] #[{ accessFlags := 2, nameIndex := 5, descriptorIndex := 6, attributes := #[] }, { accessFlags := 9, nameIndex := 48, descriptorIndex := 49, attributes := #[] }] 49 2 #[] #[])
  fields := #[]
  methods := #[k1m0, k1m1]
  instanceTypes := #[]
  staticTypes := #[]
  resolved := Array.replicate 53 none
  statics := none }

def pool2 : Array CpInfo := pool [(1, .class_ 2), (0, u "com/example/abacus/abacus/model/Value"), (0, .class_ 4), (0, u "java/lang/Object")] 9

/-- com/example/abacus/abacus/model/Value -/
def k2 : Class := { plain "com/example/abacus/abacus/model/Value" (some 0) with
  accessFlags := 1537
  interfaces := #[]
  cf := some (fileOf pool2 1 #[] #[] 1537 3 #[] #[])
  fields := #[]
  methods := #[]
  instanceTypes := #[]
  staticTypes := #[]
  resolved := Array.replicate 14 none
  statics := none }

def pool3 : Array CpInfo := pool [(1, .class_ 2), (0, u "com/example/abacus/abacus/model/Expression"), (0, .class_ 4), (0, u "java/lang/Object")] 11

/-- com/example/abacus/abacus/model/Expression -/
def k3 : Class := { plain "com/example/abacus/abacus/model/Expression" (some 0) with
  accessFlags := 1537
  interfaces := #[]
  cf := some (fileOf pool3 1 #[] #[] 1537 3 #[] #[])
  fields := #[]
  methods := #[]
  instanceTypes := #[]
  staticTypes := #[]
  resolved := Array.replicate 16 none
  statics := none }

def pool4 : Array CpInfo := pool [(2, .class_ 4), (1, u "java/lang/Object"), (2, .fieldref 8 9), (0, .class_ 10), (0, .nameAndType 11 12), (0, u "com/example/abacus/abacus/model/AttributeValue"), (0, u "dataType"), (0, u "Lcom/example/abacus/abacus/model/DataType;"), (2, u "value"), (0, u "Ljava/lang/Object;"), (0, .fieldref 8 18), (0, .nameAndType 19 20), (0, u "lexical"), (0, u "Ljava/lang/String;"), (17, u "()Ljava/lang/String;"), (10, .fieldref 8 50), (0, .nameAndType 51 52), (0, u "TRUE"), (0, u "Lcom/example/abacus/abacus/model/AttributeValue;"), (0, .fieldref 8 54), (0, .nameAndType 55 52), (0, u "FALSE"), (57, .class_ 114), (0, u "com/example/abacus/abacus/model/Value"), (0, .class_ 116), (0, u "com/example/abacus/abacus/model/Expression"), (2, u "of"), (2, u "(Z)Lcom/example/abacus/abacus/model/AttributeValue;"), (0, u "()Lcom/example/abacus/abacus/model/DataType;")] 23

def k4c0 : Code := { maxStack := 1, maxLocals := 1, code := prog_87_method_3_code, exceptionTable := #[], attributes := #[] }
def k4m0 : Method := { name := "of", desc := "(Z)Lcom/example/abacus/abacus/model/AttributeValue;", sig := { parameters := [.boolean], returnType := some (.object "com/example/abacus/abacus/model/AttributeValue") }, accessFlags := 9, code := some k4c0 }
def k4c1 : Code := { maxStack := 1, maxLocals := 1, code := prog_87_method_4_code, exceptionTable := #[], attributes := #[] }
def k4m1 : Method := { name := "dataType", desc := "()Lcom/example/abacus/abacus/model/DataType;", sig := { parameters := [], returnType := some (.object "com/example/abacus/abacus/model/DataType") }, accessFlags := 1, code := some k4c1 }
def k4c2 : Code := { maxStack := 2, maxLocals := 1, code := prog_87_method_6_code, exceptionTable := #[], attributes := #[] }
def k4m2 : Method := { name := "lexical", desc := "()Ljava/lang/String;", sig := { parameters := [], returnType := some (.object "java/lang/String") }, accessFlags := 1, code := some k4c2 }
/-- com/example/abacus/abacus/model/AttributeValue -/
def k4 : Class := { plain "com/example/abacus/abacus/model/AttributeValue" (some 0) with
  accessFlags := 49
  interfaces := #[2, 3]
  cf := some (fileOf pool4 8 #[] #[{ accessFlags := 9, nameIndex := 119, descriptorIndex := 122, attributes := #[] }, { accessFlags := 1, nameIndex := 11, descriptorIndex := 123, attributes := #[] }, { accessFlags := 1, nameIndex := 19, descriptorIndex := 38, attributes := #[] }] 49 2 #[113, 115] #[{ accessFlags := 25, nameIndex := 51, descriptorIndex := 52, attributes := #[] }, { accessFlags := 25, nameIndex := 55, descriptorIndex := 52, attributes := #[] }, { accessFlags := 18, nameIndex := 11, descriptorIndex := 12, attributes := #[] }, { accessFlags := 18, nameIndex := 15, descriptorIndex := 16, attributes := #[] }, { accessFlags := 18, nameIndex := 19, descriptorIndex := 20, attributes := #[] }])
  fields := #[{ name := "TRUE", type := (.object "com/example/abacus/abacus/model/AttributeValue"), accessFlags := 25, slot := 0, constantValue := 0 }, { name := "FALSE", type := (.object "com/example/abacus/abacus/model/AttributeValue"), accessFlags := 25, slot := 1, constantValue := 0 }, { name := "dataType", type := (.object "com/example/abacus/abacus/model/DataType"), accessFlags := 18, slot := 0, constantValue := 0 }, { name := "value", type := (.object "java/lang/Object"), accessFlags := 18, slot := 1, constantValue := 0 }, { name := "lexical", type := (.object "java/lang/String"), accessFlags := 18, slot := 2, constantValue := 0 }]
  methods := #[k4m0, k4m1, k4m2]
  instanceTypes := #[(.object "com/example/abacus/abacus/model/DataType"), (.object "java/lang/Object"), (.object "java/lang/String")]
  staticTypes := #[(.object "com/example/abacus/abacus/model/AttributeValue"), (.object "com/example/abacus/abacus/model/AttributeValue")]
  resolved := Array.replicate 147 none
  statics := some 0 }

def pool5 : Array CpInfo := pool [(1, .class_ 2), (0, u "java/lang/constant/Constable"), (0, .class_ 4), (0, u "java/lang/Object")] 6

/-- java/lang/constant/Constable -/
def k5 : Class := { plain "java/lang/constant/Constable" (some 0) with
  accessFlags := 1537
  interfaces := #[]
  cf := some (fileOf pool5 1 #[] #[] 1537 3 #[] #[])
  fields := #[]
  methods := #[]
  instanceTypes := #[]
  staticTypes := #[]
  resolved := Array.replicate 11 none
  statics := none }

def pool6 : Array CpInfo := pool [(1, .class_ 2), (0, u "java/lang/Comparable"), (0, .class_ 4), (0, u "java/lang/Object")] 7

/-- java/lang/Comparable -/
def k6 : Class := { plain "java/lang/Comparable" (some 0) with
  accessFlags := 1537
  interfaces := #[]
  cf := some (fileOf pool6 1 #[] #[] 1537 3 #[] #[])
  fields := #[]
  methods := #[]
  instanceTypes := #[]
  staticTypes := #[]
  resolved := Array.replicate 12 none
  statics := none }

def pool7 : Array CpInfo := pool [(1, .class_ 2), (0, u "java/io/Serializable"), (0, .class_ 4), (0, u "java/lang/Object")] 2

/-- java/io/Serializable -/
def k7 : Class := { plain "java/io/Serializable" (some 0) with
  accessFlags := 1537
  interfaces := #[]
  cf := some (fileOf pool7 1 #[] #[] 1537 3 #[] #[])
  fields := #[]
  methods := #[]
  instanceTypes := #[]
  staticTypes := #[]
  resolved := Array.replicate 7 none
  statics := none }

def pool8 : Array CpInfo := pool [(2, .class_ 4), (1, u "java/lang/Enum"), (0, u "name"), (0, u "Ljava/lang/String;"), (2, u "ordinal"), (0, u "I"), (1, .class_ 14), (1, u "java/lang/Object"), (4, u "hash"), (86, .class_ 108), (1, u "java/lang/Enum$EnumDesc"), (2, .class_ 112), (0, u "java/lang/constant/Constable"), (0, .class_ 114), (0, u "java/lang/Comparable"), (0, .class_ 116), (0, u "java/io/Serializable")] 87

/-- java/lang/Enum -/
def k8 : Class := { plain "java/lang/Enum" (some 0) with
  accessFlags := 1057
  interfaces := #[5, 6, 7]
  cf := some (fileOf pool8 2 #[.nestMembers #[106]] #[] 1057 12 #[111, 113, 115] #[{ accessFlags := 18, nameIndex := 5, descriptorIndex := 6, attributes := #[] }, { accessFlags := 18, nameIndex := 9, descriptorIndex := 10, attributes := #[] }, { accessFlags := 2, nameIndex := 19, descriptorIndex := 10, attributes := #[] }])
  fields := #[{ name := "name", type := (.object "java/lang/String"), accessFlags := 18, slot := 0, constantValue := 0 }, { name := "ordinal", type := .int, accessFlags := 18, slot := 1, constantValue := 0 }, { name := "hash", type := .int, accessFlags := 2, slot := 2, constantValue := 0 }]
  methods := #[]
  instanceTypes := #[(.object "java/lang/String"), .int, .int]
  staticTypes := #[]
  resolved := Array.replicate 204 none
  statics := none }

def pool9 : Array CpInfo := pool [(1, .class_ 2), (0, u "com/example/abacus/abacus/model/DataType"), (2, u "STRING"), (0, u "Lcom/example/abacus/abacus/model/DataType;"), (2, u "BOOLEAN"), (2, u "INTEGER"), (2, u "DOUBLE"), (2, u "TIME"), (2, u "DATE"), (2, u "DATE_TIME"), (2, u "DAY_TIME_DURATION"), (2, u "YEAR_MONTH_DURATION"), (2, u "ANY_URI"), (2, u "HEX_BINARY"), (2, u "BASE64_BINARY"), (2, u "RFC822_NAME"), (2, u "X500_NAME"), (2, u "IP_ADDRESS"), (2, u "DNS_NAME"), (2, u "$VALUES"), (0, u "[Lcom/example/abacus/abacus/model/DataType;"), (6, .class_ 64), (1, u "java/lang/Enum"), (8, u "uri"), (0, u "Ljava/lang/String;"), (2, u "javaType"), (0, u "Ljava/lang/Class;"), (2, u "parser"), (0, u "Ljava/util/function/Function;"), (2, u "formatter"), (2, u "BY_URI"), (0, u "Ljava/util/Map;"), (34, u "DIGITS_BOUNDED"), (0, u "Ljava/util/Set;"), (43, u "YEAR_MONTH_FIELDS"), (0, u "Ljava/util/List;"), (10, u "DAY_TIME_FIELDS"), (39, u "INTEGER_SYNTAX"), (0, u "Ljava/util/regex/Pattern;"), (7, u "DOUBLE_SYNTAX"), (50, u "DATATYPES"), (0, u "Ljavax/xml/datatype/DatatypeFactory;"), (134, u "IP_ADDRESS_SYNTAX"), (5, u "DNS_PORT_RANGE"), (4, u "DOMAIN_LABEL"), (14, u "TOP_LABEL"), (159, u "MAX_DIGITS"), (0, u "I"), (5, u "PORT_RANGE"), (0, u "IPV4"), (2, u "IPV6")] 142

/-- com/example/abacus/abacus/model/DataType -/
def k9 : Class := { plain "com/example/abacus/abacus/model/DataType" (some 8) with
  accessFlags := 16433
  interfaces := #[]
  cf := some (fileOf pool9 1 #[] #[] 16433 62 #[] #[{ accessFlags := 16409, nameIndex := 5, descriptorIndex := 6, attributes := #[] }, { accessFlags := 16409, nameIndex := 9, descriptorIndex := 6, attributes := #[] }, { accessFlags := 16409, nameIndex := 12, descriptorIndex := 6, attributes := #[] }, { accessFlags := 16409, nameIndex := 15, descriptorIndex := 6, attributes := #[] }, { accessFlags := 16409, nameIndex := 18, descriptorIndex := 6, attributes := #[] }, { accessFlags := 16409, nameIndex := 21, descriptorIndex := 6, attributes := #[] }, { accessFlags := 16409, nameIndex := 24, descriptorIndex := 6, attributes := #[] }, { accessFlags := 16409, nameIndex := 27, descriptorIndex := 6, attributes := #[] }, { accessFlags := 16409, nameIndex := 30, descriptorIndex := 6, attributes := #[] }, { accessFlags := 16409, nameIndex := 33, descriptorIndex := 6, attributes := #[] }, { accessFlags := 16409, nameIndex := 36, descriptorIndex := 6, attributes := #[] }, { accessFlags := 16409, nameIndex := 39, descriptorIndex := 6, attributes := #[] }, { accessFlags := 16409, nameIndex := 42, descriptorIndex := 6, attributes := #[] }, { accessFlags := 16409, nameIndex := 45, descriptorIndex := 6, attributes := #[] }, { accessFlags := 16409, nameIndex := 48, descriptorIndex := 6, attributes := #[] }, { accessFlags := 16409, nameIndex := 51, descriptorIndex := 6, attributes := #[] }, { accessFlags := 25, nameIndex := 603, descriptorIndex := 604, attributes := #[] }, { accessFlags := 26, nameIndex := 124, descriptorIndex := 125, attributes := #[] }, { accessFlags := 26, nameIndex := 281, descriptorIndex := 282, attributes := #[] }, { accessFlags := 26, nameIndex := 169, descriptorIndex := 170, attributes := #[] }, { accessFlags := 26, nameIndex := 181, descriptorIndex := 170, attributes := #[] }, { accessFlags := 26, nameIndex := 221, descriptorIndex := 222, attributes := #[] }, { accessFlags := 26, nameIndex := 230, descriptorIndex := 222, attributes := #[] }, { accessFlags := 26, nameIndex := 610, descriptorIndex := 74, attributes := #[] }, { accessFlags := 26, nameIndex := 611, descriptorIndex := 74, attributes := #[] }, { accessFlags := 26, nameIndex := 614, descriptorIndex := 74, attributes := #[] }, { accessFlags := 26, nameIndex := 417, descriptorIndex := 222, attributes := #[] }, { accessFlags := 26, nameIndex := 428, descriptorIndex := 222, attributes := #[] }, { accessFlags := 26, nameIndex := 443, descriptorIndex := 222, attributes := #[] }, { accessFlags := 26, nameIndex := 423, descriptorIndex := 222, attributes := #[] }, { accessFlags := 26, nameIndex := 88, descriptorIndex := 89, attributes := #[] }, { accessFlags := 18, nameIndex := 73, descriptorIndex := 74, attributes := #[] }, { accessFlags := 18, nameIndex := 77, descriptorIndex := 78, attributes := #[] }, { accessFlags := 18, nameIndex := 81, descriptorIndex := 82, attributes := #[] }, { accessFlags := 18, nameIndex := 85, descriptorIndex := 82, attributes := #[] }, { accessFlags := 4122, nameIndex := 54, descriptorIndex := 55, attributes := #[] }])
  fields := #[{ name := "STRING", type := (.object "com/example/abacus/abacus/model/DataType"), accessFlags := 16409, slot := 0, constantValue := 0 }, { name := "BOOLEAN", type := (.object "com/example/abacus/abacus/model/DataType"), accessFlags := 16409, slot := 1, constantValue := 0 }, { name := "INTEGER", type := (.object "com/example/abacus/abacus/model/DataType"), accessFlags := 16409, slot := 2, constantValue := 0 }, { name := "DOUBLE", type := (.object "com/example/abacus/abacus/model/DataType"), accessFlags := 16409, slot := 3, constantValue := 0 }, { name := "TIME", type := (.object "com/example/abacus/abacus/model/DataType"), accessFlags := 16409, slot := 4, constantValue := 0 }, { name := "DATE", type := (.object "com/example/abacus/abacus/model/DataType"), accessFlags := 16409, slot := 5, constantValue := 0 }, { name := "DATE_TIME", type := (.object "com/example/abacus/abacus/model/DataType"), accessFlags := 16409, slot := 6, constantValue := 0 }, { name := "DAY_TIME_DURATION", type := (.object "com/example/abacus/abacus/model/DataType"), accessFlags := 16409, slot := 7, constantValue := 0 }, { name := "YEAR_MONTH_DURATION", type := (.object "com/example/abacus/abacus/model/DataType"), accessFlags := 16409, slot := 8, constantValue := 0 }, { name := "ANY_URI", type := (.object "com/example/abacus/abacus/model/DataType"), accessFlags := 16409, slot := 9, constantValue := 0 }, { name := "HEX_BINARY", type := (.object "com/example/abacus/abacus/model/DataType"), accessFlags := 16409, slot := 10, constantValue := 0 }, { name := "BASE64_BINARY", type := (.object "com/example/abacus/abacus/model/DataType"), accessFlags := 16409, slot := 11, constantValue := 0 }, { name := "RFC822_NAME", type := (.object "com/example/abacus/abacus/model/DataType"), accessFlags := 16409, slot := 12, constantValue := 0 }, { name := "X500_NAME", type := (.object "com/example/abacus/abacus/model/DataType"), accessFlags := 16409, slot := 13, constantValue := 0 }, { name := "IP_ADDRESS", type := (.object "com/example/abacus/abacus/model/DataType"), accessFlags := 16409, slot := 14, constantValue := 0 }, { name := "DNS_NAME", type := (.object "com/example/abacus/abacus/model/DataType"), accessFlags := 16409, slot := 15, constantValue := 0 }, { name := "MAX_DIGITS", type := .int, accessFlags := 25, slot := 16, constantValue := 0 }, { name := "DIGITS_BOUNDED", type := (.object "java/util/Set"), accessFlags := 26, slot := 17, constantValue := 0 }, { name := "DATATYPES", type := (.object "javax/xml/datatype/DatatypeFactory"), accessFlags := 26, slot := 18, constantValue := 0 }, { name := "YEAR_MONTH_FIELDS", type := (.object "java/util/List"), accessFlags := 26, slot := 19, constantValue := 0 }, { name := "DAY_TIME_FIELDS", type := (.object "java/util/List"), accessFlags := 26, slot := 20, constantValue := 0 }, { name := "INTEGER_SYNTAX", type := (.object "java/util/regex/Pattern"), accessFlags := 26, slot := 21, constantValue := 0 }, { name := "DOUBLE_SYNTAX", type := (.object "java/util/regex/Pattern"), accessFlags := 26, slot := 22, constantValue := 0 }, { name := "PORT_RANGE", type := (.object "java/lang/String"), accessFlags := 26, slot := 23, constantValue := 0 }, { name := "IPV4", type := (.object "java/lang/String"), accessFlags := 26, slot := 24, constantValue := 0 }, { name := "IPV6", type := (.object "java/lang/String"), accessFlags := 26, slot := 25, constantValue := 0 }, { name := "IP_ADDRESS_SYNTAX", type := (.object "java/util/regex/Pattern"), accessFlags := 26, slot := 26, constantValue := 0 }, { name := "DOMAIN_LABEL", type := (.object "java/util/regex/Pattern"), accessFlags := 26, slot := 27, constantValue := 0 }, { name := "TOP_LABEL", type := (.object "java/util/regex/Pattern"), accessFlags := 26, slot := 28, constantValue := 0 }, { name := "DNS_PORT_RANGE", type := (.object "java/util/regex/Pattern"), accessFlags := 26, slot := 29, constantValue := 0 }, { name := "BY_URI", type := (.object "java/util/Map"), accessFlags := 26, slot := 30, constantValue := 0 }, { name := "uri", type := (.object "java/lang/String"), accessFlags := 18, slot := 3, constantValue := 0 }, { name := "javaType", type := (.object "java/lang/Class"), accessFlags := 18, slot := 4, constantValue := 0 }, { name := "parser", type := (.object "java/util/function/Function"), accessFlags := 18, slot := 5, constantValue := 0 }, { name := "formatter", type := (.object "java/util/function/Function"), accessFlags := 18, slot := 6, constantValue := 0 }, { name := "$VALUES", type := (.array (.object "com/example/abacus/abacus/model/DataType")), accessFlags := 4122, slot := 31, constantValue := 0 }]
  methods := #[]
  instanceTypes := #[(.object "java/lang/String"), .int, .int, (.object "java/lang/String"), (.object "java/lang/Class"), (.object "java/util/function/Function"), (.object "java/util/function/Function")]
  staticTypes := #[(.object "com/example/abacus/abacus/model/DataType"), (.object "com/example/abacus/abacus/model/DataType"), (.object "com/example/abacus/abacus/model/DataType"), (.object "com/example/abacus/abacus/model/DataType"), (.object "com/example/abacus/abacus/model/DataType"), (.object "com/example/abacus/abacus/model/DataType"), (.object "com/example/abacus/abacus/model/DataType"), (.object "com/example/abacus/abacus/model/DataType"), (.object "com/example/abacus/abacus/model/DataType"), (.object "com/example/abacus/abacus/model/DataType"), (.object "com/example/abacus/abacus/model/DataType"), (.object "com/example/abacus/abacus/model/DataType"), (.object "com/example/abacus/abacus/model/DataType"), (.object "com/example/abacus/abacus/model/DataType"), (.object "com/example/abacus/abacus/model/DataType"), (.object "com/example/abacus/abacus/model/DataType"), .int, (.object "java/util/Set"), (.object "javax/xml/datatype/DatatypeFactory"), (.object "java/util/List"), (.object "java/util/List"), (.object "java/util/regex/Pattern"), (.object "java/util/regex/Pattern"), (.object "java/lang/String"), (.object "java/lang/String"), (.object "java/lang/String"), (.object "java/util/regex/Pattern"), (.object "java/util/regex/Pattern"), (.object "java/util/regex/Pattern"), (.object "java/util/regex/Pattern"), (.object "java/util/Map"), (.array (.object "com/example/abacus/abacus/model/DataType"))]
  resolved := Array.replicate 757 none
  statics := some 1 }

def pool10 : Array CpInfo := pool [(2, .class_ 4), (1, u "java/lang/CharSequence"), (42, .class_ 48), (0, u "java/lang/CharSequence$1CodePointIterator"), (10, .class_ 60), (0, u "java/lang/CharSequence$1CharIterator"), (5, .class_ 67), (0, u "java/lang/Object")] 63

/-- java/lang/CharSequence -/
def k10 : Class := { plain "java/lang/CharSequence" (some 0) with
  accessFlags := 1537
  interfaces := #[]
  cf := some (fileOf pool10 2 #[.nestMembers #[47, 59]] #[] 1537 66 #[] #[])
  fields := #[]
  methods := #[]
  instanceTypes := #[]
  staticTypes := #[]
  resolved := Array.replicate 131 none
  statics := none }

def pool11 : Array CpInfo := pool [(1, .class_ 2), (0, u "java/lang/constant/ConstantDesc"), (0, .class_ 4), (0, u "java/lang/Object")] 32

/-- java/lang/constant/ConstantDesc -/
def k11 : Class := { plain "java/lang/constant/ConstantDesc" (some 0) with
  accessFlags := 1537
  interfaces := #[]
  cf := some (fileOf pool11 1 #[] #[] 1537 3 #[] #[])
  fields := #[]
  methods := #[]
  instanceTypes := #[]
  staticTypes := #[]
  resolved := Array.replicate 37 none
  statics := none }

def pool12 : Array CpInfo := pool [(2, .class_ 4), (1, u "java/lang/Object"), (0, u "<init>"), (0, u "()V"), (2, .fieldref 10 11), (0, .class_ 12), (0, .nameAndType 13 14), (0, u "java/lang/String"), (0, u "value"), (0, u "[B"), (0, .fieldref 10 16), (0, .nameAndType 17 18), (0, u "coder"), (0, u "B"), (2, u "hash"), (0, u "I"), (2, u "hashIsZero"), (0, u "Z"), (11, .fieldref 10 39), (0, .nameAndType 40 26), (0, u "COMPACT_STRINGS"), (66, .class_ 109), (1, u "java/lang/StringLatin1"), (431, .methodref 107 542), (0, .nameAndType 543 544), (0, u "equals"), (0, u "([B[B)Z"), (28, u "(Ljava/lang/Object;)Z"), (1, .class_ 576), (0, u "java/lang/CharSequence"), (22, u "CASE_INSENSITIVE_ORDER"), (0, u "Ljava/util/Comparator;"), (500, u "serialPersistentFields"), (0, u "[Ljava/io/ObjectStreamField;"), (0, .class_ 1104), (0, u "java/lang/String$CaseInsensitiveComparator"), (1, .class_ 1107), (0, u "java/io/Serializable"), (0, .class_ 1109), (0, u "java/lang/Comparable"), (0, .class_ 1111), (0, u "java/lang/constant/Constable"), (0, .class_ 1113), (0, u "java/lang/constant/ConstantDesc"), (2, u "serialVersionUID"), (0, u "J"), (3, u "REPL"), (0, u "C"), (2, u "LATIN1"), (1, u "UTF16")] 323

def k12m0 : Method := { name := "<init>", desc := "()V", sig := { parameters := [], returnType := none }, accessFlags := 1, code := none }
def k12c1 : Code := { maxStack := 2, maxLocals := 3, code := jdk_42_method_66_code, exceptionTable := #[], attributes := #[] }
def k12m1 : Method := { name := "equals", desc := "(Ljava/lang/Object;)Z", sig := { parameters := [(.object "java/lang/Object")], returnType := some .boolean }, accessFlags := 1, code := some k12c1 }
/-- java/lang/String -/
def k12 : Class := { plain "java/lang/String" (some 0) with
  accessFlags := 49
  interfaces := #[7, 6, 10, 5, 11]
  cf := some (fileOf pool12 10 #[.nestMembers #[1103]] #[{ accessFlags := 1, nameIndex := 5, descriptorIndex := 6, attributes := #[] }, { accessFlags := 1, nameIndex := 543, descriptorIndex := 573, attributes := #[] }] 49 2 #[1106, 1108, 575, 1110, 1112] #[{ accessFlags := 18, nameIndex := 13, descriptorIndex := 14, attributes := #[] }, { accessFlags := 18, nameIndex := 17, descriptorIndex := 18, attributes := #[] }, { accessFlags := 2, nameIndex := 21, descriptorIndex := 22, attributes := #[] }, { accessFlags := 2, nameIndex := 25, descriptorIndex := 26, attributes := #[] }, { accessFlags := 26, nameIndex := 1116, descriptorIndex := 1117, attributes := #[] }, { accessFlags := 24, nameIndex := 40, descriptorIndex := 26, attributes := #[] }, { accessFlags := 26, nameIndex := 1101, descriptorIndex := 1102, attributes := #[] }, { accessFlags := 26, nameIndex := 1121, descriptorIndex := 1122, attributes := #[] }, { accessFlags := 25, nameIndex := 599, descriptorIndex := 600, attributes := #[] }, { accessFlags := 24, nameIndex := 1125, descriptorIndex := 18, attributes := #[] }, { accessFlags := 24, nameIndex := 1127, descriptorIndex := 18, attributes := #[] }])
  fields := #[{ name := "value", type := (.array .byte), accessFlags := 18, slot := 0, constantValue := 0 }, { name := "coder", type := .byte, accessFlags := 18, slot := 1, constantValue := 0 }, { name := "hash", type := .int, accessFlags := 2, slot := 2, constantValue := 0 }, { name := "hashIsZero", type := .boolean, accessFlags := 2, slot := 3, constantValue := 0 }, { name := "serialVersionUID", type := .long, accessFlags := 26, slot := 0, constantValue := 0 }, { name := "COMPACT_STRINGS", type := .boolean, accessFlags := 24, slot := 1, constantValue := 0 }, { name := "serialPersistentFields", type := (.array (.object "java/io/ObjectStreamField")), accessFlags := 26, slot := 2, constantValue := 0 }, { name := "REPL", type := .char, accessFlags := 26, slot := 3, constantValue := 0 }, { name := "CASE_INSENSITIVE_ORDER", type := (.object "java/util/Comparator"), accessFlags := 25, slot := 4, constantValue := 0 }, { name := "LATIN1", type := .byte, accessFlags := 24, slot := 5, constantValue := 0 }, { name := "UTF16", type := .byte, accessFlags := 24, slot := 6, constantValue := 0 }]
  methods := #[k12m0, k12m1]
  instanceTypes := #[(.array .byte), .byte, .int, .boolean]
  staticTypes := #[.long, .boolean, (.array (.object "java/io/ObjectStreamField")), .char, (.object "java/util/Comparator"), .byte, .byte]
  resolved := Array.replicate 1451 none
  statics := some 2 }

def pool13 : Array CpInfo := pool [(4, .class_ 6), (1, u "java/lang/Object"), (0, u "<init>"), (0, u "()V"), (5, .class_ 16), (1, u "java/lang/StringLatin1"), (104, u "$assertionsDisabled"), (0, u "Z"), (98, .class_ 223), (1, u "java/lang/StringLatin1$LinesSpliterator"), (57, u "equals"), (0, u "([B[B)Z"), (107, .class_ 391), (0, u "java/lang/StringLatin1$CharsSpliterator")] 3

def k13m0 : Method := { name := "<init>", desc := "()V", sig := { parameters := [], returnType := none }, accessFlags := 0, code := none }
def k13c1 : Code := { maxStack := 3, maxLocals := 3, code := jdk_43_method_13_code, exceptionTable := #[], attributes := #[] }
def k13m1 : Method := { name := "equals", desc := "([B[B)Z", sig := { parameters := [(.array .byte), (.array .byte)], returnType := some .boolean }, accessFlags := 9, code := some k13c1 }
/-- java/lang/StringLatin1 -/
def k13 : Class := { plain "java/lang/StringLatin1" (some 0) with
  accessFlags := 48
  interfaces := #[]
  cf := some (fileOf pool13 14 #[.nestMembers #[390, 221]] #[{ accessFlags := 0, nameIndex := 7, descriptorIndex := 8, attributes := #[] }, { accessFlags := 9, nameIndex := 281, descriptorIndex := 282, attributes := #[] }] 48 4 #[] #[{ accessFlags := 4120, nameIndex := 121, descriptorIndex := 122, attributes := #[] }])
  fields := #[{ name := "$assertionsDisabled", type := .boolean, accessFlags := 4120, slot := 0, constantValue := 0 }]
  methods := #[k13m0, k13m1]
  instanceTypes := #[]
  staticTypes := #[.boolean]
  resolved := Array.replicate 395 none
  statics := none }

def pool14 : Array CpInfo := pool [(2, .class_ 4), (1, u "java/lang/Object"), (0, u "<init>"), (0, u "()V"), (17, .class_ 26), (1, u "jdk/internal/util/Preconditions"), (28, .class_ 56), (0, u "jdk/internal/util/Preconditions$4"), (57, .class_ 115), (0, u "jdk/internal/util/Preconditions$1"), (7, u "SIOOBE_FORMATTER"), (0, u "Ljava/util/function/BiFunction;"), (0, .class_ 126), (0, u "jdk/internal/util/Preconditions$2"), (3, u "AIOOBE_FORMATTER"), (0, .class_ 132), (0, u "jdk/internal/util/Preconditions$3"), (3, u "IOOBE_FORMATTER")] 57

def k14m0 : Method := { name := "<init>", desc := "()V", sig := { parameters := [], returnType := none }, accessFlags := 1, code := none }
/-- jdk/internal/util/Preconditions -/
def k14 : Class := { plain "jdk/internal/util/Preconditions" (some 0) with
  accessFlags := 33
  interfaces := #[]
  cf := some (fileOf pool14 24 #[.nestMembers #[55, 131, 125, 114]] #[{ accessFlags := 1, nameIndex := 5, descriptorIndex := 6, attributes := #[] }] 33 2 #[] #[{ accessFlags := 25, nameIndex := 123, descriptorIndex := 124, attributes := #[] }, { accessFlags := 25, nameIndex := 130, descriptorIndex := 124, attributes := #[] }, { accessFlags := 25, nameIndex := 136, descriptorIndex := 124, attributes := #[] }])
  fields := #[{ name := "SIOOBE_FORMATTER", type := (.object "java/util/function/BiFunction"), accessFlags := 25, slot := 0, constantValue := 0 }, { name := "AIOOBE_FORMATTER", type := (.object "java/util/function/BiFunction"), accessFlags := 25, slot := 1, constantValue := 0 }, { name := "IOOBE_FORMATTER", type := (.object "java/util/function/BiFunction"), accessFlags := 25, slot := 2, constantValue := 0 }]
  methods := #[k14m0]
  instanceTypes := #[]
  staticTypes := #[(.object "java/util/function/BiFunction"), (.object "java/util/function/BiFunction"), (.object "java/util/function/BiFunction")]
  resolved := Array.replicate 194 none
  statics := some 3 }

def pool15 : Array CpInfo := pool [(9, u "<init>"), (6, .class_ 18), (1, u "java/lang/Object"), (0, u "()V"), (1, .class_ 23), (1, u "jdk/internal/util/ArraysSupport"), (0, u "LOG2_ARRAY_LONG_INDEX_SCALE"), (0, u "I"), (2, u "U"), (0, u "Ljdk/internal/misc/Unsafe;"), (8, u "BIG_ENDIAN"), (0, u "Z"), (8, u "LOG2_BYTE_BIT_SIZE"), (4, u "LOG2_ARRAY_INT_INDEX_SCALE"), (54, u "JLA"), (0, u "Ljdk/internal/access/JavaLangAccess;"), (11, u "LOG2_ARRAY_BOOLEAN_INDEX_SCALE"), (9, u "LOG2_ARRAY_BYTE_INDEX_SCALE"), (5, u "LOG2_ARRAY_CHAR_INDEX_SCALE"), (5, u "LOG2_ARRAY_SHORT_INDEX_SCALE"), (18, u "LOG2_ARRAY_FLOAT_INDEX_SCALE"), (24, u "LOG2_ARRAY_DOUBLE_INDEX_SCALE"), (89, u "T_BOOLEAN"), (2, u "T_CHAR"), (1, u "T_FLOAT"), (1, u "T_DOUBLE"), (1, u "T_BYTE"), (1, u "T_SHORT"), (1, u "T_INT"), (1, u "T_LONG"), (1, u "SOFT_MAX_ARRAY_LENGTH")] 83

def k15m0 : Method := { name := "<init>", desc := "()V", sig := { parameters := [], returnType := none }, accessFlags := 2, code := none }
/-- jdk/internal/util/ArraysSupport -/
def k15 : Class := { plain "jdk/internal/util/ArraysSupport" (some 0) with
  accessFlags := 33
  interfaces := #[]
  cf := some (fileOf pool15 21 #[] #[{ accessFlags := 2, nameIndex := 9, descriptorIndex := 19, attributes := #[] }] 33 16 #[] #[{ accessFlags := 24, nameIndex := 28, descriptorIndex := 29, attributes := #[] }, { accessFlags := 26, nameIndex := 38, descriptorIndex := 39, attributes := #[] }, { accessFlags := 25, nameIndex := 121, descriptorIndex := 25, attributes := #[] }, { accessFlags := 25, nameIndex := 131, descriptorIndex := 25, attributes := #[] }, { accessFlags := 25, nameIndex := 137, descriptorIndex := 25, attributes := #[] }, { accessFlags := 25, nameIndex := 143, descriptorIndex := 25, attributes := #[] }, { accessFlags := 25, nameIndex := 53, descriptorIndex := 25, attributes := #[] }, { accessFlags := 25, nameIndex := 24, descriptorIndex := 25, attributes := #[] }, { accessFlags := 25, nameIndex := 162, descriptorIndex := 25, attributes := #[] }, { accessFlags := 25, nameIndex := 187, descriptorIndex := 25, attributes := #[] }, { accessFlags := 26, nameIndex := 48, descriptorIndex := 25, attributes := #[] }, { accessFlags := 25, nameIndex := 277, descriptorIndex := 25, attributes := #[] }, { accessFlags := 25, nameIndex := 280, descriptorIndex := 25, attributes := #[] }, { accessFlags := 25, nameIndex := 282, descriptorIndex := 25, attributes := #[] }, { accessFlags := 25, nameIndex := 284, descriptorIndex := 25, attributes := #[] }, { accessFlags := 25, nameIndex := 286, descriptorIndex := 25, attributes := #[] }, { accessFlags := 25, nameIndex := 288, descriptorIndex := 25, attributes := #[] }, { accessFlags := 25, nameIndex := 290, descriptorIndex := 25, attributes := #[] }, { accessFlags := 25, nameIndex := 292, descriptorIndex := 25, attributes := #[] }, { accessFlags := 26, nameIndex := 108, descriptorIndex := 109, attributes := #[] }, { accessFlags := 25, nameIndex := 294, descriptorIndex := 25, attributes := #[] }])
  fields := #[{ name := "U", type := (.object "jdk/internal/misc/Unsafe"), accessFlags := 24, slot := 0, constantValue := 0 }, { name := "BIG_ENDIAN", type := .boolean, accessFlags := 26, slot := 1, constantValue := 0 }, { name := "LOG2_ARRAY_BOOLEAN_INDEX_SCALE", type := .int, accessFlags := 25, slot := 2, constantValue := 0 }, { name := "LOG2_ARRAY_BYTE_INDEX_SCALE", type := .int, accessFlags := 25, slot := 3, constantValue := 0 }, { name := "LOG2_ARRAY_CHAR_INDEX_SCALE", type := .int, accessFlags := 25, slot := 4, constantValue := 0 }, { name := "LOG2_ARRAY_SHORT_INDEX_SCALE", type := .int, accessFlags := 25, slot := 5, constantValue := 0 }, { name := "LOG2_ARRAY_INT_INDEX_SCALE", type := .int, accessFlags := 25, slot := 6, constantValue := 0 }, { name := "LOG2_ARRAY_LONG_INDEX_SCALE", type := .int, accessFlags := 25, slot := 7, constantValue := 0 }, { name := "LOG2_ARRAY_FLOAT_INDEX_SCALE", type := .int, accessFlags := 25, slot := 8, constantValue := 0 }, { name := "LOG2_ARRAY_DOUBLE_INDEX_SCALE", type := .int, accessFlags := 25, slot := 9, constantValue := 0 }, { name := "LOG2_BYTE_BIT_SIZE", type := .int, accessFlags := 26, slot := 10, constantValue := 0 }, { name := "T_BOOLEAN", type := .int, accessFlags := 25, slot := 11, constantValue := 0 }, { name := "T_CHAR", type := .int, accessFlags := 25, slot := 12, constantValue := 0 }, { name := "T_FLOAT", type := .int, accessFlags := 25, slot := 13, constantValue := 0 }, { name := "T_DOUBLE", type := .int, accessFlags := 25, slot := 14, constantValue := 0 }, { name := "T_BYTE", type := .int, accessFlags := 25, slot := 15, constantValue := 0 }, { name := "T_SHORT", type := .int, accessFlags := 25, slot := 16, constantValue := 0 }, { name := "T_INT", type := .int, accessFlags := 25, slot := 17, constantValue := 0 }, { name := "T_LONG", type := .int, accessFlags := 25, slot := 18, constantValue := 0 }, { name := "JLA", type := (.object "jdk/internal/access/JavaLangAccess"), accessFlags := 26, slot := 19, constantValue := 0 }, { name := "SOFT_MAX_ARRAY_LENGTH", type := .int, accessFlags := 25, slot := 20, constantValue := 0 }]
  methods := #[k15m0]
  instanceTypes := #[]
  staticTypes := #[(.object "jdk/internal/misc/Unsafe"), .boolean, .int, .int, .int, .int, .int, .int, .int, .int, .int, .int, .int, .int, .int, .int, .int, .int, .int, (.object "jdk/internal/access/JavaLangAccess"), .int]
  resolved := Array.replicate 378 none
  statics := none }

def pool16 : Array CpInfo := pool [(1, u "java/lang/Cloneable"), (0, .class_ 1), (0, u "java/lang/Object"), (0, .class_ 3)] 3

/-- java/lang/Cloneable -/
def k16 : Class := { plain "java/lang/Cloneable" (some 0) with
  accessFlags := 1537
  interfaces := #[]
  cf := some (fileOf pool16 2 #[] #[] 1537 4 #[] #[])
  fields := #[]
  methods := #[]
  instanceTypes := #[]
  staticTypes := #[]
  resolved := Array.replicate 8 none
  statics := none }

/-- the primitive byte -/
def k17 : Class := { plain "byte" none with kind := .primitive 'B', accessFlags := 0x411 }
/-- [B -/
def k18 : Class := { plain "[B" (some 0) with kind := .array 17 .byte, interfaces := #[16, 7], accessFlags := 1041 }

/-- the primitive int -/
def k19 : Class := { plain "int" none with kind := .primitive 'I', accessFlags := 0x411 }
/-- [I -/
def k20 : Class := { plain "[I" (some 0) with kind := .array 19 .int, interfaces := #[16, 7], accessFlags := 1041 }

def heap : Heap := #[{ cls := 4, slots := #[.ref 9, .ref 10], vm := .statics 4 },
  { cls := 9, slots := #[.null, .ref 4, .null, .null, .null, .null, .null, .null, .null, .null, .null, .null, .null, .null, .null, .null, .int 0, .null, .null, .null, .null, .null, .null, .null, .null, .null, .null, .null, .null, .null, .null, .null], vm := .statics 9 },
  { cls := 12, slots := #[.long 0, .int 1, .null, .int 0, .null, .int 0, .int 0], vm := .statics 12 },
  { cls := 14, slots := #[.null, .null, .null], vm := .statics 14 },
  { cls := 9, slots := #[.null, .int 1, .int 0, .null, .null, .null, .null], vm := .none },
  { cls := 18, slots := #[.int 116, .int 114, .int 117, .int 101], vm := .none },
  { cls := 12, slots := #[.ref 5, .int 0, .int 0, .int 0], vm := .none },
  { cls := 18, slots := #[.int 102, .int 97, .int 108, .int 115, .int 101], vm := .none },
  { cls := 12, slots := #[.ref 7, .int 0, .int 0, .int 0], vm := .none },
  { cls := 4, slots := #[.ref 4, .null, .ref 6], vm := .none },
  { cls := 4, slots := #[.ref 4, .null, .ref 8], vm := .none }]
def classes : Array Class := #[k0, k1, k2, k3, k4, k5, k6, k7, k8, k9, k10, k11, k12, k13, k14, k15, k16, k17, k18, k19, k20]
def interned : List (Array UInt16 × Addr) := []
def slotsUsed : Nat := 74
def theMethod : MethodId := ⟨1, 1⟩
def args0 : Array Value := #[.int 1]
def aboutOver (below : List Frame) : State where
  vm := { classes := classes, interned := interned.toArray }
  heap := heap
  slotsUsed := slotsUsed
  threads := #[{ frames := .invoking theMethod args0 :: below }]
def below0 : List Frame := [.native { method := ⟨0, 0⟩, args := #[] }]
def about1 : State := aboutOver below0
def p0 : Program := .bare "" "" ""
def e0 : Env := launch0.env 0 0 0
theorem w_frames : about1.frames = Frame.invoking theMethod args0 :: below0 := rfl
set_option maxRecDepth 65536 in
theorem w_args : argsFit about1.vm theMethod args0 = true := by decide +kernel
set_option maxRecDepth 65536 in
theorem w_heap : heapFits about1 = true := by decide +kernel
set_option maxRecDepth 65536 in
theorem w_runnable : about1.curStatus? = some .runnable := by decide +kernel
set_option maxRecDepth 65536 in
theorem w_alone : about1.alone = true := by decide +kernel
set_option maxRecDepth 65536 in
theorem w_named : about1.methodNamed? x = some theMethod := by decide +kernel
set_option maxRecDepth 65536 in
theorem w_hears : about1.hears theMethod below0 = true := by decide +kernel
set_option maxRecDepth 65536 in
theorem w_ripe : about1.ripe theMethod args0 below0 = true := by decide +kernel
theorem w_running : about1.status = .running := rfl
set_option maxRecDepth 65536 in
theorem w_room : about1.hasRoom e0.platform room_1 = true :=
  launch0.hasRoom_least _ room_1 (by decide +kernel) (by decide +kernel) (by decide +kernel) (by decide +kernel) (by decide +kernel) (by decide +kernel)
theorem allAtoms_all (ts : List Jvm.Cond) (a : Array Jvm.Value) (st : Jvm.State) : (allAtoms ts).before a st = ts.all (fun c => c.before a st) := by
  induction ts with
  | nil => rfl
  | cons c t ih =>
    show (Jvm.Cond.and c (allAtoms t)).before a st = _
    rw [Jvm.Cond.before_and, ih, List.all_cons]
def words1 : List Jvm.Cond := Jvm.Cond.code x code maxLocals ret :: tables_1
/-- a 'code' word, met by the world's own term for the bytes: nothing is compared byte by byte -/
theorem code_word {y : MethodName} {bytes : ByteArray} {mx : Nat} {rt : Option FieldType} {a : Array Value} {s : State} {m : MethodId} {meth : Method} {c : Code} (h1 : s.methodNamed? y = some m) (h2 : s.vm.method? m = some meth) (h3 : meth.code = some c) (h4 : c.code = bytes)
    (h5 : (c.maxLocals == mx && c.exceptionTable.isEmpty && decide (c.maxStack ≤ mostOperands) && decide (meth.sig.returnType = rt) && !meth.locks && decide (parseMethodDescriptor y.desc = some meth.sig)) = true) : (Jvm.Cond.code y bytes mx rt).before a s = true := by
  simp only [Bool.and_eq_true, beq_iff_eq, Bool.not_eq_true', decide_eq_true_eq] at h5
  obtain ⟨⟨⟨⟨⟨g1, g2⟩, g3⟩, g4⟩, g5⟩, g6⟩ := h5
  simp [Cond.before, Cond.holds, Cond.value, h1, h2, h3, h4, g1, g2, g3, g4, g5, g6]
def isCode : Jvm.Cond → Bool
  | .code _ _ _ _ => true
  | _ => false
theorem all_split {L : List Jvm.Cond} {P : Jvm.Cond → Bool} (h1 : L.all (fun c => isCode c || P c) = true) (h2 : ∀ c ∈ L.filter isCode, P c = true) : L.all P = true := by
  refine List.all_eq_true.mpr fun c hc => ?_
  have h := List.all_eq_true.mp h1 c hc
  rcases Bool.eq_false_or_eq_true (isCode c) with hi | hi
  · exact h2 c (List.mem_filter.mpr ⟨hc, hi⟩)
  · simpa [hi] using h
set_option maxRecDepth 65536 in
theorem w_c0 : (Jvm.Cond.code x code maxLocals ret).before args0 about1 = true := code_word (m := ⟨1, 1⟩) (meth := k1m1) (c := k1c1) (by decide +kernel) rfl rfl rfl (by decide +kernel)
set_option maxRecDepth 65536 in
theorem w_c1 : (Jvm.Cond.code ({ cls := "com/example/abacus/abacus/model/AttributeValue", name := "of", desc := "(Z)Lcom/example/abacus/abacus/model/AttributeValue;" } : Jvm.MethodName) prog_87_method_3_code (1 : Nat) (Option.some (Jvm.ClassFile.FieldType.object "com/example/abacus/abacus/model/AttributeValue"))).before args0 about1 = true := code_word (m := ⟨4, 0⟩) (meth := k4m0) (c := k4c0) (by decide +kernel) rfl rfl rfl (by decide +kernel)
set_option maxRecDepth 65536 in
theorem w_c2 : (Jvm.Cond.code ({ cls := "com/example/abacus/abacus/model/AttributeValue", name := "dataType", desc := "()Lcom/example/abacus/abacus/model/DataType;" } : Jvm.MethodName) prog_87_method_4_code (1 : Nat) (Option.some (Jvm.ClassFile.FieldType.object "com/example/abacus/abacus/model/DataType"))).before args0 about1 = true := code_word (m := ⟨4, 1⟩) (meth := k4m1) (c := k4c1) (by decide +kernel) rfl rfl rfl (by decide +kernel)
set_option maxRecDepth 65536 in
theorem w_c3 : (Jvm.Cond.code ({ cls := "com/example/abacus/abacus/model/AttributeValue", name := "lexical", desc := "()Ljava/lang/String;" } : Jvm.MethodName) prog_87_method_6_code (1 : Nat) (Option.some (Jvm.ClassFile.FieldType.object "java/lang/String"))).before args0 about1 = true := code_word (m := ⟨4, 2⟩) (meth := k4m2) (c := k4c2) (by decide +kernel) rfl rfl rfl (by decide +kernel)
set_option maxRecDepth 65536 in
theorem w_c4 : (Jvm.Cond.code ({ cls := "java/lang/String", name := "equals", desc := "(Ljava/lang/Object;)Z" } : Jvm.MethodName) jdk_42_method_66_code (3 : Nat) (Option.some Jvm.ClassFile.FieldType.boolean)).before args0 about1 = true := code_word (m := ⟨12, 1⟩) (meth := k12m1) (c := k12c1) (by decide +kernel) rfl rfl rfl (by decide +kernel)
set_option maxRecDepth 65536 in
theorem w_c5 : (Jvm.Cond.code ({ cls := "java/lang/StringLatin1", name := "equals", desc := "([B[B)Z" } : Jvm.MethodName) jdk_43_method_13_code (3 : Nat) (Option.some Jvm.ClassFile.FieldType.boolean)).before args0 about1 = true := code_word (m := ⟨13, 1⟩) (meth := k13m1) (c := k13c1) (by decide +kernel) rfl rfl rfl (by decide +kernel)
def codes1 : List Jvm.Cond := [Jvm.Cond.code x code maxLocals ret, Jvm.Cond.code ({ cls := "com/example/abacus/abacus/model/AttributeValue", name := "of", desc := "(Z)Lcom/example/abacus/abacus/model/AttributeValue;" } : Jvm.MethodName) prog_87_method_3_code (1 : Nat) (Option.some (Jvm.ClassFile.FieldType.object "com/example/abacus/abacus/model/AttributeValue")), Jvm.Cond.code ({ cls := "com/example/abacus/abacus/model/AttributeValue", name := "dataType", desc := "()Lcom/example/abacus/abacus/model/DataType;" } : Jvm.MethodName) prog_87_method_4_code (1 : Nat) (Option.some (Jvm.ClassFile.FieldType.object "com/example/abacus/abacus/model/DataType")), Jvm.Cond.code ({ cls := "com/example/abacus/abacus/model/AttributeValue", name := "lexical", desc := "()Ljava/lang/String;" } : Jvm.MethodName) prog_87_method_6_code (1 : Nat) (Option.some (Jvm.ClassFile.FieldType.object "java/lang/String")), Jvm.Cond.code ({ cls := "java/lang/String", name := "equals", desc := "(Ljava/lang/Object;)Z" } : Jvm.MethodName) jdk_42_method_66_code (3 : Nat) (Option.some Jvm.ClassFile.FieldType.boolean), Jvm.Cond.code ({ cls := "java/lang/StringLatin1", name := "equals", desc := "([B[B)Z" } : Jvm.MethodName) jdk_43_method_13_code (3 : Nat) (Option.some Jvm.ClassFile.FieldType.boolean)]
set_option maxRecDepth 65536 in
theorem codes_eq : words1.filter isCode = codes1 := rfl
theorem w_codes : ∀ c ∈ words1.filter isCode, c.before args0 about1 = true := by
  rw [codes_eq]
  intro c hc
  simp only [codes1, List.mem_cons, List.not_mem_nil, or_false] at hc
  rcases hc with rfl | rfl | rfl | rfl | rfl | rfl
  · exact w_c0
  · exact w_c1
  · exact w_c2
  · exact w_c3
  · exact w_c4
  · exact w_c5
set_option maxRecDepth 65536 in
theorem w_t1 : (words1.take 24).all (fun c => isCode c || c.before args0 about1) = true := by decide +kernel
set_option maxRecDepth 65536 in
theorem w_t2 : ((words1.drop 24).take 24).all (fun c => isCode c || c.before args0 about1) = true := by decide +kernel
set_option maxRecDepth 65536 in
theorem w_t3 : ((words1.drop 24).drop 24).all (fun c => isCode c || c.before args0 about1) = true := by decide +kernel
theorem w_tables : (allAtoms (Jvm.Cond.code x code maxLocals ret :: tables_1)).before args0 about1 = true := by
  rw [allAtoms_all]
  show words1.all (fun c => c.before args0 about1) = true
  refine all_split ?_ w_codes
  rw [← List.take_append_drop 24 words1, List.all_append, w_t1, ← List.take_append_drop 24 (words1.drop 24), List.all_append, w_t2, w_t3]
  rfl
set_option maxRecDepth 65536 in
theorem w_rest : rest_1_c.before args0 about1 = true := by decide +kernel
set_option maxRecDepth 65536 in
theorem w_case : (Jvm.Cond.and given_1 narrow_1).before args0 about1 = true := by decide +kernel
set_option maxRecDepth 65536 in
theorem w_consts : constsHeld consts_1 about1 := Jvm.Lit.constsHeldB_iff.mp (by decide +kernel)
theorem w_applies : (headSpec (Jvm.Cond.code x code maxLocals ret :: tables_1) room_1).applies x e0.platform about1 = true :=
  (Spec.applies_iff w_frames).mpr ⟨w_running, w_runnable, w_alone, w_named, w_hears, w_ripe, w_room, w_tables⟩
theorem atStart : AtStart classFile x code maxLocals ret World_1 tables_1 room_1 Calls_1 rest_1 Pre_1 launch0 p0 e0 about1 theMethod args0 below0 :=
  ⟨lists_1, trivial, launch0.admits_env _ _ _, launch0.least_env, fairChoices_fair.cas, fairChoices_fair.clock, w_frames, w_args, w_heap, w_applies, ⟨w_consts, trivial⟩, w_rest, w_case⟩
end start1
theorem witness_1 : WitnessClaimed_1 := ⟨start1.p0, start1.e0, start1.about1, start1.theMethod, start1.args0, start1.below0, start1.atStart⟩
end Jvm.Pilot.@@N@@
