import JvmDerived
import JvmDerived.Pilot.@@N@@Statement
import JvmDerived.Pilot.@@N@@Code
set_option linter.unusedVariables false
set_option linter.unusedSimpArgs false
namespace Jvm.RoadKit
open Sem ClassFile Op Lib Jvm.Stand Jvm.Free Jvm.LawKit
def GoW (p : Program) (e : Env) (below : List Frame) (s : State) (Q : Option Value → Heap → List Loc → Prop) (k n : Nat) (u : State) : Prop :=
  ∃ s₂ o, Steps p.tables e below u s₂ ∧ s₂.status = .running ∧ Ended s₂ below o ∧ ∃ v L, o = .returned v ∧ Q v s₂.heap L ∧ FrameEnd s o s₂ L k n
def PureQ (r : Value) (h0 : Heap) (n0 : Nat) (v : Option Value) (h : Heap) (L : List Loc) : Prop := v = some r ∧ Fr n0 L ∧ h = h0
def ValQ (r : Value) (n0 : Nat) (v : Option Value) (h : Heap) (L : List Loc) : Prop := v = some r ∧ Fr n0 L
section New
variable {p : Program} {l : Launch} {e : Env} {R : Room} {s : State} {m : MethodId} {args : Array Value} {below : List Frame} {meth : Method} {c : Code} {T : State} {locs : List Loc} {cells slots : Nat} {Q : Option Value → Heap → List Loc → Prop} {k n : Nat} {u v : State}
theorem GoW.mk (h : GoW p e below s Q k n u) : ∃ s₂ o, Steps p.tables e below u s₂ ∧ s₂.status = .running ∧ Ended s₂ below o ∧ ∃ v L, o = .returned v ∧ Q v s₂.heap L ∧ FrameEnd s o s₂ L k n := h
theorem GoW.st (h : ∀ t, Steps p.tables e below u t → Steps p.tables e below v t) (q : GoW p e below s Q k n u) : GoW p e below s Q k n v := by
  obtain ⟨s₂, o, h1, h2⟩ := q; exact ⟨s₂, o, h _ h1, h2⟩
theorem GoW.sg {T' : State} (g' : JFrame) (h : ∀ t, Steps p.tables e below (T'.setTop g') t → Steps p.tables e below v t) (q : GoW p e below s Q k n (T'.setTop g')) : GoW p e below s Q k n v := GoW.st h q
theorem retI (X : Stand p l e R s m args below meth c T locs cells slots) (hx : p.tables.exec = Jvm.exec) {pc : Nat} {Ls : Array Slot} {z : Int32} {rest : List Value} (hret : meth.sig.returnType = some .int) (hd : decode c.code pc = .ok (.ireturn, 1)) {fs : List Frame}
    (hl : ∀ (f : JFrame) (acts : List Action), f.method = m → f.locked = none → f.entered = [] → (doReturn e (T.setTop f) acts (some (.int z))).1 = T.setFrames fs) : Steps p.tables e below (T.setTop (mkF m pc Ls (.int z :: rest))) (T.setFrames fs) := by
  have hm' : T.vm.method? m = some meth := X.method'
  have hn : narrow .int (.int z) = .int z := rfl
  show Steps p.tables e below (T.setTop { method := m, pc := pc, locals := Ls, stack := _ :: rest, locked := none }) _
  jvm_step X.here [X.here.top, hx, hd, hm', hret, hn]
  first | (intro acts; rw [hl _ acts rfl rfl rfl]) | rw [hl _ _ rfl rfl rfl]
  exact Steps.refl _
theorem GoW.retN (X : Stand p l e R s m args below meth c T locs cells slots) (hx : p.tables.exec = Jvm.exec) {pc : Nat} {Ls : Array Slot} {z : Int32} {t : FieldType} {rest : List Value} (hret : meth.sig.returnType = some t) (ht : t = .boolean ∨ t = .byte ∨ t = .char ∨ t = .short)
    (hd : decode c.code pc = .ok (.ireturn, 1)) (hlk : meth.locks = false) (hq : Q (some (.int (nar t z))) T.heap locs) (hk : cells ≤ k) (hn : slots ≤ n) : GoW p e below s Q k n (T.setTop (mkF m pc Ls (.int z :: rest))) := by
  obtain ⟨fs, hr, hrun, hended, hW, hsame⟩ := X.leave (v := some (.int (nar t z))) (fun h => by rw [hret] at h; cases h) hlk
  exact ⟨_, _, Jvm.RoadKit.retN X hx hret ht hd hr, hrun, hended, _, _, rfl, hq, ⟨_, rfl⟩, hW, hsame.mono hk hn⟩
theorem GoW.retI (X : Stand p l e R s m args below meth c T locs cells slots) (hx : p.tables.exec = Jvm.exec) {pc : Nat} {Ls : Array Slot} {z : Int32} {rest : List Value} (hret : meth.sig.returnType = some .int)
    (hd : decode c.code pc = .ok (.ireturn, 1)) (hlk : meth.locks = false) (hq : Q (some (.int z)) T.heap locs) (hk : cells ≤ k) (hn : slots ≤ n) : GoW p e below s Q k n (T.setTop (mkF m pc Ls (.int z :: rest))) := by
  obtain ⟨fs, hr, hrun, hended, hW, hsame⟩ := X.leave (v := some (.int z)) (fun h => by rw [hret] at h; cases h) hlk
  exact ⟨_, _, Jvm.RoadKit.retI X hx hret hd hr, hrun, hended, _, _, rfl, hq, ⟨_, rfl⟩, hW, hsame.mono hk hn⟩
theorem GoW.retL (X : Stand p l e R s m args below meth c T locs cells slots) (hx : p.tables.exec = Jvm.exec) {pc : Nat} {Ls : Array Slot} {z : Int64} {rest : List Value} (hret : meth.sig.returnType = some .long)
    (hd : decode c.code pc = .ok (.lreturn, 1)) (hlk : meth.locks = false) (hq : Q (some (.long z)) T.heap locs) (hk : cells ≤ k) (hn : slots ≤ n) : GoW p e below s Q k n (T.setTop (mkF m pc Ls (.long z :: rest))) := by
  obtain ⟨fs, hr, hrun, hended, hW, hsame⟩ := X.leave (v := some (.long z)) (fun h => by rw [hret] at h; cases h) hlk
  exact ⟨_, _, retOut X hx hret rfl (Or.inr (Or.inl ⟨rfl, rfl, z, rfl⟩)) hd hr, hrun, hended, _, _, rfl, hq, ⟨_, rfl⟩, hW, hsame.mono hk hn⟩
theorem GoW.retA (X : Stand p l e R s m args below meth c T locs cells slots) (hx : p.tables.exec = Jvm.exec) {pc : Nat} {Ls : Array Slot} {w : Value} {t : FieldType} {rest : List Value} (hret : meth.sig.returnType = some t) (hw : w.isRef = true) (ht : t.isReference = true)
    (hn' : narrow t w = w) (hd : decode c.code pc = .ok (.areturn, 1)) (hlk : meth.locks = false) (hq : Q (some w) T.heap locs) (hk : cells ≤ k) (hn : slots ≤ n) : GoW p e below s Q k n (T.setTop (mkF m pc Ls (w :: rest))) := by
  obtain ⟨fs, hr, hrun, hended, hW, hsame⟩ := X.leave (v := some w) (fun h => by rw [hret] at h; cases h) hlk
  exact ⟨_, _, retOut X hx hret hn' (Or.inr (Or.inr (Or.inr (Or.inr ⟨rfl, ht, hw⟩)))) hd hr, hrun, hended, _, _, rfl, hq, ⟨_, rfl⟩, hW, hsame.mono hk hn⟩
theorem GoW.retV (X : Stand p l e R s m args below meth c T locs cells slots) (hx : p.tables.exec = Jvm.exec) {pc : Nat} {Ls : Array Slot} (hret : meth.sig.returnType = none)
    (hd : decode c.code pc = .ok (.return_, 1)) (hlk : meth.locks = false) (hq : Q none T.heap locs) (hk : cells ≤ k) (hn : slots ≤ n) : GoW p e below s Q k n (T.setTop (mkF m pc Ls [])) := by
  obtain ⟨fs, hr, hrun, hended, hW, hsame⟩ := X.leave (v := none) (fun _ => rfl) hlk
  exact ⟨_, _, X.returnOut hx hret hd hr, hrun, hended, _, _, rfl, hq, ⟨_, rfl⟩, hW, hsame.mono hk hn⟩
theorem hq_ {T : State} {h : Heap} {a : Addr} {c : Cell} (e : T.heap = h) (q : h[a]? = some c) : T.heap[a]? = some c := by rw [e]; exact q
theorem own_b53 (x : Int32) : B53 x.toInt64 := by
  have h := rng32 x
  unfold B53; rw [Int32.toInt_toInt64]; omega
theorem own_eqI {args : Array Value} {first s : State} {o : Option Outcome} {idx : List Nat} {t : Term} {i : Int32} (h : (Jvm.Cond.eq t (.int i)).value args first o s idx = some true) : t.eval args first o idx s = some (.int i) := by
  obtain ⟨x, y, hx, hy, k1, k2⟩ := cmp_v (Or.inl h)
  rw [Term.int_eval] at hy
  cases hy
  obtain ⟨z, rfl⟩ := k2
  have q := gotT (Cond.eq_ints hx (Term.int_eval i)) h
  rw [hx, q]
theorem own_ne {args : Array Value} {first s : State} {o : Option Outcome} {idx : List Nat} {t u : Term} {C n d : String} {i j : Int32} {a b : Addr} (h1 : (Jvm.Cond.eq (.field t C n d) (.int i)).value args first o s idx = some true) (h2 : (Jvm.Cond.eq (.field u C n d) (.int j)).value args first o s idx = some true)
    (ha : t.eval args first o idx s = some (.ref a)) (hb : u.eval args first o idx s = some (.ref b)) (hij : i ≠ j) : a ≠ b := fun e => by
  subst e
  have q1 := own_eqI h1
  have q2 := own_eqI h2
  rw [fld_at ha] at q1
  rw [fld_at hb, q1] at q2
  exact hij (by cases q2; rfl)
theorem own_staK0 {Z : State} {h h' : Heap} {C n d : String} {v : Value} (F : Sta Z h C n d v) (K : Keep h h' []) : Sta Z h' C n d v := by
  obtain ⟨cf, i, k, f, st, cell, h1, h2, h3, h4, h5, r⟩ := F; exact ⟨cf, i, k, f, st, cell, h1, h2, h3, h4, K.2.1 _ _ h5 nin0, r⟩
def NSt (h : Heap) (a : Addr) : Prop := ∀ c : Cell, h[a]? = some c → c.vm.isStatics = false
theorem own_nsE {Z : State} {h : Heap} {a : Addr} {C : String} (E : Exa Z h a C) : NSt h a := fun c hc => by
  obtain ⟨cell2, k2, g1, -, -, g2, -⟩ := E
  cases hc.symm.trans g1
  exact g2
theorem own_nsA {Z : State} {h : Heap} {a : Addr} {k : ClassId} {ty : FieldType} {z : Int32} {vs : List Value} {dv : Value} (A : Arv Z h a k ty z vs dv) : NSt h a := fun c hc => by
  obtain ⟨cl, A, -⟩ := A
  cases hc.symm.trans A.1
  exact A.plain
theorem own_staK {Z : State} {h h' : Heap} {C n d : String} {v : Value} {ws : List Addr} (F : Sta Z h C n d v) (K : Keep h h' ws) (E : ∀ x ∈ ws, NSt h x) : Sta Z h' C n d v := by
  obtain ⟨cf, i, k, f, st, cell, h1, h2, h3, h4, h5, h6, r⟩ := F
  refine ⟨cf, i, k, f, st, cell, h1, h2, h3, h4, K.2.1 _ _ h5 (fun q => ?_), h6, r⟩
  have := E st q cell h5
  rw [h6] at this; cases this
theorem GoW.retD (X : Stand p l e R s m args below meth c T locs cells slots) (hx : p.tables.exec = Jvm.exec) {pc : Nat} {Ls : Array Slot} {z : UInt64} {rest : List Value} (hret : meth.sig.returnType = some .double)
    (hd : decode c.code pc = .ok (.dreturn, 1)) (hlk : meth.locks = false) (hq : Q (some (.double z)) T.heap locs) (hk : cells ≤ k) (hn : slots ≤ n) : GoW p e below s Q k n (T.setTop (mkF m pc Ls (.double z :: rest))) := by
  obtain ⟨fs, hr, hrun, hended, hW, hsame⟩ := X.leave (v := some (.double z)) (fun h => by rw [hret] at h; cases h) hlk
  exact ⟨_, _, retOut X hx hret rfl (Or.inr (Or.inr (Or.inl ⟨rfl, rfl, z, rfl⟩))) hd hr, hrun, hended, _, _, rfl, hq, ⟨_, rfl⟩, hW, hsame.mono hk hn⟩
theorem own_pop2L {tb : Tables} [Ours tb] {e : Env} {below : List Frame} {T target : State} {m : MethodId} {c : Code} {g : JFrame} (h : At T m c below) (hx : tb.exec = Jvm.exec) (hg : g.method = m) {x : Int64} {rest : List Value} (hd : decode c.code g.pc = .ok (.pop2, 1)) (hs : g.stack = .long x :: rest)
    (hr : Steps tb e below (T.setTop { g with pc := g.pc + 1, stack := rest }) target) : Steps tb e below (T.setTop g) target := by
  subst hg
  jvm_step h [h.top, hx, hd, hs, Value.category]
  exact hr
theorem own_callS {Z : State} {a0 : Array Value} {h : Heap} (X : Stand p l e R s m args below meth c T locs cells slots) (hx : p.tables.exec = Jvm.exec) (hZ : Z.Warmed39 s.vm) {own : String} {index : Nat} {y : MethodName} {bytes : ByteArray} {maxL : Nat} {ret : Option FieldType}
    (hown : s.vm.findClass own = some m.cls) (w1 : (Jvm.Cond.methodLink own index y).before a0 Z = true) (w2 : (Jvm.Cond.static y).before a0 Z = true) (w3 : (Jvm.Cond.initialized y.cls).before a0 Z = true) (w4 : (Jvm.Cond.code y bytes maxL ret).before a0 Z = true)
    (hy : y.cls ≠ "java/lang/invoke/MethodHandle" ∧ y.cls ≠ "java/lang/invoke/VarHandle") (W : Nat) {rm : Room} {argsL rest : List Value} {Q : Option Value → Heap → List Loc → Prop}
    (hM : MetFree l y (head1 [Jvm.Cond.code y bytes maxL ret] rm) (fun a U => a = argsL.toArray ∧ Z.Warmed39 U.vm ∧ U.heap = h) (fun _ _ _ _ _ => True) (fun _ U o U' => ∃ v L, o = .returned v ∧ Q v U'.heap L ∧ FrameEnd U o U' L rm.cells rm.slots))
    (hf : rm.frames + 1 ≤ R.frames) (hl : W + (maxL + 11) + rm.locals ≤ R.locals) (eT : T.heap = h) (hc : cells + rm.cells ≤ R.cells) (hs : slots + rm.slots ≤ R.slots)
    {g : JFrame} (hg : g.method = m) (hsize : g.locals.size = c.maxLocals) (hlen : ∀ sig, parseMethodDescriptor y.desc = some sig → argsL.length = sig.parameters.length)
    (hstack : g.stack = argsL.reverse ++ rest) (hW : 2 * g.monitorRoom + (rest.map fun v => v.category).sum ≤ W) (hdg : decode c.code g.pc = .ok (.invokestatic index, 3)) :
    ∃ (v : Option Value) (T' : State) (L : List Loc), Stand p l e R s m args below meth c T' (locs ++ L) (cells + rm.cells) (slots + rm.slots) ∧ Q v T'.heap L ∧
      ∀ target, Steps p.tables e below (T'.setTop { g with pc := g.pc + 3, stack := v.toList ++ rest }) target → Steps p.tables e below (T.setTop g) target := by
  obtain ⟨v, _, ⟨T', L', k', n'⟩, -, X', ⟨Lc, hQ, l', y', z'⟩, st⟩ := Jvm.LawKit.callS X hx (y := y) hown (mvT hZ w1) (mvT hZ w2) (mvT hZ w3) (mvT hZ w4) hy (backOf (W := W) hM hZ w4 w3 hf hl) (g := g) hg hsize (argsL := argsL) (rest := rest) hlen hstack hW hdg (fun _ _ => ⟨rfl, eT, hc, hs⟩)
  dsimp only [Pt.U, Pt.locs, Pt.cells, Pt.slots] at X' l' y' z' st hQ
  subst l' y' z'
  exact ⟨v, T', Lc, X', hQ, st⟩
end New
end Jvm.RoadKit
namespace Jvm.Pilot.@@N@@
open Jvm Jvm.ClassFile Sem Op Lib Jvm.Free Jvm.Stand Jvm.LawKit Jvm.RoadKit Bundle Jvm.Pilot.@@N@@.Jvm.D
theorem ww {Z : State} {a0 : Array Value} (hw : ∀ d ∈ tables_1, d.before a0 Z = true) (i : Nat) {d : Jvm.Cond} (h : tables_1[i]? = some d) : d.before a0 Z = true := hw _ (List.mem_of_getElem? h)
theorem pn_java_lang_String : plainName "java/lang/String" = true := by first | (simp [plainName, overriddenIn]; done) | decide +kernel
theorem d1_0 : decode jdk_42_method_3_code 0 = .ok (.aload_n 0, 1) := by decide +kernel
theorem d1_1 : decode jdk_42_method_3_code 1 = .ok (.aload_n 1, 1) := by decide +kernel
theorem d1_2 : decode jdk_42_method_3_code 2 = .ok (.iconst 0, 1) := by decide +kernel
theorem d1_3 : decode jdk_42_method_3_code 3 = .ok (.aload_n 1, 1) := by decide +kernel
theorem d1_4 : decode jdk_42_method_3_code 4 = .ok (.arraylength, 1) := by decide +kernel
theorem d1_5 : decode jdk_42_method_3_code 5 = .ok (.aconst_null, 1) := by decide +kernel
abbrev Sh0 (p0 : Addr) (p1 : Addr) (p2 : Int32) (p3 : Int32) : Array Slot := #[.val (.ref p0), .val (.ref p1), .val (.int p2), .val (.int p3), .val .null, .unset]
theorem d2_0 : decode jdk_42_method_149_code 0 = .ok (.aload_n 0, 1) := by decide +kernel
theorem d2_1 : decode jdk_42_method_149_code 1 = .ok (.invokespecial 1, 3) := by decide +kernel
theorem d2_4 : decode jdk_42_method_149_code 4 = .ok (.iload_n 3, 1) := by decide +kernel
theorem d2_5 : decode jdk_42_method_149_code 5 = .ok (.ifCond .ne 22, 3) := by decide +kernel
theorem d2_27 : decode jdk_42_method_149_code 27 = .ok (.getstatic 38, 3) := by decide +kernel
theorem d2_30 : decode jdk_42_method_149_code 30 = .ok (.ifCond .eq 28, 3) := by decide +kernel
theorem d2_33 : decode jdk_42_method_149_code 33 = .ok (.aload_n 1, 1) := by decide +kernel
theorem d2_34 : decode jdk_42_method_149_code 34 = .ok (.iload_n 2, 1) := by decide +kernel
theorem d2_35 : decode jdk_42_method_149_code 35 = .ok (.iload_n 3, 1) := by decide +kernel
theorem pn_java_lang_StringUTF16 : plainName "java/lang/StringUTF16" = true := by first | (simp [plainName, overriddenIn]; done) | decide +kernel
abbrev Sh1 (p0 : Addr) (p1 : Int32) (p2 : Int32) : Array Slot := #[.val (.ref p0), .val (.int p1), .val (.int p2), .unset, .unset, .unset]
theorem d4_0 : decode jdk_52_method_16_code 0 = .ok (.iload_n 2, 1) := by decide +kernel
theorem d4_1 : decode jdk_52_method_16_code 1 = .ok (.newarray .byte, 2) := by decide +kernel
theorem d4_3 : decode jdk_52_method_16_code 3 = .ok (.astore_n 3, 1) := by decide +kernel
abbrev Sh2 (p0 : Addr) (p1 : Int32) (p2 : Int32) (p3 : Addr) : Array Slot := #[.val (.ref p0), .val (.int p1), .val (.int p2), .val (.ref p3), .unset, .unset]
theorem d4_4 : decode jdk_52_method_16_code 4 = .ok (.aload_n 0, 1) := by decide +kernel
theorem d4_5 : decode jdk_52_method_16_code 5 = .ok (.iload_n 1, 1) := by decide +kernel
theorem d4_6 : decode jdk_52_method_16_code 6 = .ok (.aload_n 3, 1) := by decide +kernel
theorem d4_7 : decode jdk_52_method_16_code 7 = .ok (.iconst 0, 1) := by decide +kernel
theorem d4_8 : decode jdk_52_method_16_code 8 = .ok (.iload_n 2, 1) := by decide +kernel
abbrev Sh3 (p0 : Addr) (p1 : Int32) (p2 : Addr) (p3 : Int32) (p4 : Int32) : Array Slot := #[.val (.ref p0), .val (.int p1), .val (.ref p2), .val (.int p3), .val (.int p4), .unset, .unset]
theorem d5_0 : decode jdk_52_method_21_code 0 = .ok (.iconst 0, 1) := by decide +kernel
theorem d5_1 : decode jdk_52_method_21_code 1 = .ok (.istore 5, 2) := by decide +kernel
abbrev Sh4 (p0 : Addr) (p1 : Int32) (p2 : Addr) (p3 : Int32) (p4 : Int32) (p5 : Int32) : Array Slot := #[.val (.ref p0), .val (.int p1), .val (.ref p2), .val (.int p3), .val (.int p4), .val (.int p5), .unset]
theorem d5_3 : decode jdk_52_method_21_code 3 = .ok (.iload 5, 2) := by decide +kernel
theorem d5_5 : decode jdk_52_method_21_code 5 = .ok (.iload 4, 2) := by decide +kernel
theorem d5_7 : decode jdk_52_method_21_code 7 = .ok (.if_icmp .ge 37, 3) := by decide +kernel
theorem d5_10 : decode jdk_52_method_21_code 10 = .ok (.aload_n 0, 1) := by decide +kernel
theorem d5_11 : decode jdk_52_method_21_code 11 = .ok (.iload_n 1, 1) := by decide +kernel
theorem d5_12 : decode jdk_52_method_21_code 12 = .ok (.caload, 1) := by decide +kernel
theorem d5_13 : decode jdk_52_method_21_code 13 = .ok (.istore 6, 2) := by decide +kernel
abbrev Sh5 (p0 : Addr) (p1 : Int32) (p2 : Addr) (p3 : Int32) (p4 : Int32) (p5 : Int32) (p6 : Int32) : Array Slot := #[.val (.ref p0), .val (.int p1), .val (.ref p2), .val (.int p3), .val (.int p4), .val (.int p5), .val (.int p6)]
theorem d5_15 : decode jdk_52_method_21_code 15 = .ok (.iload 6, 2) := by decide +kernel
theorem d5_17 : decode jdk_52_method_21_code 17 = .ok (.sipush 255, 3) := by decide +kernel
theorem d5_20 : decode jdk_52_method_21_code 20 = .ok (.if_icmp .le 6, 3) := by decide +kernel
theorem d5_23 : decode jdk_52_method_21_code 23 = .ok (.iload 5, 2) := by decide +kernel
theorem d5_25 : decode jdk_52_method_21_code 25 = .ok (.ireturn, 1) := by decide +kernel
abbrev Y5 : MethodName := ⟨"java/lang/StringUTF16", "compress", "([CI[BII)I"⟩
theorem pd_285bCI5bBII29I : parseMethodDescriptor "([CI[BII)I" = some ⟨[(.array .char), .int, (.array .byte), .int, .int], some .int⟩ := by decide +kernel
theorem d4_9 : decode jdk_52_method_16_code 9 = .ok (.invokestatic 115, 3) := by decide +kernel
theorem d4_12 : decode jdk_52_method_16_code 12 = .ok (.istore 4, 2) := by decide +kernel
abbrev Sh6 (p0 : Addr) (p1 : Int32) (p2 : Int32) (p3 : Addr) (p4 : Int32) : Array Slot := #[.val (.ref p0), .val (.int p1), .val (.int p2), .val (.ref p3), .val (.int p4), .unset]
theorem d4_14 : decode jdk_52_method_16_code 14 = .ok (.iload 4, 2) := by decide +kernel
theorem d4_16 : decode jdk_52_method_16_code 16 = .ok (.iload_n 2, 1) := by decide +kernel
theorem d4_17 : decode jdk_52_method_16_code 17 = .ok (.if_icmp .eq 40, 3) := by decide +kernel
theorem d4_20 : decode jdk_52_method_16_code 20 = .ok (.aload_n 0, 1) := by decide +kernel
theorem d4_21 : decode jdk_52_method_16_code 21 = .ok (.iload_n 1, 1) := by decide +kernel
theorem d4_22 : decode jdk_52_method_16_code 22 = .ok (.iload_n 2, 1) := by decide +kernel
abbrev Sh7 (p0 : Addr) (p1 : Int32) (p2 : Int32) : Array Slot := #[.val (.ref p0), .val (.int p1), .val (.int p2), .unset, .unset]
theorem d14_0 : decode jdk_52_method_14_code 0 = .ok (.iload_n 2, 1) := by decide +kernel
theorem d15_0 : decode jdk_52_method_2_code 0 = .ok (.iload_n 0, 1) := by decide +kernel
theorem d16_0 : decode jdk_52_method_3_code 0 = .ok (.iload_n 0, 1) := by decide +kernel
theorem d16_1 : decode jdk_52_method_3_code 1 = .ok (.ifCond .ge 11, 3) := by decide +kernel
theorem d16_12 : decode jdk_52_method_3_code 12 = .ok (.iload_n 0, 1) := by decide +kernel
theorem d16_13 : decode jdk_52_method_3_code 13 = .ok (.ldc 20, 2) := by decide +kernel
theorem d16_15 : decode jdk_52_method_3_code 15 = .ok (.if_icmp .lt 40, 3) := by decide +kernel
theorem d16_55 : decode jdk_52_method_3_code 55 = .ok (.iload_n 0, 1) := by decide +kernel
theorem d16_56 : decode jdk_52_method_3_code 56 = .ok (.iconst 1, 1) := by decide +kernel
theorem d16_57 : decode jdk_52_method_3_code 57 = .ok (.ishl, 1) := by decide +kernel
theorem d16_58 : decode jdk_52_method_3_code 58 = .ok (.ireturn, 1) := by decide +kernel
abbrev Y16 : MethodName := ⟨"java/lang/StringUTF16", "newBytesLength", "(I)I"⟩
theorem pd_28I29I : parseMethodDescriptor "(I)I" = some ⟨[.int], some .int⟩ := by decide +kernel
theorem d15_1 : decode jdk_52_method_2_code 1 = .ok (.invokestatic 11, 3) := by decide +kernel
theorem d15_4 : decode jdk_52_method_2_code 4 = .ok (.newarray .byte, 2) := by decide +kernel
theorem d15_6 : decode jdk_52_method_2_code 6 = .ok (.areturn, 1) := by decide +kernel
abbrev Y15 : MethodName := ⟨"java/lang/StringUTF16", "newBytesFor", "(I)[B"⟩
theorem pd_28I295bB : parseMethodDescriptor "(I)[B" = some ⟨[.int], some (.array .byte)⟩ := by decide +kernel
theorem d14_1 : decode jdk_52_method_14_code 1 = .ok (.invokestatic 107, 3) := by decide +kernel
theorem d14_4 : decode jdk_52_method_14_code 4 = .ok (.astore_n 3, 1) := by decide +kernel
abbrev Sh8 (p0 : Addr) (p1 : Int32) (p2 : Int32) (p3 : Addr) : Array Slot := #[.val (.ref p0), .val (.int p1), .val (.int p2), .val (.ref p3), .unset]
theorem d14_5 : decode jdk_52_method_14_code 5 = .ok (.iconst 0, 1) := by decide +kernel
theorem d14_6 : decode jdk_52_method_14_code 6 = .ok (.istore 4, 2) := by decide +kernel
abbrev Sh9 (p0 : Addr) (p1 : Int32) (p2 : Int32) (p3 : Addr) (p4 : Int32) : Array Slot := #[.val (.ref p0), .val (.int p1), .val (.int p2), .val (.ref p3), .val (.int p4)]
theorem d14_8 : decode jdk_52_method_14_code 8 = .ok (.iload 4, 2) := by decide +kernel
theorem d14_10 : decode jdk_52_method_14_code 10 = .ok (.iload_n 2, 1) := by decide +kernel
theorem d14_11 : decode jdk_52_method_14_code 11 = .ok (.if_icmp .ge 21, 3) := by decide +kernel
theorem d14_14 : decode jdk_52_method_14_code 14 = .ok (.aload_n 3, 1) := by decide +kernel
theorem d14_15 : decode jdk_52_method_14_code 15 = .ok (.iload 4, 2) := by decide +kernel
theorem d14_17 : decode jdk_52_method_14_code 17 = .ok (.aload_n 0, 1) := by decide +kernel
theorem d14_18 : decode jdk_52_method_14_code 18 = .ok (.iload_n 1, 1) := by decide +kernel
theorem d14_19 : decode jdk_52_method_14_code 19 = .ok (.caload, 1) := by decide +kernel
abbrev Sh10 (p0 : Addr) (p1 : Int32) (p2 : Int32) : Array Slot := #[.val (.ref p0), .val (.int p1), .val (.int p2)]
theorem d17_0 : decode jdk_52_method_4_code 0 = .ok (.getstatic 44, 3) := by decide +kernel
theorem d17_3 : decode jdk_52_method_4_code 3 = .ok (.ifCond .ne 25, 3) := by decide +kernel
theorem d17_28 : decode jdk_52_method_4_code 28 = .ok (.iload_n 1, 1) := by decide +kernel
theorem d17_29 : decode jdk_52_method_4_code 29 = .ok (.iconst 1, 1) := by decide +kernel
theorem d17_30 : decode jdk_52_method_4_code 30 = .ok (.ishl, 1) := by decide +kernel
theorem d17_31 : decode jdk_52_method_4_code 31 = .ok (.istore_n 1, 1) := by decide +kernel
theorem d17_32 : decode jdk_52_method_4_code 32 = .ok (.aload_n 0, 1) := by decide +kernel
theorem d17_33 : decode jdk_52_method_4_code 33 = .ok (.iload_n 1, 1) := by decide +kernel
theorem d17_34 : decode jdk_52_method_4_code 34 = .ok (.iinc 1 1, 3) := by decide +kernel
theorem d17_37 : decode jdk_52_method_4_code 37 = .ok (.iload_n 2, 1) := by decide +kernel
theorem d17_38 : decode jdk_52_method_4_code 38 = .ok (.getstatic 59, 3) := by decide +kernel
theorem d17_41 : decode jdk_52_method_4_code 41 = .ok (.ishr, 1) := by decide +kernel
theorem d17_42 : decode jdk_52_method_4_code 42 = .ok (.i2b, 1) := by decide +kernel
theorem d17_43 : decode jdk_52_method_4_code 43 = .ok (.bastore, 1) := by decide +kernel
theorem d17_44 : decode jdk_52_method_4_code 44 = .ok (.aload_n 0, 1) := by decide +kernel
theorem d17_45 : decode jdk_52_method_4_code 45 = .ok (.iload_n 1, 1) := by decide +kernel
theorem d17_46 : decode jdk_52_method_4_code 46 = .ok (.iload_n 2, 1) := by decide +kernel
theorem d17_47 : decode jdk_52_method_4_code 47 = .ok (.getstatic 63, 3) := by decide +kernel
theorem d17_50 : decode jdk_52_method_4_code 50 = .ok (.ishr, 1) := by decide +kernel
theorem d17_51 : decode jdk_52_method_4_code 51 = .ok (.i2b, 1) := by decide +kernel
theorem d17_52 : decode jdk_52_method_4_code 52 = .ok (.bastore, 1) := by decide +kernel
theorem d17_53 : decode jdk_52_method_4_code 53 = .ok (.return_, 1) := by decide +kernel
abbrev Y17 : MethodName := ⟨"java/lang/StringUTF16", "putChar", "([BII)V"⟩
theorem pd_285bBII29V : parseMethodDescriptor "([BII)V" = some ⟨[(.array .byte), .int, .int], none⟩ := by decide +kernel
theorem d14_20 : decode jdk_52_method_14_code 20 = .ok (.invokestatic 111, 3) := by decide +kernel
theorem d14_23 : decode jdk_52_method_14_code 23 = .ok (.iinc 1 1, 3) := by decide +kernel
theorem d14_26 : decode jdk_52_method_14_code 26 = .ok (.iinc 4 1, 3) := by decide +kernel
theorem d14_29 : decode jdk_52_method_14_code 29 = .ok (.goto (-21), 3) := by decide +kernel
theorem d14_32 : decode jdk_52_method_14_code 32 = .ok (.aload_n 3, 1) := by decide +kernel
theorem d14_33 : decode jdk_52_method_14_code 33 = .ok (.areturn, 1) := by decide +kernel
abbrev Y14 : MethodName := ⟨"java/lang/StringUTF16", "toBytes", "([CII)[B"⟩
theorem pd_285bCII295bB : parseMethodDescriptor "([CII)[B" = some ⟨[(.array .char), .int, .int], some (.array .byte)⟩ := by decide +kernel
theorem d4_23 : decode jdk_52_method_16_code 23 = .ok (.invokestatic 119, 3) := by decide +kernel
theorem d4_26 : decode jdk_52_method_16_code 26 = .ok (.astore 5, 2) := by decide +kernel
abbrev Sh11 (p0 : Addr) (p1 : Int32) (p2 : Int32) (p3 : Addr) (p4 : Int32) (p5 : Addr) : Array Slot := #[.val (.ref p0), .val (.int p1), .val (.int p2), .val (.ref p3), .val (.int p4), .val (.ref p5)]
theorem d4_28 : decode jdk_52_method_16_code 28 = .ok (.aload 5, 2) := by decide +kernel
theorem d4_30 : decode jdk_52_method_16_code 30 = .ok (.iload 4, 2) := by decide +kernel
theorem d18_0 : decode jdk_52_method_5_code 0 = .ok (.getstatic 44, 3) := by decide +kernel
theorem d18_3 : decode jdk_52_method_5_code 3 = .ok (.ifCond .ne 25, 3) := by decide +kernel
theorem d18_28 : decode jdk_52_method_5_code 28 = .ok (.iload_n 1, 1) := by decide +kernel
theorem d18_29 : decode jdk_52_method_5_code 29 = .ok (.iconst 1, 1) := by decide +kernel
theorem d18_30 : decode jdk_52_method_5_code 30 = .ok (.ishl, 1) := by decide +kernel
theorem d18_31 : decode jdk_52_method_5_code 31 = .ok (.istore_n 1, 1) := by decide +kernel
theorem d18_32 : decode jdk_52_method_5_code 32 = .ok (.aload_n 0, 1) := by decide +kernel
theorem d18_33 : decode jdk_52_method_5_code 33 = .ok (.iload_n 1, 1) := by decide +kernel
theorem d18_34 : decode jdk_52_method_5_code 34 = .ok (.iinc 1 1, 3) := by decide +kernel
theorem d18_37 : decode jdk_52_method_5_code 37 = .ok (.baload, 1) := by decide +kernel
theorem d18_38 : decode jdk_52_method_5_code 38 = .ok (.sipush 255, 3) := by decide +kernel
theorem d18_41 : decode jdk_52_method_5_code 41 = .ok (.iand, 1) := by decide +kernel
theorem d18_42 : decode jdk_52_method_5_code 42 = .ok (.getstatic 59, 3) := by decide +kernel
theorem d18_45 : decode jdk_52_method_5_code 45 = .ok (.ishl, 1) := by decide +kernel
theorem d18_46 : decode jdk_52_method_5_code 46 = .ok (.aload_n 0, 1) := by decide +kernel
theorem d18_47 : decode jdk_52_method_5_code 47 = .ok (.iload_n 1, 1) := by decide +kernel
theorem d18_48 : decode jdk_52_method_5_code 48 = .ok (.baload, 1) := by decide +kernel
theorem d18_49 : decode jdk_52_method_5_code 49 = .ok (.sipush 255, 3) := by decide +kernel
theorem d18_52 : decode jdk_52_method_5_code 52 = .ok (.iand, 1) := by decide +kernel
theorem d18_53 : decode jdk_52_method_5_code 53 = .ok (.getstatic 63, 3) := by decide +kernel
theorem d18_56 : decode jdk_52_method_5_code 56 = .ok (.ishl, 1) := by decide +kernel
theorem d18_57 : decode jdk_52_method_5_code 57 = .ok (.ior, 1) := by decide +kernel
theorem d18_58 : decode jdk_52_method_5_code 58 = .ok (.i2c, 1) := by decide +kernel
theorem d18_59 : decode jdk_52_method_5_code 59 = .ok (.ireturn, 1) := by decide +kernel
abbrev Y18 : MethodName := ⟨"java/lang/StringUTF16", "getChar", "([BI)C"⟩
theorem pd_285bBI29C : parseMethodDescriptor "([BI)C" = some ⟨[(.array .byte), .int], some .char⟩ := by decide +kernel
theorem d4_32 : decode jdk_52_method_16_code 32 = .ok (.invokestatic 71, 3) := by decide +kernel
theorem d4_35 : decode jdk_52_method_16_code 35 = .ok (.sipush 255, 3) := by decide +kernel
theorem d4_38 : decode jdk_52_method_16_code 38 = .ok (.if_icmp .gt 16, 3) := by decide +kernel
theorem d4_54 : decode jdk_52_method_16_code 54 = .ok (.aload 5, 2) := by decide +kernel
theorem d4_56 : decode jdk_52_method_16_code 56 = .ok (.areturn, 1) := by decide +kernel
abbrev Y4 : MethodName := ⟨"java/lang/StringUTF16", "compress", "([CII)[B"⟩
theorem d2_36 : decode jdk_42_method_149_code 36 = .ok (.invokestatic 177, 3) := by decide +kernel
theorem d2_39 : decode jdk_42_method_149_code 39 = .ok (.astore 5, 2) := by decide +kernel
abbrev Sh12 (p0 : Addr) (p1 : Addr) (p2 : Int32) (p3 : Int32) (p4 : Addr) : Array Slot := #[.val (.ref p0), .val (.ref p1), .val (.int p2), .val (.int p3), .val .null, .val (.ref p4)]
theorem d2_41 : decode jdk_42_method_149_code 41 = .ok (.aload_n 0, 1) := by decide +kernel
theorem d2_42 : decode jdk_42_method_149_code 42 = .ok (.aload 5, 2) := by decide +kernel
theorem d2_44 : decode jdk_42_method_149_code 44 = .ok (.iload_n 3, 1) := by decide +kernel
theorem d6_0 : decode jdk_52_method_15_code 0 = .ok (.iload_n 1, 1) := by decide +kernel
theorem d6_1 : decode jdk_52_method_15_code 1 = .ok (.aload_n 0, 1) := by decide +kernel
theorem d6_2 : decode jdk_52_method_15_code 2 = .ok (.arraylength, 1) := by decide +kernel
theorem d6_3 : decode jdk_52_method_15_code 3 = .ok (.isub, 1) := by decide +kernel
theorem d6_4 : decode jdk_52_method_15_code 4 = .ok (.bipush 31, 2) := by decide +kernel
theorem d6_6 : decode jdk_52_method_15_code 6 = .ok (.iushr, 1) := by decide +kernel
theorem d6_7 : decode jdk_52_method_15_code 7 = .ok (.i2b, 1) := by decide +kernel
theorem d6_8 : decode jdk_52_method_15_code 8 = .ok (.ireturn, 1) := by decide +kernel
abbrev Y6 : MethodName := ⟨"java/lang/StringUTF16", "coderFromArrayLen", "([BI)B"⟩
theorem pd_285bBI29B : parseMethodDescriptor "([BI)B" = some ⟨[(.array .byte), .int], some .byte⟩ := by decide +kernel
theorem d2_45 : decode jdk_42_method_149_code 45 = .ok (.invokestatic 47, 3) := by decide +kernel
theorem d2_48 : decode jdk_42_method_149_code 48 = .ok (.putfield 15, 3) := by decide +kernel
theorem d2_51 : decode jdk_42_method_149_code 51 = .ok (.aload_n 0, 1) := by decide +kernel
theorem d2_52 : decode jdk_42_method_149_code 52 = .ok (.aload 5, 2) := by decide +kernel
theorem d2_54 : decode jdk_42_method_149_code 54 = .ok (.putfield 9, 3) := by decide +kernel
theorem d2_57 : decode jdk_42_method_149_code 57 = .ok (.return_, 1) := by decide +kernel
abbrev Y2 : MethodName := ⟨"java/lang/String", "<init>", "([CIILjava/lang/Void;)V"⟩
theorem pd_285bCIILjava2flang2fVoid3b29V : parseMethodDescriptor "([CIILjava/lang/Void;)V" = some ⟨[(.array .char), .int, .int, (.object "java/lang/Void")], none⟩ := by decide +kernel
theorem d1_6 : decode jdk_42_method_3_code 6 = .ok (.invokespecial 27, 3) := by decide +kernel
theorem d1_9 : decode jdk_42_method_3_code 9 = .ok (.return_, 1) := by decide +kernel
abbrev Y1 : MethodName := ⟨"java/lang/String", "<init>", "([C)V"⟩
theorem d5_26 : decode jdk_52_method_21_code 26 = .ok (.aload_n 2, 1) := by decide +kernel
theorem d5_27 : decode jdk_52_method_21_code 27 = .ok (.iload_n 3, 1) := by decide +kernel
theorem d5_28 : decode jdk_52_method_21_code 28 = .ok (.iload 6, 2) := by decide +kernel
theorem d5_30 : decode jdk_52_method_21_code 30 = .ok (.i2b, 1) := by decide +kernel
theorem d5_31 : decode jdk_52_method_21_code 31 = .ok (.bastore, 1) := by decide +kernel
theorem d5_32 : decode jdk_52_method_21_code 32 = .ok (.iinc 1 1, 3) := by decide +kernel
theorem d5_35 : decode jdk_52_method_21_code 35 = .ok (.iinc 3 1, 3) := by decide +kernel
theorem d5_38 : decode jdk_52_method_21_code 38 = .ok (.iinc 5 1, 3) := by decide +kernel
theorem d5_41 : decode jdk_52_method_21_code 41 = .ok (.goto (-38), 3) := by decide +kernel
theorem d5_44 : decode jdk_52_method_21_code 44 = .ok (.iload 4, 2) := by decide +kernel
theorem d5_46 : decode jdk_52_method_21_code 46 = .ok (.ireturn, 1) := by decide +kernel
theorem d4_57 : decode jdk_52_method_16_code 57 = .ok (.aload_n 3, 1) := by decide +kernel
theorem d4_58 : decode jdk_52_method_16_code 58 = .ok (.areturn, 1) := by decide +kernel
theorem d9_0 : decode jdk_42_method_56_code 0 = .ok (.aload_n 0, 1) := by decide +kernel
theorem d10_0 : decode jdk_42_method_154_code 0 = .ok (.getstatic 38, 3) := by decide +kernel
theorem d10_3 : decode jdk_42_method_154_code 3 = .ok (.ifCond .eq 14, 3) := by decide +kernel
theorem d10_6 : decode jdk_42_method_154_code 6 = .ok (.aload_n 0, 1) := by decide +kernel
theorem d10_7 : decode jdk_42_method_154_code 7 = .ok (.getfield 15, 3) := by decide +kernel
theorem d10_10 : decode jdk_42_method_154_code 10 = .ok (.ifCond .ne 7, 3) := by decide +kernel
theorem d10_13 : decode jdk_42_method_154_code 13 = .ok (.iconst 1, 1) := by decide +kernel
theorem d10_14 : decode jdk_42_method_154_code 14 = .ok (.goto 4, 3) := by decide +kernel
theorem d10_18 : decode jdk_42_method_154_code 18 = .ok (.ireturn, 1) := by decide +kernel
abbrev Y10 : MethodName := ⟨"java/lang/String", "isLatin1", "()Z"⟩
theorem pd_2829Z : parseMethodDescriptor "()Z" = some ⟨[], some .boolean⟩ := by decide +kernel
theorem d9_1 : decode jdk_42_method_56_code 1 = .ok (.invokevirtual 492, 3) := by decide +kernel
theorem d9_4 : decode jdk_42_method_56_code 4 = .ok (.ifCond .eq 12, 3) := by decide +kernel
theorem d9_7 : decode jdk_42_method_56_code 7 = .ok (.aload_n 0, 1) := by decide +kernel
theorem d9_8 : decode jdk_42_method_56_code 8 = .ok (.getfield 9, 3) := by decide +kernel
theorem d9_11 : decode jdk_42_method_56_code 11 = .ok (.iload_n 1, 1) := by decide +kernel
theorem pn_java_lang_StringLatin1 : plainName "java/lang/StringLatin1" = true := by first | (simp [plainName, overriddenIn]; done) | decide +kernel
theorem d11_0 : decode jdk_43_method_2_code 0 = .ok (.iload_n 1, 1) := by decide +kernel
theorem d11_1 : decode jdk_43_method_2_code 1 = .ok (.aload_n 0, 1) := by decide +kernel
theorem d11_2 : decode jdk_43_method_2_code 2 = .ok (.arraylength, 1) := by decide +kernel
theorem d12_0 : decode jdk_42_method_155_code 0 = .ok (.iload_n 0, 1) := by decide +kernel
theorem d12_1 : decode jdk_42_method_155_code 1 = .ok (.iload_n 1, 1) := by decide +kernel
theorem d12_2 : decode jdk_42_method_155_code 2 = .ok (.getstatic 1053, 3) := by decide +kernel
theorem pn_jdk_internal_util_Preconditions : plainName "jdk/internal/util/Preconditions" = true := by first | (simp [plainName, overriddenIn]; done) | decide +kernel
abbrev Sh13 (p0 : Int32) (p1 : Int32) : Array Slot := #[.val (.int p0), .val (.int p1), .val .null]
theorem d13_0 : decode jdk_41_method_11_code 0 = .ok (.iload_n 0, 1) := by decide +kernel
theorem d13_1 : decode jdk_41_method_11_code 1 = .ok (.ifCond .lt 8, 3) := by decide +kernel
theorem d13_4 : decode jdk_41_method_11_code 4 = .ok (.iload_n 0, 1) := by decide +kernel
theorem d13_5 : decode jdk_41_method_11_code 5 = .ok (.iload_n 1, 1) := by decide +kernel
theorem d13_6 : decode jdk_41_method_11_code 6 = .ok (.if_icmp .lt 10, 3) := by decide +kernel
theorem d13_16 : decode jdk_41_method_11_code 16 = .ok (.iload_n 0, 1) := by decide +kernel
theorem d13_17 : decode jdk_41_method_11_code 17 = .ok (.ireturn, 1) := by decide +kernel
abbrev Y13 : MethodName := ⟨"jdk/internal/util/Preconditions", "checkIndex", "(IILjava/util/function/BiFunction;)I"⟩
theorem pd_28IILjava2futil2ffunction2fBiFunction3b29I : parseMethodDescriptor "(IILjava/util/function/BiFunction;)I" = some ⟨[.int, .int, (.object "java/util/function/BiFunction")], some .int⟩ := by decide +kernel
theorem d12_5 : decode jdk_42_method_155_code 5 = .ok (.invokestatic 1059, 3) := by decide +kernel
theorem d12_8 : decode jdk_42_method_155_code 8 = .ok (.pop, 1) := by decide +kernel
theorem d12_9 : decode jdk_42_method_155_code 9 = .ok (.return_, 1) := by decide +kernel
abbrev Y12 : MethodName := ⟨"java/lang/String", "checkIndex", "(II)V"⟩
theorem pd_28II29V : parseMethodDescriptor "(II)V" = some ⟨[.int, .int], none⟩ := by decide +kernel
theorem d11_3 : decode jdk_43_method_2_code 3 = .ok (.invokestatic 9, 3) := by decide +kernel
theorem d11_6 : decode jdk_43_method_2_code 6 = .ok (.aload_n 0, 1) := by decide +kernel
theorem d11_7 : decode jdk_43_method_2_code 7 = .ok (.iload_n 1, 1) := by decide +kernel
theorem d11_8 : decode jdk_43_method_2_code 8 = .ok (.baload, 1) := by decide +kernel
theorem d11_9 : decode jdk_43_method_2_code 9 = .ok (.sipush 255, 3) := by decide +kernel
theorem d11_12 : decode jdk_43_method_2_code 12 = .ok (.iand, 1) := by decide +kernel
theorem d11_13 : decode jdk_43_method_2_code 13 = .ok (.i2c, 1) := by decide +kernel
theorem d11_14 : decode jdk_43_method_2_code 14 = .ok (.ireturn, 1) := by decide +kernel
abbrev Y11 : MethodName := ⟨"java/lang/StringLatin1", "charAt", "([BI)C"⟩
theorem d9_12 : decode jdk_42_method_56_code 12 = .ok (.invokestatic 495, 3) := by decide +kernel
theorem d9_15 : decode jdk_42_method_56_code 15 = .ok (.ireturn, 1) := by decide +kernel
abbrev Y9 : MethodName := ⟨"java/lang/String", "charAt", "(I)C"⟩
abbrev Sh14 (p0 : Int32) (p1 : Int32) (p2 : Addr) : Array Slot := #[.val (.int p0), .val (.int p1), .val (.ref p2)]
theorem d10_17 : decode jdk_42_method_154_code 17 = .ok (.iconst 0, 1) := by decide +kernel
theorem d9_16 : decode jdk_42_method_56_code 16 = .ok (.aload_n 0, 1) := by decide +kernel
theorem d9_17 : decode jdk_42_method_56_code 17 = .ok (.getfield 9, 3) := by decide +kernel
theorem d9_20 : decode jdk_42_method_56_code 20 = .ok (.iload_n 1, 1) := by decide +kernel
theorem d19_0 : decode jdk_52_method_83_code 0 = .ok (.iload_n 1, 1) := by decide +kernel
theorem d19_1 : decode jdk_52_method_83_code 1 = .ok (.aload_n 0, 1) := by decide +kernel
theorem d20_0 : decode jdk_52_method_91_code 0 = .ok (.iload_n 0, 1) := by decide +kernel
theorem d20_1 : decode jdk_52_method_91_code 1 = .ok (.aload_n 1, 1) := by decide +kernel
theorem d21_0 : decode jdk_52_method_6_code 0 = .ok (.aload_n 0, 1) := by decide +kernel
theorem d21_1 : decode jdk_52_method_6_code 1 = .ok (.arraylength, 1) := by decide +kernel
theorem d21_2 : decode jdk_52_method_6_code 2 = .ok (.iconst 1, 1) := by decide +kernel
theorem d21_3 : decode jdk_52_method_6_code 3 = .ok (.ishr, 1) := by decide +kernel
theorem d21_4 : decode jdk_52_method_6_code 4 = .ok (.ireturn, 1) := by decide +kernel
abbrev Y21 : MethodName := ⟨"java/lang/StringUTF16", "length", "([B)I"⟩
theorem pd_285bB29I : parseMethodDescriptor "([B)I" = some ⟨[(.array .byte)], some .int⟩ := by decide +kernel
theorem d20_2 : decode jdk_52_method_91_code 2 = .ok (.invokestatic 48, 3) := by decide +kernel
theorem d20_5 : decode jdk_52_method_91_code 5 = .ok (.invokestatic 414, 3) := by decide +kernel
theorem d20_8 : decode jdk_52_method_91_code 8 = .ok (.return_, 1) := by decide +kernel
abbrev Y20 : MethodName := ⟨"java/lang/StringUTF16", "checkIndex", "(I[B)V"⟩
theorem pd_28I5bB29V : parseMethodDescriptor "(I[B)V" = some ⟨[.int, (.array .byte)], none⟩ := by decide +kernel
theorem d19_2 : decode jdk_52_method_83_code 2 = .ok (.invokestatic 67, 3) := by decide +kernel
theorem d19_5 : decode jdk_52_method_83_code 5 = .ok (.aload_n 0, 1) := by decide +kernel
theorem d19_6 : decode jdk_52_method_83_code 6 = .ok (.iload_n 1, 1) := by decide +kernel
theorem d19_7 : decode jdk_52_method_83_code 7 = .ok (.invokestatic 71, 3) := by decide +kernel
theorem d19_10 : decode jdk_52_method_83_code 10 = .ok (.ireturn, 1) := by decide +kernel
abbrev Y19 : MethodName := ⟨"java/lang/StringUTF16", "charAt", "([BI)C"⟩
theorem d9_21 : decode jdk_42_method_56_code 21 = .ok (.invokestatic 498, 3) := by decide +kernel
theorem d9_24 : decode jdk_42_method_56_code 24 = .ok (.ireturn, 1) := by decide +kernel
theorem pn_com_example_throttle_throttle_SipSyntax : plainName "com/example/throttle/throttle/SipSyntax" = true := by first | (simp [plainName, overriddenIn]; done) | decide +kernel
theorem d8_0 : decode prog_10_method_2_code 0 = .ok (.iload_n 1, 1) := by decide +kernel
theorem d8_1 : decode prog_10_method_2_code 1 = .ok (.iload_n 2, 1) := by decide +kernel
theorem d8_2 : decode prog_10_method_2_code 2 = .ok (.if_icmp .lt 5, 3) := by decide +kernel
theorem d8_7 : decode prog_10_method_2_code 7 = .ok (.iload_n 1, 1) := by decide +kernel
theorem d8_8 : decode prog_10_method_2_code 8 = .ok (.istore_n 3, 1) := by decide +kernel
abbrev Sh15 (p0 : Addr) (p1 : Int32) (p2 : Int32) (p3 : Int32) : Array Slot := #[.val (.ref p0), .val (.int p1), .val (.int p2), .val (.int p3), .unset]
theorem d8_9 : decode prog_10_method_2_code 9 = .ok (.iload_n 3, 1) := by decide +kernel
theorem d8_10 : decode prog_10_method_2_code 10 = .ok (.iload_n 2, 1) := by decide +kernel
theorem d8_11 : decode prog_10_method_2_code 11 = .ok (.if_icmp .ge 32, 3) := by decide +kernel
theorem d8_14 : decode prog_10_method_2_code 14 = .ok (.aload_n 0, 1) := by decide +kernel
theorem d8_15 : decode prog_10_method_2_code 15 = .ok (.iload_n 3, 1) := by decide +kernel
theorem pd_28I29C : parseMethodDescriptor "(I)C" = some ⟨[.int], some .char⟩ := by decide +kernel
theorem d8_16 : decode prog_10_method_2_code 16 = .ok (.invokevirtual 7, 3) := by decide +kernel
theorem d8_19 : decode prog_10_method_2_code 19 = .ok (.istore 4, 2) := by decide +kernel
abbrev Sh16 (p0 : Addr) (p1 : Int32) (p2 : Int32) (p3 : Int32) (p4 : Int32) : Array Slot := #[.val (.ref p0), .val (.int p1), .val (.int p2), .val (.int p3), .val (.int p4)]
theorem d8_21 : decode prog_10_method_2_code 21 = .ok (.iload 4, 2) := by decide +kernel
theorem d8_23 : decode prog_10_method_2_code 23 = .ok (.bipush 48, 2) := by decide +kernel
theorem d8_25 : decode prog_10_method_2_code 25 = .ok (.if_icmp .lt 10, 3) := by decide +kernel
theorem d8_35 : decode prog_10_method_2_code 35 = .ok (.iconst 0, 1) := by decide +kernel
theorem d8_36 : decode prog_10_method_2_code 36 = .ok (.ireturn, 1) := by decide +kernel
theorem d8_28 : decode prog_10_method_2_code 28 = .ok (.iload 4, 2) := by decide +kernel
theorem d8_30 : decode prog_10_method_2_code 30 = .ok (.bipush 57, 2) := by decide +kernel
theorem d8_32 : decode prog_10_method_2_code 32 = .ok (.if_icmp .le 5, 3) := by decide +kernel
theorem d8_37 : decode prog_10_method_2_code 37 = .ok (.iinc 3 1, 3) := by decide +kernel
theorem d8_40 : decode prog_10_method_2_code 40 = .ok (.goto (-31), 3) := by decide +kernel
theorem d8_43 : decode prog_10_method_2_code 43 = .ok (.iconst 1, 1) := by decide +kernel
theorem d8_44 : decode prog_10_method_2_code 44 = .ok (.ireturn, 1) := by decide +kernel
abbrev Y8 : MethodName := ⟨"com/example/throttle/throttle/SipSyntax", "isDigits", "(Ljava/lang/String;II)Z"⟩
theorem d8_5 : decode prog_10_method_2_code 5 = .ok (.iconst 0, 1) := by decide +kernel
theorem d8_6 : decode prog_10_method_2_code 6 = .ok (.ireturn, 1) := by decide +kernel
theorem pn_com_example_throttle_throttle_SipSyntaxIsDigitsPinLaw : plainName "com/example/throttle/throttle/SipSyntaxIsDigitsPinLaw" = true := by first | (simp [plainName, overriddenIn]; done) | decide +kernel
abbrev Sh17 (p0 : Int32) (p1 : Int32) (p2 : Int32) (p3 : Int32) : Array Slot := #[.val (.int p0), .val (.int p1), .val (.int p2), .val (.int p3)]
theorem d7_0 : decode method_3_code 0 = .ok (.iload_n 1, 1) := by decide +kernel
theorem d7_1 : decode method_3_code 1 = .ok (.iload_n 2, 1) := by decide +kernel
theorem d7_2 : decode method_3_code 2 = .ok (.if_icmp .lt 8, 3) := by decide +kernel
theorem d7_10 : decode method_3_code 10 = .ok (.iconst 1, 1) := by decide +kernel
theorem d7_11 : decode method_3_code 11 = .ok (.ireturn, 1) := by decide +kernel
theorem d7_5 : decode method_3_code 5 = .ok (.iload_n 1, 1) := by decide +kernel
theorem d7_6 : decode method_3_code 6 = .ok (.iload_n 3, 1) := by decide +kernel
theorem d7_7 : decode method_3_code 7 = .ok (.if_icmp .lt 5, 3) := by decide +kernel
theorem d7_12 : decode method_3_code 12 = .ok (.iload_n 0, 1) := by decide +kernel
theorem d7_13 : decode method_3_code 13 = .ok (.bipush 48, 2) := by decide +kernel
theorem d7_15 : decode method_3_code 15 = .ok (.if_icmp .lt 13, 3) := by decide +kernel
theorem d7_28 : decode method_3_code 28 = .ok (.iconst 0, 1) := by decide +kernel
theorem d7_29 : decode method_3_code 29 = .ok (.ireturn, 1) := by decide +kernel
theorem d7_18 : decode method_3_code 18 = .ok (.iload_n 0, 1) := by decide +kernel
theorem d7_19 : decode method_3_code 19 = .ok (.bipush 57, 2) := by decide +kernel
theorem d7_21 : decode method_3_code 21 = .ok (.if_icmp .gt 7, 3) := by decide +kernel
theorem d7_24 : decode method_3_code 24 = .ok (.iconst 1, 1) := by decide +kernel
theorem d7_25 : decode method_3_code 25 = .ok (.goto 4, 3) := by decide +kernel
abbrev Y7 : MethodName := ⟨"com/example/throttle/throttle/SipSyntaxIsDigitsPinLaw", "okAt", "(CIII)Z"⟩
abbrev Sh18 (p0 : Int32) (p1 : Int32) (p2 : Int32) (p3 : Int32) (p4 : Int32) (p5 : Int32) : Array Slot := #[.val (.int p0), .val (.int p1), .val (.int p2), .val (.int p3), .val (.int p4), .val (.int p5), .unset, .unset, .unset, .unset, .unset]
abbrev Sh19 (p0 : Int32) (p1 : Int32) (p2 : Int32) (p3 : Int32) (p4 : Int32) (p5 : Int32) (p6 : Addr) : Array Slot := #[.val (.int p0), .val (.int p1), .val (.int p2), .val (.int p3), .val (.int p4), .val (.int p5), .val (.ref p6), .unset, .unset, .unset, .unset]
theorem pd_285bC29V : parseMethodDescriptor "([C)V" = some ⟨[(.array .char)], none⟩ := by decide +kernel
abbrev Sh20 (p0 : Int32) (p1 : Int32) (p2 : Int32) (p3 : Int32) (p4 : Int32) (p5 : Int32) (p6 : Addr) (p7 : Addr) : Array Slot := #[.val (.int p0), .val (.int p1), .val (.int p2), .val (.int p3), .val (.int p4), .val (.int p5), .val (.ref p6), .val (.ref p7), .unset, .unset, .unset]
abbrev Sh21 (p0 : Int32) (p1 : Int32) (p2 : Int32) (p3 : Int32) (p4 : Int32) (p5 : Int32) (p6 : Addr) (p7 : Addr) (p8 : Int32) : Array Slot := #[.val (.int p0), .val (.int p1), .val (.int p2), .val (.int p3), .val (.int p4), .val (.int p5), .val (.ref p6), .val (.ref p7), .val (.int p8), .unset, .unset]
abbrev Sh22 (p0 : Int32) (p1 : Int32) (p2 : Int32) (p3 : Int32) (p4 : Int32) (p5 : Int32) (p6 : Addr) (p7 : Addr) (p8 : Int32) (p9 : Int32) : Array Slot := #[.val (.int p0), .val (.int p1), .val (.int p2), .val (.int p3), .val (.int p4), .val (.int p5), .val (.ref p6), .val (.ref p7), .val (.int p8), .val (.int p9), .unset]
theorem pd_28CIII29Z : parseMethodDescriptor "(CIII)Z" = some ⟨[.char, .int, .int, .int], some .boolean⟩ := by decide +kernel
abbrev Sh23 (p0 : Int32) (p1 : Int32) (p2 : Int32) (p3 : Int32) (p4 : Int32) (p5 : Int32) (p6 : Addr) (p7 : Addr) (p8 : Int32) (p9 : Int32) (p10 : Int32) : Array Slot := #[.val (.int p0), .val (.int p1), .val (.int p2), .val (.int p3), .val (.int p4), .val (.int p5), .val (.ref p6), .val (.ref p7), .val (.int p8), .val (.int p9), .val (.int p10)]
theorem pd_28Ljava2flang2fString3bII29Z : parseMethodDescriptor "(Ljava/lang/String;II)Z" = some ⟨[(.object "java/lang/String"), .int, .int], some .boolean⟩ := by decide +kernel
def lo8 (c : Int32) : Int32 := nar .byte (c >>> ((0 : Int32) &&& 31)).toInt8.toInt32
def hi8 (c : Int32) : Int32 := nar .byte (c >>> ((8 : Int32) &&& 31)).toInt8.toInt32
def lat8 (c : Int32) : Int32 := nar .byte c.toInt8.toInt32
theorem own_nc (c : Int32) (h0 : ¬ c < (0 : Int32)) (h1 : ¬ (65535 : Int32) < c) : nar .char c = c := by
  have a := c_i2c c
  rw [Int32.lt_iff_toInt_lt] at h0 h1
  have e1 : (65535 : Int32).toInt = 65535 := by decide
  have e0 : (0 : Int32).toInt = 0 := by decide
  apply Int32.toInt_inj.mp
  show (c.toUInt32.toUInt16.toUInt32.toInt32).toInt = c.toInt
  omega
theorem own_b8 (x : Int32) : (nar .byte x.toInt8.toInt32 &&& (255 : Int32)).toInt = x.toInt % 256 := by
  have a := c_i2b x
  have b := c_i2b x.toInt8.toInt32
  have c := c_mask (nar .byte x.toInt8.toInt32) 255 8 (by decide) (by decide)
  change (nar .byte x.toInt8.toInt32 &&& (255 : Int32)).toInt = (x.toInt8.toInt32.toInt8.toInt32).toInt % 256 at c
  omega
theorem own_lat (c : Int32) (h0 : ¬ c < (0 : Int32)) (h1 : ¬ (255 : Int32) < c) : nar .char ((lat8 c) &&& (255 : Int32)).toUInt32.toUInt16.toUInt32.toInt32 = c := by
  have b := own_b8 c
  have a := c_i2c ((lat8 c) &&& (255 : Int32))
  have a2 := c_i2c (((lat8 c) &&& (255 : Int32)).toUInt32.toUInt16.toUInt32.toInt32)
  rw [Int32.lt_iff_toInt_lt] at h0 h1
  have e1 : (255 : Int32).toInt = 255 := by decide
  have e0 : (0 : Int32).toInt = 0 := by decide
  apply Int32.toInt_inj.mp
  change (lat8 c &&& (255 : Int32)).toInt = c.toInt % 256 at b
  show (((lat8 c) &&& (255 : Int32)).toUInt32.toUInt16.toUInt32.toInt32.toUInt32.toUInt16.toUInt32.toInt32).toInt = c.toInt
  omega
theorem own_join (c : Int32) (h0 : ¬ c < (0 : Int32)) (h1 : ¬ (65535 : Int32) < c) : nar .char ((((lo8 c) &&& (255 : Int32)) <<< ((0 : Int32) &&& 31)) ||| (((hi8 c) &&& (255 : Int32)) <<< ((8 : Int32) &&& 31))).toUInt32.toUInt16.toUInt32.toInt32 = c := by
  have s0 := c_ishr c 0 0 (by decide)
  have s8 := c_ishr c 8 8 (by decide)
  have b0 : (lo8 c &&& (255 : Int32)).toInt = (c >>> ((0 : Int32) &&& 31)).toInt % 256 := own_b8 _
  have b8 : (hi8 c &&& (255 : Int32)).toInt = (c >>> ((8 : Int32) &&& 31)).toInt % 256 := own_b8 _
  have l0 := c_ishl (lo8 c &&& (255 : Int32)) 0 0 (by decide)
  have l8 := c_ishl (hi8 c &&& (255 : Int32)) 8 8 (by decide)
  have r0 := rng32 ((lo8 c &&& (255 : Int32)) <<< ((0 : Int32) &&& 31))
  have r8 := rng32 ((hi8 c &&& (255 : Int32)) <<< ((8 : Int32) &&& 31))
  rw [Int32.lt_iff_toInt_lt] at h0 h1
  have e1 : (65535 : Int32).toInt = 65535 := by decide
  have e0 : (0 : Int32).toInt = 0 := by decide
  have o := c_or' ((lo8 c &&& (255 : Int32)) <<< ((0 : Int32) &&& 31)) ((hi8 c &&& (255 : Int32)) <<< ((8 : Int32) &&& 31)) 8 (by decide) 256 (by decide) (by omega) (by omega) (by omega)
  generalize ((lo8 c &&& (255 : Int32)) <<< ((0 : Int32) &&& 31)) ||| ((hi8 c &&& (255 : Int32)) <<< ((8 : Int32) &&& 31)) = y at *
  have ry := rng32 y
  have a := c_i2c y
  have a2 := c_i2c y.toUInt32.toUInt16.toUInt32.toInt32
  apply Int32.toInt_inj.mp
  show (y.toUInt32.toUInt16.toUInt32.toInt32.toUInt32.toUInt16.toUInt32.toInt32).toInt = c.toInt
  omega
theorem own_crng (y : Int32) : ¬ (nar .char y) < (0 : Int32) ∧ ¬ (65535 : Int32) < (nar .char y) := by
  have a := c_i2c y
  rw [Int32.lt_iff_toInt_lt, Int32.lt_iff_toInt_lt]
  have e1 : (65535 : Int32).toInt = 65535 := by decide
  have e0 : (0 : Int32).toInt = 0 := by decide
  show ¬ (y.toUInt32.toUInt16.toUInt32.toInt32).toInt < _ ∧ ¬ _ < (y.toUInt32.toUInt16.toUInt32.toInt32).toInt
  omega
theorem own_mod5 (q : Int32) : ((q &&& (2147483647 : Int32)) % (5 : Int32)) = 0 ∨ ((q &&& (2147483647 : Int32)) % (5 : Int32)) = 1 ∨ ((q &&& (2147483647 : Int32)) % (5 : Int32)) = 2 ∨ ((q &&& (2147483647 : Int32)) % (5 : Int32)) = 3 ∨ ((q &&& (2147483647 : Int32)) % (5 : Int32)) = 4 := by
  have h1 := c_and q 2147483647 (by decide)
  generalize q &&& (2147483647 : Int32) = u at *
  have h2 := (c_irem u 5 5 rfl).1 h1.1
  have e : (u % 5).toInt = 0 ∨ (u % 5).toInt = 1 ∨ (u % 5).toInt = 2 ∨ (u % 5).toInt = 3 ∨ (u % 5).toInt = 4 := by omega
  rcases e with e | e | e | e | e
  · exact Or.inl (Int32.toInt_inj.mp e)
  · exact Or.inr (Or.inl (Int32.toInt_inj.mp e))
  · exact Or.inr (Or.inr (Or.inl (Int32.toInt_inj.mp e)))
  · exact Or.inr (Or.inr (Or.inr (Or.inl (Int32.toInt_inj.mp e))))
  · exact Or.inr (Or.inr (Or.inr (Or.inr (Int32.toInt_inj.mp e))))
theorem own_pairs (q r : Int32) (h : ((q &&& (2147483647 : Int32)) % (5 : Int32)) < ((r &&& (2147483647 : Int32)) % (5 : Int32))) : (((q &&& (2147483647 : Int32)) % (5 : Int32)) = 0 ∧ ((r &&& (2147483647 : Int32)) % (5 : Int32)) = 1) ∨ (((q &&& (2147483647 : Int32)) % (5 : Int32)) = 0 ∧ ((r &&& (2147483647 : Int32)) % (5 : Int32)) = 2) ∨ (((q &&& (2147483647 : Int32)) % (5 : Int32)) = 0 ∧ ((r &&& (2147483647 : Int32)) % (5 : Int32)) = 3) ∨ (((q &&& (2147483647 : Int32)) % (5 : Int32)) = 0 ∧ ((r &&& (2147483647 : Int32)) % (5 : Int32)) = 4) ∨ (((q &&& (2147483647 : Int32)) % (5 : Int32)) = 1 ∧ ((r &&& (2147483647 : Int32)) % (5 : Int32)) = 2) ∨ (((q &&& (2147483647 : Int32)) % (5 : Int32)) = 1 ∧ ((r &&& (2147483647 : Int32)) % (5 : Int32)) = 3) ∨ (((q &&& (2147483647 : Int32)) % (5 : Int32)) = 1 ∧ ((r &&& (2147483647 : Int32)) % (5 : Int32)) = 4) ∨ (((q &&& (2147483647 : Int32)) % (5 : Int32)) = 2 ∧ ((r &&& (2147483647 : Int32)) % (5 : Int32)) = 3) ∨ (((q &&& (2147483647 : Int32)) % (5 : Int32)) = 2 ∧ ((r &&& (2147483647 : Int32)) % (5 : Int32)) = 4) ∨ (((q &&& (2147483647 : Int32)) % (5 : Int32)) = 3 ∧ ((r &&& (2147483647 : Int32)) % (5 : Int32)) = 4) := by
  rcases own_mod5 q with a | a | a | a | a <;> rcases own_mod5 r with b | b | b | b | b <;> rw [a, b] at h ⊢ <;> first | exact absurd h (by decide) | decide
def Q5_1 (Z : State) (a1c : Addr) (a2c : Addr) (ka1c : ClassId) (x1c : Int32) (x2c : Int32) (x3c : Int32) (x4c : Int32) (h0 : Heap) (n0 : Nat) (v : Option Value) (h : Heap) (L : List Loc) : Prop := v = some (.int (0 : Int32)) ∧ Fr n0 L ∧ (h = h0)
theorem ef5_rm5_1 (m : MethodId) (a1c : Addr) (a2c : Addr) : entryFrame m #[(.ref a1c), (.int (0 : Int32)), (.ref a2c), (.int (0 : Int32)), (.int (4 : Int32))] 7 = (mkF m 0 #[.val (.ref a1c), .val (.int 0), .val (.ref a2c), .val (.int 0), .val (.int 4), .unset, .unset] []) := by first | (simp [entryFrame, mkF, argsToLocals, Value.category, maxLocals]; done) | rfl
set_option maxRecDepth 65536 in
set_option maxHeartbeats 40000000 in
theorem rm5_1 (l : Launch) (Z : State) (a0 : Array Value) (hw : ∀ d ∈ tables_1, d.before a0 Z = true) (ws : List Jvm.Cond) (a1c : Addr) (a2c : Addr) (ka1c : ClassId) (x1c : Int32) (x2c : Int32) (x3c : Int32) (x4c : Int32) (h0 : Heap) (n0 : Nat) (P0 : Arv Z h0 a1c ka1c .char (4 : Int32) [(.int x1c), (.int x2c), (.int x3c), (.int x4c)] (.int (0 : Int32)))  (ne_a1c_a2c : a1c ≠ a2c) (u0 : (255 : Int32) < x1c)   :
    MetFree l Y5 (head1 (Jvm.Cond.code Y5 jdk_52_method_21_code 7 (some .int) :: ws) ({ frames := 0, cells := 0, slots := 0, locals := 0 } : Room)) (fun a U => a = #[(.ref a1c), (.int (0 : Int32)), (.ref a2c), (.int (0 : Int32)), (.int (4 : Int32))] ∧ Z.Warmed39 U.vm ∧ U.heap = h0) (fun _ _ _ _ _ => True) (fun _ U o U' => ∃ v L, o = .returned v ∧ (Q5_1 Z a1c a2c ka1c x1c x2c x3c x4c h0 n0) v U'.heap L ∧ FrameEnd U o U' L 0 0) := by
  refine MetFree.of_bodySF (plainFor_of_name pn_java_lang_StringUTF16) hisR ?_
  intro p e s m args below meth c s₁ Bd hml0 hP hK
  obtain ⟨rfl, hZ, hh⟩ := hP
  have hx := Bd.exec
  have hby := Bd.bytes
  have hml : c.maxLocals = 7 := hml0
  have hown : s.vm.findClass "java/lang/StringUTF16" = some m.cls := findClass_of_methodNamed Bd.named
  have hnm := (name_of_methodNamed Bd.named Bd.method).1
  have X0 : Stand p l e ({ frames := 0, cells := 0, slots := 0, locals := 0 } : Room) s m #[(.ref a1c), (.int (0 : Int32)), (.ref a2c), (.int (0 : Int32)), (.int (4 : Int32))] below meth c s₁ [] 0 0 := Stand.of_body Bd
  have e0 : s₁.heap = h0 := by rw [← hh, Bd.state]; rfl
  have N0 := Fr.nil n0
  refine GoW.mk ?_
  refine GoW.st (fun t k => castTop (ef5_rm5_1 m a1c a2c) k) ?_
  show GoW p e below s (Q5_1 Z a1c a2c ka1c x1c x2c x3c x4c h0 n0) 0 0 (s₁.setTop (mkF m 0 (Sh3 a1c 0 a2c 0 4) []))
  refine GoW.sg (mkF m 1 (Sh3 a1c 0 a2c 0 4) [(.int 0)]) (fun t k => XS.iconst X0.here hx rfl (hb hby d5_0) k) ?_
  refine GoW.sg (mkF m 3 (Sh4 a1c 0 a2c 0 4 0) []) (fun t k => XS.istore X0.here hx rfl (hb hby d5_1) rfl (l' := (Sh4 a1c 0 a2c 0 4 0)) rfl k) ?_
  refine GoW.sg (mkF m 5 (Sh4 a1c 0 a2c 0 4 0) [(.int 0)]) (fun t k => XS.iload X0.here hx rfl (hb hby d5_3) rfl k) ?_
  refine GoW.sg (mkF m 7 (Sh4 a1c 0 a2c 0 4 0) [(.int 4), (.int 0)]) (fun t k => XS.iload X0.here hx rfl (hb hby d5_5) rfl k) ?_
  refine GoW.sg (mkF m 10 (Sh4 a1c 0 a2c 0 4 0) []) (fun t k => XS.icmpNo X0.here hx rfl (hb hby d5_7) rfl (by decide) k) ?_
  refine GoW.sg (mkF m 11 (Sh4 a1c 0 a2c 0 4 0) [(.ref a1c)]) (fun t k => XS.aloadN X0.here hx rfl (hb hby d5_10) rfl rfl k) ?_
  refine GoW.sg (mkF m 12 (Sh4 a1c 0 a2c 0 4 0) [(.int 0), (.ref a1c)]) (fun t k => XS.iloadN X0.here hx rfl (hb hby d5_11) rfl k) ?_
  obtain ⟨cl6, Ar6, q6, Sz6, Nn6, Hh6, Gg6⟩ := id P0
  have hin6 : ¬ ((0 : Int32) < 0 ∨ cl6.slots.size ≤ ((0 : Int32)).toNatClampNeg) := inb_of Sz6 ⟨by decide, by decide⟩
  refine GoW.sg (mkF m 13 (Sh4 a1c 0 a2c 0 4 0) [(.int x1c)]) (fun t k => X0.caload hx (j := (0 : Int32)) (v := (.int x1c)) (hq_ e0 Ar6.1) (State.isArrayOf_alike hZ.alike Ar6.2.1) Ar6.2.2 hin6 (Hh6.at hin6 rfl) (g := (mkF m 12 (Sh4 a1c 0 a2c 0 4 0) [(.int 0), (.ref a1c)])) rfl rfl (hb hby d5_12) t k) ?_
  refine GoW.sg (mkF m 15 (Sh5 a1c 0 a2c 0 4 0 x1c) []) (fun t k => XS.istore X0.here hx rfl (hb hby d5_13) rfl (l' := (Sh5 a1c 0 a2c 0 4 0 x1c)) rfl k) ?_
  refine GoW.sg (mkF m 17 (Sh5 a1c 0 a2c 0 4 0 x1c) [(.int x1c)]) (fun t k => XS.iload X0.here hx rfl (hb hby d5_15) rfl k) ?_
  refine GoW.sg (mkF m 20 (Sh5 a1c 0 a2c 0 4 0 x1c) [(.int 255), (.int x1c)]) (fun t k => XS.sipush X0.here hx rfl (hb hby d5_17) k) ?_
  refine GoW.sg (mkF m 23 (Sh5 a1c 0 a2c 0 4 0 x1c) []) (fun t k => XS.icmpNo X0.here hx rfl (hb hby d5_20) rfl (tlt u0).2.2.2 k) ?_
  refine GoW.sg (mkF m 25 (Sh5 a1c 0 a2c 0 4 0 x1c) [(.int 0)]) (fun t k => XS.iload X0.here hx rfl (hb hby d5_23) rfl k) ?_
  refine GoW.retI X0 hx Bd.returns (hb hby d5_25) Bd.notSynchronized ?_ (by decide) (by decide)
  rw [e0]
  exact ⟨rfl, N0, rfl⟩
def Q16_2 (Z : State)  (h0 : Heap) (n0 : Nat) (v : Option Value) (h : Heap) (L : List Loc) : Prop := v = some (.int (8 : Int32)) ∧ Fr n0 L ∧ (h = h0)
theorem ef16_rm16_2 (m : MethodId)  : entryFrame m #[(.int (4 : Int32))] 1 = (mkF m 0 #[.val (.int 4)] []) := by first | (simp [entryFrame, mkF, argsToLocals, Value.category, maxLocals]; done) | rfl
set_option maxRecDepth 65536 in
set_option maxHeartbeats 40000000 in
theorem rm16_2 (l : Launch) (Z : State) (a0 : Array Value) (hw : ∀ d ∈ tables_1, d.before a0 Z = true) (ws : List Jvm.Cond)   (h0 : Heap) (n0 : Nat)       :
    MetFree l Y16 (head1 (Jvm.Cond.code Y16 jdk_52_method_3_code 1 (some .int) :: ws) ({ frames := 0, cells := 0, slots := 0, locals := 0 } : Room)) (fun a U => a = #[(.int (4 : Int32))] ∧ Z.Warmed39 U.vm ∧ U.heap = h0) (fun _ _ _ _ _ => True) (fun _ U o U' => ∃ v L, o = .returned v ∧ (Q16_2 Z  h0 n0) v U'.heap L ∧ FrameEnd U o U' L 0 0) := by
  refine MetFree.of_bodySF (plainFor_of_name pn_java_lang_StringUTF16) hisR ?_
  intro p e s m args below meth c s₁ Bd hml0 hP hK
  obtain ⟨rfl, hZ, hh⟩ := hP
  have hx := Bd.exec
  have hby := Bd.bytes
  have hml : c.maxLocals = 1 := hml0
  have hown : s.vm.findClass "java/lang/StringUTF16" = some m.cls := findClass_of_methodNamed Bd.named
  have hnm := (name_of_methodNamed Bd.named Bd.method).1
  have X0 : Stand p l e ({ frames := 0, cells := 0, slots := 0, locals := 0 } : Room) s m #[(.int (4 : Int32))] below meth c s₁ [] 0 0 := Stand.of_body Bd
  have e0 : s₁.heap = h0 := by rw [← hh, Bd.state]; rfl
  have N0 := Fr.nil n0
  refine GoW.mk ?_
  refine GoW.st (fun t k => castTop (ef16_rm16_2 m ) k) ?_
  show GoW p e below s (Q16_2 Z  h0 n0) 0 0 (s₁.setTop (mkF m 0 #[.val (.int 4)] []))
  refine GoW.sg (mkF m 1 #[.val (.int 4)] [(.int 4)]) (fun t k => XS.iloadN X0.here hx rfl (hb hby d16_0) rfl k) ?_
  refine GoW.sg (mkF m 12 #[.val (.int 4)] []) (fun t k => XS.ifYes X0.here hx rfl (pc0 := 1) (pc' := 12) rfl (hb hby d16_1) rfl (by decide) (by decide) (by decide) k) ?_
  refine GoW.sg (mkF m 13 #[.val (.int 4)] [(.int 4)]) (fun t k => XS.iloadN X0.here hx rfl (hb hby d16_12) rfl k) ?_
  refine GoW.sg (mkF m 15 #[.val (.int 4)] [(.int 1073741823), (.int 4)]) (fun t k => X0.ldcInt hx hown (mvT hZ (ww hw 70 rfl)) (g := (mkF m 13 #[.val (.int 4)] [(.int 4)])) rfl (hb hby d16_13) t k) ?_
  refine GoW.sg (mkF m 55 #[.val (.int 4)] []) (fun t k => XS.icmpYes X0.here hx rfl (pc0 := 15) (pc' := 55) rfl (hb hby d16_15) rfl (by decide) (by decide) (by decide) k) ?_
  refine GoW.sg (mkF m 56 #[.val (.int 4)] [(.int 4)]) (fun t k => XS.iloadN X0.here hx rfl (hb hby d16_55) rfl k) ?_
  refine GoW.sg (mkF m 57 #[.val (.int 4)] [(.int 1), (.int 4)]) (fun t k => XS.iconst X0.here hx rfl (hb hby d16_56) k) ?_
  refine GoW.st (fun t k => XS.ishl X0.here hx rfl (hb hby d16_57) rfl k) ?_
  rw [show ((4 : Int32) <<< ((1 : Int32) &&& 31)) = (8 : Int32) from by decide]
  show GoW p e below s (Q16_2 Z  h0 n0) 0 0 (s₁.setTop (mkF m 58 #[.val (.int 4)] [(.int 8)]))
  refine GoW.retI X0 hx Bd.returns (hb hby d16_58) Bd.notSynchronized ?_ (by decide) (by decide)
  rw [e0]
  exact ⟨rfl, N0, rfl⟩
def Q15_3 (Z : State) (x1c : Int32) (h0 : Heap) (n0 : Nat) (v : Option Value) (h : Heap) (L : List Loc) : Prop := ∃ e0 : Addr, ∃ ke0 : ClassId, v = some (.ref e0) ∧ Fr n0 L ∧ (Keep h0 h []) ∧ (Arv Z h e0 ke0 .byte (8 : Int32) [(.int (0 : Int32)), (.int (0 : Int32)), (.int (0 : Int32)), (.int (0 : Int32)), (.int (0 : Int32)), (.int (0 : Int32)), (.int (0 : Int32)), (.int (0 : Int32))] (.int (0 : Int32))) ∧ (h0.size ≤ e0)
theorem ef15_rm15_3 (m : MethodId)  : entryFrame m #[(.int (4 : Int32))] 1 = (mkF m 0 #[.val (.int 4)] []) := by first | (simp [entryFrame, mkF, argsToLocals, Value.category, maxLocals]; done) | rfl
set_option maxRecDepth 65536 in
set_option maxHeartbeats 40000000 in
theorem rm15_3 (l : Launch) (Z : State) (a0 : Array Value) (hw : ∀ d ∈ tables_1, d.before a0 Z = true) (ws : List Jvm.Cond)  (x1c : Int32) (h0 : Heap) (n0 : Nat) (Z0 : n0 ≤ h0.size) (P0 : Sta Z h0 "java/lang/String" "COMPACT_STRINGS" "Z" (.int x1c)) (P1 : Sta Z h0 "java/lang/StringUTF16" "$assertionsDisabled" "Z" (.int (1 : Int32))) (P2 : Sta Z h0 "java/lang/StringUTF16" "HI_BYTE_SHIFT" "I" (.int (0 : Int32))) (P3 : Sta Z h0 "java/lang/StringUTF16" "LO_BYTE_SHIFT" "I" (.int (8 : Int32)))      :
    MetFree l Y15 (head1 (Jvm.Cond.code Y15 jdk_52_method_2_code 1 (some (.array .byte)) :: ws) ({ frames := 1, cells := 1, slots := 8, locals := 12 } : Room)) (fun a U => a = #[(.int (4 : Int32))] ∧ Z.Warmed39 U.vm ∧ U.heap = h0) (fun _ _ _ _ _ => True) (fun _ U o U' => ∃ v L, o = .returned v ∧ (Q15_3 Z x1c h0 n0) v U'.heap L ∧ FrameEnd U o U' L 1 8) := by
  refine MetFree.of_bodySF (plainFor_of_name pn_java_lang_StringUTF16) hisR ?_
  intro p e s m args below meth c s₁ Bd hml0 hP hK
  obtain ⟨rfl, hZ, hh⟩ := hP
  have hx := Bd.exec
  have hby := Bd.bytes
  have hml : c.maxLocals = 1 := hml0
  have hown : s.vm.findClass "java/lang/StringUTF16" = some m.cls := findClass_of_methodNamed Bd.named
  have hnm := (name_of_methodNamed Bd.named Bd.method).1
  have X0 : Stand p l e ({ frames := 1, cells := 1, slots := 8, locals := 12 } : Room) s m #[(.int (4 : Int32))] below meth c s₁ [] 0 0 := Stand.of_body Bd
  have e0 : s₁.heap = h0 := by rw [← hh, Bd.state]; rfl
  have N0 := Fr.nil n0
  refine GoW.mk ?_
  refine GoW.st (fun t k => castTop (ef15_rm15_3 m ) k) ?_
  show GoW p e below s (Q15_3 Z x1c h0 n0) 1 8 (s₁.setTop (mkF m 0 #[.val (.int 4)] []))
  refine GoW.sg (mkF m 1 #[.val (.int 4)] [(.int 4)]) (fun t k => XS.iloadN X0.here hx rfl (hb hby d15_0) rfl k) ?_
  obtain ⟨_, T10, L10, X10, hQ10, st10⟩ := own_callS X0 hx hZ hown (y := Y16) (ww hw 67 rfl) (ww hw 68 rfl) (ww hw 17 rfl) (ww hw 69 rfl) (by decide) 0 (rm16_2 l Z a0 hw []   h0 n0      ) (by decide) (by decide) e0 (by decide) (by decide) (g := (mkF m 1 #[.val (.int 4)] [(.int 4)])) rfl (by rw [hml]; rfl) (argsL := [(.int (4 : Int32))]) (rest := []) (lenOf pd_28I29I rfl) rfl (by show 2 * 0 + _ ≤ _; exact Nat.le_of_eq rfl) (hb hby d15_1)
  obtain ⟨rfl, N10q, e10⟩ := hQ10
  have N10 := Fr.app N0 N10q
  refine GoW.sg (mkF m 4 #[.val (.int 4)] [(.int 8)]) (fun t k => st10 t k) ?_
  obtain ⟨T11, h11, k11, X11, e11, E11, A11, st11⟩ := newP X10 hx hZ (ww hw 19 rfl) e10 (g := (mkF m 4 #[.val (.int 4)] [(.int 8)])) rfl (hb hby d15_4) rfl (by decide) (cap := 8) (by decide) (by decide) (by decide) (by decide)
  obtain ⟨b11, g11⟩ : ∃ z, z = h0.size := ⟨_, rfl⟩
  rw [← g11] at A11 st11
  have g_b11 : n0 ≤ b11 := Nat.le_trans Z0 (Nat.le_of_eq g11.symm)
  have sz_b11 : h0.size ≤ b11 := Nat.le_trans (Keep.refl h0 []).1 (Nat.le_of_eq g11.symm)
  have f11_1 := P0.ext E11
  have f11_2 := P1.ext E11
  have f11_3 := P2.ext E11
  have f11_4 := P3.ext E11
  have f11_5 := (Keep.refl h0 []).ext E11
  have f11_6 := Nat.le_trans Z0 E11.1
  have V11 : Arv Z h11 b11 k11 .byte (8 : Int32) [(.int (0 : Int32)), (.int (0 : Int32)), (.int (0 : Int32)), (.int (0 : Int32)), (.int (0 : Int32)), (.int (0 : Int32)), (.int (0 : Int32)), (.int (0 : Int32))] (.int (0 : Int32)) := (Arv.new A11 (by decide)).pad (pad_rep [] (.int (0 : Int32)) 8)
  refine GoW.sg (mkF m 6 #[.val (.int 4)] [(.ref b11)]) (fun t k => st11 t k) ?_
  refine GoW.retA X11 hx Bd.returns rfl rfl rfl (hb hby d15_6) Bd.notSynchronized ?_ (by decide) (by decide)
  rw [e11]
  exact ⟨b11, k11, rfl, N10, f11_5, V11, sz_b11⟩
def Q17_4 (Z : State) (a1c : Addr) (x1c : Int32) (ka1c : ClassId) (x2c : Int32) (h0 : Heap) (n0 : Nat) (v : Option Value) (h : Heap) (L : List Loc) : Prop := v = none ∧ Fr n0 L ∧ (Keep h0 h [a1c]) ∧ (Arv Z h a1c ka1c .byte (8 : Int32) [(.int (lo8 x1c)), (.int (hi8 x1c)), (.int (0 : Int32)), (.int (0 : Int32)), (.int (0 : Int32)), (.int (0 : Int32)), (.int (0 : Int32)), (.int (0 : Int32))] (.int (0 : Int32)))
theorem ef17_rm17_4 (m : MethodId) (a1c : Addr) (x1c : Int32) : entryFrame m #[(.ref a1c), (.int (0 : Int32)), (.int x1c)] 3 = (mkF m 0 #[.val (.ref a1c), .val (.int 0), .val (.int x1c)] []) := by first | (simp [entryFrame, mkF, argsToLocals, Value.category, maxLocals]; done) | rfl
set_option maxRecDepth 65536 in
set_option maxHeartbeats 40000000 in
theorem rm17_4 (l : Launch) (Z : State) (a0 : Array Value) (hw : ∀ d ∈ tables_1, d.before a0 Z = true) (ws : List Jvm.Cond) (a1c : Addr) (x1c : Int32) (ka1c : ClassId) (x2c : Int32) (h0 : Heap) (n0 : Nat) (P0 : Arv Z h0 a1c ka1c .byte (8 : Int32) [(.int (0 : Int32)), (.int (0 : Int32)), (.int (0 : Int32)), (.int (0 : Int32)), (.int (0 : Int32)), (.int (0 : Int32)), (.int (0 : Int32)), (.int (0 : Int32))] (.int (0 : Int32))) (P1 : Sta Z h0 "java/lang/String" "COMPACT_STRINGS" "Z" (.int x2c)) (P2 : Sta Z h0 "java/lang/StringUTF16" "$assertionsDisabled" "Z" (.int (1 : Int32))) (P3 : Sta Z h0 "java/lang/StringUTF16" "HI_BYTE_SHIFT" "I" (.int (0 : Int32))) (P4 : Sta Z h0 "java/lang/StringUTF16" "LO_BYTE_SHIFT" "I" (.int (8 : Int32))) (g_a1c : n0 ≤ a1c)     :
    MetFree l Y17 (head1 (Jvm.Cond.code Y17 jdk_52_method_4_code 3 none :: ws) ({ frames := 0, cells := 0, slots := 0, locals := 0 } : Room)) (fun a U => a = #[(.ref a1c), (.int (0 : Int32)), (.int x1c)] ∧ Z.Warmed39 U.vm ∧ U.heap = h0) (fun _ _ _ _ _ => True) (fun _ U o U' => ∃ v L, o = .returned v ∧ (Q17_4 Z a1c x1c ka1c x2c h0 n0) v U'.heap L ∧ FrameEnd U o U' L 0 0) := by
  refine MetFree.of_bodySF (plainFor_of_name pn_java_lang_StringUTF16) hisR ?_
  intro p e s m args below meth c s₁ Bd hml0 hP hK
  obtain ⟨rfl, hZ, hh⟩ := hP
  have hx := Bd.exec
  have hby := Bd.bytes
  have hml : c.maxLocals = 3 := hml0
  have hown : s.vm.findClass "java/lang/StringUTF16" = some m.cls := findClass_of_methodNamed Bd.named
  have hnm := (name_of_methodNamed Bd.named Bd.method).1
  have X0 : Stand p l e ({ frames := 0, cells := 0, slots := 0, locals := 0 } : Room) s m #[(.ref a1c), (.int (0 : Int32)), (.int x1c)] below meth c s₁ [] 0 0 := Stand.of_body Bd
  have e0 : s₁.heap = h0 := by rw [← hh, Bd.state]; rfl
  have N0 := Fr.nil n0
  refine GoW.mk ?_
  refine GoW.st (fun t k => castTop (ef17_rm17_4 m a1c x1c) k) ?_
  show GoW p e below s (Q17_4 Z a1c x1c ka1c x2c h0 n0) 0 0 (s₁.setTop (mkF m 0 (Sh10 a1c 0 x1c) []))
  obtain ⟨T19, X19, e19, st19⟩ := getS (host := "") X0 hx hZ hown (ww hw 74 rfl) Via.refl e0 P2 (g := (mkF m 0 (Sh10 a1c 0 x1c) [])) rfl (hb hby d17_0)
  refine GoW.sg (mkF m 3 (Sh10 a1c 0 x1c) [(.int 1)]) (fun t k => st19 t k) ?_
  refine GoW.sg (mkF m 28 (Sh10 a1c 0 x1c) []) (fun t k => XS.ifYes X19.here hx rfl (pc0 := 3) (pc' := 28) rfl (hb hby d17_3) rfl (by decide) (by decide) (by decide) k) ?_
  refine GoW.sg (mkF m 29 (Sh10 a1c 0 x1c) [(.int 0)]) (fun t k => XS.iloadN X19.here hx rfl (hb hby d17_28) rfl k) ?_
  refine GoW.sg (mkF m 30 (Sh10 a1c 0 x1c) [(.int 1), (.int 0)]) (fun t k => XS.iconst X19.here hx rfl (hb hby d17_29) k) ?_
  refine GoW.st (fun t k => XS.ishl X19.here hx rfl (hb hby d17_30) rfl k) ?_
  rw [show ((0 : Int32) <<< ((1 : Int32) &&& 31)) = (0 : Int32) from by decide]
  show GoW p e below s (Q17_4 Z a1c x1c ka1c x2c h0 n0) 0 0 (T19.setTop (mkF m 31 (Sh10 a1c 0 x1c) [(.int 0)]))
  refine GoW.sg (mkF m 32 (Sh10 a1c 0 x1c) []) (fun t k => XS.istoreN X19.here hx rfl (hb hby d17_31) rfl (l' := (Sh10 a1c 0 x1c)) rfl k) ?_
  refine GoW.sg (mkF m 33 (Sh10 a1c 0 x1c) [(.ref a1c)]) (fun t k => XS.aloadN X19.here hx rfl (hb hby d17_32) rfl rfl k) ?_
  refine GoW.sg (mkF m 34 (Sh10 a1c 0 x1c) [(.int 0), (.ref a1c)]) (fun t k => XS.iloadN X19.here hx rfl (hb hby d17_33) rfl k) ?_
  refine GoW.sg (mkF m 37 (Sh10 a1c 1 x1c) [(.int 0), (.ref a1c)]) (fun t k => XS.iinc X19.here hx rfl (hb hby d17_34) rfl (l' := (Sh10 a1c 1 x1c)) rfl k) ?_
  refine GoW.sg (mkF m 38 (Sh10 a1c 1 x1c) [(.int x1c), (.int 0), (.ref a1c)]) (fun t k => XS.iloadN X19.here hx rfl (hb hby d17_37) rfl k) ?_
  obtain ⟨T20, X20, e20, st20⟩ := getS (host := "") X19 hx hZ hown (ww hw 75 rfl) Via.refl e19 P3 (g := (mkF m 38 (Sh10 a1c 1 x1c) [(.int x1c), (.int 0), (.ref a1c)])) rfl (hb hby d17_38)
  refine GoW.sg (mkF m 41 (Sh10 a1c 1 x1c) [(.int 0), (.int x1c), (.int 0), (.ref a1c)]) (fun t k => st20 t k) ?_
  refine GoW.sg (mkF m 42 (Sh10 a1c 1 x1c) [(.int (x1c >>> ((0 : Int32) &&& 31))), (.int 0), (.ref a1c)]) (fun t k => XS.ishr X20.here hx rfl (hb hby d17_41) rfl k) ?_
  refine GoW.sg (mkF m 43 (Sh10 a1c 1 x1c) [(.int (x1c >>> ((0 : Int32) &&& 31)).toInt8.toInt32), (.int 0), (.ref a1c)]) (fun t k => XS.i2b X20.here hx rfl (hb hby d17_42) rfl k) ?_
  obtain ⟨cl21, Ar21, q21, Sz21, Nn21, Hh21, Gg21⟩ := P0
  have hin21 : ¬ ((0 : Int32) < 0 ∨ cl21.slots.size ≤ ((0 : Int32)).toNatClampNeg) := inb_of Sz21 ⟨by decide, by decide⟩
  obtain ⟨T21, h21, X21, e21, W21, st21⟩ := stB X20 hx hZ e20 Ar21 (j := (0 : Int32)) hin21 (g := (mkF m 43 (Sh10 a1c 1 x1c) [(.int (x1c >>> ((0 : Int32) &&& 31)).toInt8.toInt32), (.int 0), (.ref a1c)])) rfl rfl (hb hby d17_43)
  have f21_1 := P1.wr W21
  have f21_2 := P2.wr W21
  have f21_3 := P3.wr W21
  have f21_4 := P4.wr W21
  have f21_5 := (Keep.refl h0 [a1c]).wr W21 (Or.inl (List.mem_of_getElem? (i := 0) rfl))
  have V21 : Arv Z h21 a1c ka1c .byte (8 : Int32) [(.int (lo8 x1c)), (.int (0 : Int32)), (.int (0 : Int32)), (.int (0 : Int32)), (.int (0 : Int32)), (.int (0 : Int32)), (.int (0 : Int32)), (.int (0 : Int32))] (.int (0 : Int32)) := Arv.set Ar21 q21 Sz21 Nn21 Hh21 Gg21 (fits_nar_byte _) W21 0 rfl (Nat.le_of_ble_eq_true rfl)
  have N21 := Fr.snoc X21 N0 g_a1c
  refine GoW.sg (mkF m 44 (Sh10 a1c 1 x1c) []) (fun t k => st21 t k) ?_
  refine GoW.sg (mkF m 45 (Sh10 a1c 1 x1c) [(.ref a1c)]) (fun t k => XS.aloadN X21.here hx rfl (hb hby d17_44) rfl rfl k) ?_
  refine GoW.sg (mkF m 46 (Sh10 a1c 1 x1c) [(.int 1), (.ref a1c)]) (fun t k => XS.iloadN X21.here hx rfl (hb hby d17_45) rfl k) ?_
  refine GoW.sg (mkF m 47 (Sh10 a1c 1 x1c) [(.int x1c), (.int 1), (.ref a1c)]) (fun t k => XS.iloadN X21.here hx rfl (hb hby d17_46) rfl k) ?_
  obtain ⟨T22, X22, e22, st22⟩ := getS (host := "") X21 hx hZ hown (ww hw 76 rfl) Via.refl e21 f21_4 (g := (mkF m 47 (Sh10 a1c 1 x1c) [(.int x1c), (.int 1), (.ref a1c)])) rfl (hb hby d17_47)
  refine GoW.sg (mkF m 50 (Sh10 a1c 1 x1c) [(.int 8), (.int x1c), (.int 1), (.ref a1c)]) (fun t k => st22 t k) ?_
  refine GoW.sg (mkF m 51 (Sh10 a1c 1 x1c) [(.int (x1c >>> ((8 : Int32) &&& 31))), (.int 1), (.ref a1c)]) (fun t k => XS.ishr X22.here hx rfl (hb hby d17_50) rfl k) ?_
  refine GoW.sg (mkF m 52 (Sh10 a1c 1 x1c) [(.int (x1c >>> ((8 : Int32) &&& 31)).toInt8.toInt32), (.int 1), (.ref a1c)]) (fun t k => XS.i2b X22.here hx rfl (hb hby d17_51) rfl k) ?_
  obtain ⟨cl23, Ar23, q23, Sz23, Nn23, Hh23, Gg23⟩ := V21
  have hin23 : ¬ ((1 : Int32) < 0 ∨ cl23.slots.size ≤ ((1 : Int32)).toNatClampNeg) := inb_of Sz23 ⟨by decide, by decide⟩
  obtain ⟨T23, h23, X23, e23, W23, st23⟩ := stB X22 hx hZ e22 Ar23 (j := (1 : Int32)) hin23 (g := (mkF m 52 (Sh10 a1c 1 x1c) [(.int (x1c >>> ((8 : Int32) &&& 31)).toInt8.toInt32), (.int 1), (.ref a1c)])) rfl rfl (hb hby d17_52)
  have f23_6 := f21_1.wr W23
  have f23_7 := f21_2.wr W23
  have f23_8 := f21_3.wr W23
  have f23_9 := f21_4.wr W23
  have f23_10 := f21_5.wr W23 (Or.inl (List.mem_of_getElem? (i := 0) rfl))
  have V23 : Arv Z h23 a1c ka1c .byte (8 : Int32) [(.int (lo8 x1c)), (.int (hi8 x1c)), (.int (0 : Int32)), (.int (0 : Int32)), (.int (0 : Int32)), (.int (0 : Int32)), (.int (0 : Int32)), (.int (0 : Int32))] (.int (0 : Int32)) := Arv.set Ar23 q23 Sz23 Nn23 Hh23 Gg23 (fits_nar_byte _) W23 1 rfl (Nat.le_of_ble_eq_true rfl)
  have N23 := Fr.snoc X23 N21 g_a1c
  refine GoW.sg (mkF m 53 (Sh10 a1c 1 x1c) []) (fun t k => st23 t k) ?_
  refine GoW.retV X23 hx Bd.returns (hb hby d17_53) Bd.notSynchronized ?_ (by decide) (by decide)
  rw [e23]
  exact ⟨rfl, N23, f23_10, V23⟩
def Q17_5 (Z : State) (a1c : Addr) (x1c : Int32) (ka1c : ClassId) (x2c : Int32) (x3c : Int32) (x4c : Int32) (h0 : Heap) (n0 : Nat) (v : Option Value) (h : Heap) (L : List Loc) : Prop := v = none ∧ Fr n0 L ∧ (Keep h0 h [a1c]) ∧ (Arv Z h a1c ka1c .byte (8 : Int32) [(.int x2c), (.int x3c), (.int (lo8 x1c)), (.int (hi8 x1c)), (.int (0 : Int32)), (.int (0 : Int32)), (.int (0 : Int32)), (.int (0 : Int32))] (.int (0 : Int32)))
theorem ef17_rm17_5 (m : MethodId) (a1c : Addr) (x1c : Int32) : entryFrame m #[(.ref a1c), (.int (1 : Int32)), (.int x1c)] 3 = (mkF m 0 #[.val (.ref a1c), .val (.int 1), .val (.int x1c)] []) := by first | (simp [entryFrame, mkF, argsToLocals, Value.category, maxLocals]; done) | rfl
set_option maxRecDepth 65536 in
set_option maxHeartbeats 40000000 in
theorem rm17_5 (l : Launch) (Z : State) (a0 : Array Value) (hw : ∀ d ∈ tables_1, d.before a0 Z = true) (ws : List Jvm.Cond) (a1c : Addr) (x1c : Int32) (ka1c : ClassId) (x2c : Int32) (x3c : Int32) (x4c : Int32) (h0 : Heap) (n0 : Nat) (P0 : Arv Z h0 a1c ka1c .byte (8 : Int32) [(.int x2c), (.int x3c), (.int (0 : Int32)), (.int (0 : Int32)), (.int (0 : Int32)), (.int (0 : Int32)), (.int (0 : Int32)), (.int (0 : Int32))] (.int (0 : Int32))) (P1 : Sta Z h0 "java/lang/String" "COMPACT_STRINGS" "Z" (.int x4c)) (P2 : Sta Z h0 "java/lang/StringUTF16" "$assertionsDisabled" "Z" (.int (1 : Int32))) (P3 : Sta Z h0 "java/lang/StringUTF16" "HI_BYTE_SHIFT" "I" (.int (0 : Int32))) (P4 : Sta Z h0 "java/lang/StringUTF16" "LO_BYTE_SHIFT" "I" (.int (8 : Int32))) (g_a1c : n0 ≤ a1c)     :
    MetFree l Y17 (head1 (Jvm.Cond.code Y17 jdk_52_method_4_code 3 none :: ws) ({ frames := 0, cells := 0, slots := 0, locals := 0 } : Room)) (fun a U => a = #[(.ref a1c), (.int (1 : Int32)), (.int x1c)] ∧ Z.Warmed39 U.vm ∧ U.heap = h0) (fun _ _ _ _ _ => True) (fun _ U o U' => ∃ v L, o = .returned v ∧ (Q17_5 Z a1c x1c ka1c x2c x3c x4c h0 n0) v U'.heap L ∧ FrameEnd U o U' L 0 0) := by
  refine MetFree.of_bodySF (plainFor_of_name pn_java_lang_StringUTF16) hisR ?_
  intro p e s m args below meth c s₁ Bd hml0 hP hK
  obtain ⟨rfl, hZ, hh⟩ := hP
  have hx := Bd.exec
  have hby := Bd.bytes
  have hml : c.maxLocals = 3 := hml0
  have hown : s.vm.findClass "java/lang/StringUTF16" = some m.cls := findClass_of_methodNamed Bd.named
  have hnm := (name_of_methodNamed Bd.named Bd.method).1
  have X0 : Stand p l e ({ frames := 0, cells := 0, slots := 0, locals := 0 } : Room) s m #[(.ref a1c), (.int (1 : Int32)), (.int x1c)] below meth c s₁ [] 0 0 := Stand.of_body Bd
  have e0 : s₁.heap = h0 := by rw [← hh, Bd.state]; rfl
  have N0 := Fr.nil n0
  refine GoW.mk ?_
  refine GoW.st (fun t k => castTop (ef17_rm17_5 m a1c x1c) k) ?_
  show GoW p e below s (Q17_5 Z a1c x1c ka1c x2c x3c x4c h0 n0) 0 0 (s₁.setTop (mkF m 0 (Sh10 a1c 1 x1c) []))
  obtain ⟨T31, X31, e31, st31⟩ := getS (host := "") X0 hx hZ hown (ww hw 74 rfl) Via.refl e0 P2 (g := (mkF m 0 (Sh10 a1c 1 x1c) [])) rfl (hb hby d17_0)
  refine GoW.sg (mkF m 3 (Sh10 a1c 1 x1c) [(.int 1)]) (fun t k => st31 t k) ?_
  refine GoW.sg (mkF m 28 (Sh10 a1c 1 x1c) []) (fun t k => XS.ifYes X31.here hx rfl (pc0 := 3) (pc' := 28) rfl (hb hby d17_3) rfl (by decide) (by decide) (by decide) k) ?_
  refine GoW.sg (mkF m 29 (Sh10 a1c 1 x1c) [(.int 1)]) (fun t k => XS.iloadN X31.here hx rfl (hb hby d17_28) rfl k) ?_
  refine GoW.sg (mkF m 30 (Sh10 a1c 1 x1c) [(.int 1), (.int 1)]) (fun t k => XS.iconst X31.here hx rfl (hb hby d17_29) k) ?_
  refine GoW.st (fun t k => XS.ishl X31.here hx rfl (hb hby d17_30) rfl k) ?_
  rw [show ((1 : Int32) <<< ((1 : Int32) &&& 31)) = (2 : Int32) from by decide]
  show GoW p e below s (Q17_5 Z a1c x1c ka1c x2c x3c x4c h0 n0) 0 0 (T31.setTop (mkF m 31 (Sh10 a1c 1 x1c) [(.int 2)]))
  refine GoW.sg (mkF m 32 (Sh10 a1c 2 x1c) []) (fun t k => XS.istoreN X31.here hx rfl (hb hby d17_31) rfl (l' := (Sh10 a1c 2 x1c)) rfl k) ?_
  refine GoW.sg (mkF m 33 (Sh10 a1c 2 x1c) [(.ref a1c)]) (fun t k => XS.aloadN X31.here hx rfl (hb hby d17_32) rfl rfl k) ?_
  refine GoW.sg (mkF m 34 (Sh10 a1c 2 x1c) [(.int 2), (.ref a1c)]) (fun t k => XS.iloadN X31.here hx rfl (hb hby d17_33) rfl k) ?_
  refine GoW.sg (mkF m 37 (Sh10 a1c 3 x1c) [(.int 2), (.ref a1c)]) (fun t k => XS.iinc X31.here hx rfl (hb hby d17_34) rfl (l' := (Sh10 a1c 3 x1c)) rfl k) ?_
  refine GoW.sg (mkF m 38 (Sh10 a1c 3 x1c) [(.int x1c), (.int 2), (.ref a1c)]) (fun t k => XS.iloadN X31.here hx rfl (hb hby d17_37) rfl k) ?_
  obtain ⟨T32, X32, e32, st32⟩ := getS (host := "") X31 hx hZ hown (ww hw 75 rfl) Via.refl e31 P3 (g := (mkF m 38 (Sh10 a1c 3 x1c) [(.int x1c), (.int 2), (.ref a1c)])) rfl (hb hby d17_38)
  refine GoW.sg (mkF m 41 (Sh10 a1c 3 x1c) [(.int 0), (.int x1c), (.int 2), (.ref a1c)]) (fun t k => st32 t k) ?_
  refine GoW.sg (mkF m 42 (Sh10 a1c 3 x1c) [(.int (x1c >>> ((0 : Int32) &&& 31))), (.int 2), (.ref a1c)]) (fun t k => XS.ishr X32.here hx rfl (hb hby d17_41) rfl k) ?_
  refine GoW.sg (mkF m 43 (Sh10 a1c 3 x1c) [(.int (x1c >>> ((0 : Int32) &&& 31)).toInt8.toInt32), (.int 2), (.ref a1c)]) (fun t k => XS.i2b X32.here hx rfl (hb hby d17_42) rfl k) ?_
  obtain ⟨cl33, Ar33, q33, Sz33, Nn33, Hh33, Gg33⟩ := P0
  have hin33 : ¬ ((2 : Int32) < 0 ∨ cl33.slots.size ≤ ((2 : Int32)).toNatClampNeg) := inb_of Sz33 ⟨by decide, by decide⟩
  obtain ⟨T33, h33, X33, e33, W33, st33⟩ := stB X32 hx hZ e32 Ar33 (j := (2 : Int32)) hin33 (g := (mkF m 43 (Sh10 a1c 3 x1c) [(.int (x1c >>> ((0 : Int32) &&& 31)).toInt8.toInt32), (.int 2), (.ref a1c)])) rfl rfl (hb hby d17_43)
  have f33_1 := P1.wr W33
  have f33_2 := P2.wr W33
  have f33_3 := P3.wr W33
  have f33_4 := P4.wr W33
  have f33_5 := (Keep.refl h0 [a1c]).wr W33 (Or.inl (List.mem_of_getElem? (i := 0) rfl))
  have V33 : Arv Z h33 a1c ka1c .byte (8 : Int32) [(.int x2c), (.int x3c), (.int (lo8 x1c)), (.int (0 : Int32)), (.int (0 : Int32)), (.int (0 : Int32)), (.int (0 : Int32)), (.int (0 : Int32))] (.int (0 : Int32)) := Arv.set Ar33 q33 Sz33 Nn33 Hh33 Gg33 (fits_nar_byte _) W33 2 rfl (Nat.le_of_ble_eq_true rfl)
  have N33 := Fr.snoc X33 N0 g_a1c
  refine GoW.sg (mkF m 44 (Sh10 a1c 3 x1c) []) (fun t k => st33 t k) ?_
  refine GoW.sg (mkF m 45 (Sh10 a1c 3 x1c) [(.ref a1c)]) (fun t k => XS.aloadN X33.here hx rfl (hb hby d17_44) rfl rfl k) ?_
  refine GoW.sg (mkF m 46 (Sh10 a1c 3 x1c) [(.int 3), (.ref a1c)]) (fun t k => XS.iloadN X33.here hx rfl (hb hby d17_45) rfl k) ?_
  refine GoW.sg (mkF m 47 (Sh10 a1c 3 x1c) [(.int x1c), (.int 3), (.ref a1c)]) (fun t k => XS.iloadN X33.here hx rfl (hb hby d17_46) rfl k) ?_
  obtain ⟨T34, X34, e34, st34⟩ := getS (host := "") X33 hx hZ hown (ww hw 76 rfl) Via.refl e33 f33_4 (g := (mkF m 47 (Sh10 a1c 3 x1c) [(.int x1c), (.int 3), (.ref a1c)])) rfl (hb hby d17_47)
  refine GoW.sg (mkF m 50 (Sh10 a1c 3 x1c) [(.int 8), (.int x1c), (.int 3), (.ref a1c)]) (fun t k => st34 t k) ?_
  refine GoW.sg (mkF m 51 (Sh10 a1c 3 x1c) [(.int (x1c >>> ((8 : Int32) &&& 31))), (.int 3), (.ref a1c)]) (fun t k => XS.ishr X34.here hx rfl (hb hby d17_50) rfl k) ?_
  refine GoW.sg (mkF m 52 (Sh10 a1c 3 x1c) [(.int (x1c >>> ((8 : Int32) &&& 31)).toInt8.toInt32), (.int 3), (.ref a1c)]) (fun t k => XS.i2b X34.here hx rfl (hb hby d17_51) rfl k) ?_
  obtain ⟨cl35, Ar35, q35, Sz35, Nn35, Hh35, Gg35⟩ := V33
  have hin35 : ¬ ((3 : Int32) < 0 ∨ cl35.slots.size ≤ ((3 : Int32)).toNatClampNeg) := inb_of Sz35 ⟨by decide, by decide⟩
  obtain ⟨T35, h35, X35, e35, W35, st35⟩ := stB X34 hx hZ e34 Ar35 (j := (3 : Int32)) hin35 (g := (mkF m 52 (Sh10 a1c 3 x1c) [(.int (x1c >>> ((8 : Int32) &&& 31)).toInt8.toInt32), (.int 3), (.ref a1c)])) rfl rfl (hb hby d17_52)
  have f35_6 := f33_1.wr W35
  have f35_7 := f33_2.wr W35
  have f35_8 := f33_3.wr W35
  have f35_9 := f33_4.wr W35
  have f35_10 := f33_5.wr W35 (Or.inl (List.mem_of_getElem? (i := 0) rfl))
  have V35 : Arv Z h35 a1c ka1c .byte (8 : Int32) [(.int x2c), (.int x3c), (.int (lo8 x1c)), (.int (hi8 x1c)), (.int (0 : Int32)), (.int (0 : Int32)), (.int (0 : Int32)), (.int (0 : Int32))] (.int (0 : Int32)) := Arv.set Ar35 q35 Sz35 Nn35 Hh35 Gg35 (fits_nar_byte _) W35 3 rfl (Nat.le_of_ble_eq_true rfl)
  have N35 := Fr.snoc X35 N33 g_a1c
  refine GoW.sg (mkF m 53 (Sh10 a1c 3 x1c) []) (fun t k => st35 t k) ?_
  refine GoW.retV X35 hx Bd.returns (hb hby d17_53) Bd.notSynchronized ?_ (by decide) (by decide)
  rw [e35]
  exact ⟨rfl, N35, f35_10, V35⟩
def Q17_6 (Z : State) (a1c : Addr) (x1c : Int32) (ka1c : ClassId) (x2c : Int32) (x3c : Int32) (x4c : Int32) (x5c : Int32) (x6c : Int32) (h0 : Heap) (n0 : Nat) (v : Option Value) (h : Heap) (L : List Loc) : Prop := v = none ∧ Fr n0 L ∧ (Keep h0 h [a1c]) ∧ (Arv Z h a1c ka1c .byte (8 : Int32) [(.int x2c), (.int x3c), (.int x4c), (.int x5c), (.int (lo8 x1c)), (.int (hi8 x1c)), (.int (0 : Int32)), (.int (0 : Int32))] (.int (0 : Int32)))
theorem ef17_rm17_6 (m : MethodId) (a1c : Addr) (x1c : Int32) : entryFrame m #[(.ref a1c), (.int (2 : Int32)), (.int x1c)] 3 = (mkF m 0 #[.val (.ref a1c), .val (.int 2), .val (.int x1c)] []) := by first | (simp [entryFrame, mkF, argsToLocals, Value.category, maxLocals]; done) | rfl
set_option maxRecDepth 65536 in
set_option maxHeartbeats 40000000 in
theorem rm17_6 (l : Launch) (Z : State) (a0 : Array Value) (hw : ∀ d ∈ tables_1, d.before a0 Z = true) (ws : List Jvm.Cond) (a1c : Addr) (x1c : Int32) (ka1c : ClassId) (x2c : Int32) (x3c : Int32) (x4c : Int32) (x5c : Int32) (x6c : Int32) (h0 : Heap) (n0 : Nat) (P0 : Arv Z h0 a1c ka1c .byte (8 : Int32) [(.int x2c), (.int x3c), (.int x4c), (.int x5c), (.int (0 : Int32)), (.int (0 : Int32)), (.int (0 : Int32)), (.int (0 : Int32))] (.int (0 : Int32))) (P1 : Sta Z h0 "java/lang/String" "COMPACT_STRINGS" "Z" (.int x6c)) (P2 : Sta Z h0 "java/lang/StringUTF16" "$assertionsDisabled" "Z" (.int (1 : Int32))) (P3 : Sta Z h0 "java/lang/StringUTF16" "HI_BYTE_SHIFT" "I" (.int (0 : Int32))) (P4 : Sta Z h0 "java/lang/StringUTF16" "LO_BYTE_SHIFT" "I" (.int (8 : Int32))) (g_a1c : n0 ≤ a1c)     :
    MetFree l Y17 (head1 (Jvm.Cond.code Y17 jdk_52_method_4_code 3 none :: ws) ({ frames := 0, cells := 0, slots := 0, locals := 0 } : Room)) (fun a U => a = #[(.ref a1c), (.int (2 : Int32)), (.int x1c)] ∧ Z.Warmed39 U.vm ∧ U.heap = h0) (fun _ _ _ _ _ => True) (fun _ U o U' => ∃ v L, o = .returned v ∧ (Q17_6 Z a1c x1c ka1c x2c x3c x4c x5c x6c h0 n0) v U'.heap L ∧ FrameEnd U o U' L 0 0) := by
  refine MetFree.of_bodySF (plainFor_of_name pn_java_lang_StringUTF16) hisR ?_
  intro p e s m args below meth c s₁ Bd hml0 hP hK
  obtain ⟨rfl, hZ, hh⟩ := hP
  have hx := Bd.exec
  have hby := Bd.bytes
  have hml : c.maxLocals = 3 := hml0
  have hown : s.vm.findClass "java/lang/StringUTF16" = some m.cls := findClass_of_methodNamed Bd.named
  have hnm := (name_of_methodNamed Bd.named Bd.method).1
  have X0 : Stand p l e ({ frames := 0, cells := 0, slots := 0, locals := 0 } : Room) s m #[(.ref a1c), (.int (2 : Int32)), (.int x1c)] below meth c s₁ [] 0 0 := Stand.of_body Bd
  have e0 : s₁.heap = h0 := by rw [← hh, Bd.state]; rfl
  have N0 := Fr.nil n0
  refine GoW.mk ?_
  refine GoW.st (fun t k => castTop (ef17_rm17_6 m a1c x1c) k) ?_
  show GoW p e below s (Q17_6 Z a1c x1c ka1c x2c x3c x4c x5c x6c h0 n0) 0 0 (s₁.setTop (mkF m 0 (Sh10 a1c 2 x1c) []))
  obtain ⟨T43, X43, e43, st43⟩ := getS (host := "") X0 hx hZ hown (ww hw 74 rfl) Via.refl e0 P2 (g := (mkF m 0 (Sh10 a1c 2 x1c) [])) rfl (hb hby d17_0)
  refine GoW.sg (mkF m 3 (Sh10 a1c 2 x1c) [(.int 1)]) (fun t k => st43 t k) ?_
  refine GoW.sg (mkF m 28 (Sh10 a1c 2 x1c) []) (fun t k => XS.ifYes X43.here hx rfl (pc0 := 3) (pc' := 28) rfl (hb hby d17_3) rfl (by decide) (by decide) (by decide) k) ?_
  refine GoW.sg (mkF m 29 (Sh10 a1c 2 x1c) [(.int 2)]) (fun t k => XS.iloadN X43.here hx rfl (hb hby d17_28) rfl k) ?_
  refine GoW.sg (mkF m 30 (Sh10 a1c 2 x1c) [(.int 1), (.int 2)]) (fun t k => XS.iconst X43.here hx rfl (hb hby d17_29) k) ?_
  refine GoW.st (fun t k => XS.ishl X43.here hx rfl (hb hby d17_30) rfl k) ?_
  rw [show ((2 : Int32) <<< ((1 : Int32) &&& 31)) = (4 : Int32) from by decide]
  show GoW p e below s (Q17_6 Z a1c x1c ka1c x2c x3c x4c x5c x6c h0 n0) 0 0 (T43.setTop (mkF m 31 (Sh10 a1c 2 x1c) [(.int 4)]))
  refine GoW.sg (mkF m 32 (Sh10 a1c 4 x1c) []) (fun t k => XS.istoreN X43.here hx rfl (hb hby d17_31) rfl (l' := (Sh10 a1c 4 x1c)) rfl k) ?_
  refine GoW.sg (mkF m 33 (Sh10 a1c 4 x1c) [(.ref a1c)]) (fun t k => XS.aloadN X43.here hx rfl (hb hby d17_32) rfl rfl k) ?_
  refine GoW.sg (mkF m 34 (Sh10 a1c 4 x1c) [(.int 4), (.ref a1c)]) (fun t k => XS.iloadN X43.here hx rfl (hb hby d17_33) rfl k) ?_
  refine GoW.sg (mkF m 37 (Sh10 a1c 5 x1c) [(.int 4), (.ref a1c)]) (fun t k => XS.iinc X43.here hx rfl (hb hby d17_34) rfl (l' := (Sh10 a1c 5 x1c)) rfl k) ?_
  refine GoW.sg (mkF m 38 (Sh10 a1c 5 x1c) [(.int x1c), (.int 4), (.ref a1c)]) (fun t k => XS.iloadN X43.here hx rfl (hb hby d17_37) rfl k) ?_
  obtain ⟨T44, X44, e44, st44⟩ := getS (host := "") X43 hx hZ hown (ww hw 75 rfl) Via.refl e43 P3 (g := (mkF m 38 (Sh10 a1c 5 x1c) [(.int x1c), (.int 4), (.ref a1c)])) rfl (hb hby d17_38)
  refine GoW.sg (mkF m 41 (Sh10 a1c 5 x1c) [(.int 0), (.int x1c), (.int 4), (.ref a1c)]) (fun t k => st44 t k) ?_
  refine GoW.sg (mkF m 42 (Sh10 a1c 5 x1c) [(.int (x1c >>> ((0 : Int32) &&& 31))), (.int 4), (.ref a1c)]) (fun t k => XS.ishr X44.here hx rfl (hb hby d17_41) rfl k) ?_
  refine GoW.sg (mkF m 43 (Sh10 a1c 5 x1c) [(.int (x1c >>> ((0 : Int32) &&& 31)).toInt8.toInt32), (.int 4), (.ref a1c)]) (fun t k => XS.i2b X44.here hx rfl (hb hby d17_42) rfl k) ?_
  obtain ⟨cl45, Ar45, q45, Sz45, Nn45, Hh45, Gg45⟩ := P0
  have hin45 : ¬ ((4 : Int32) < 0 ∨ cl45.slots.size ≤ ((4 : Int32)).toNatClampNeg) := inb_of Sz45 ⟨by decide, by decide⟩
  obtain ⟨T45, h45, X45, e45, W45, st45⟩ := stB X44 hx hZ e44 Ar45 (j := (4 : Int32)) hin45 (g := (mkF m 43 (Sh10 a1c 5 x1c) [(.int (x1c >>> ((0 : Int32) &&& 31)).toInt8.toInt32), (.int 4), (.ref a1c)])) rfl rfl (hb hby d17_43)
  have f45_1 := P1.wr W45
  have f45_2 := P2.wr W45
  have f45_3 := P3.wr W45
  have f45_4 := P4.wr W45
  have f45_5 := (Keep.refl h0 [a1c]).wr W45 (Or.inl (List.mem_of_getElem? (i := 0) rfl))
  have V45 : Arv Z h45 a1c ka1c .byte (8 : Int32) [(.int x2c), (.int x3c), (.int x4c), (.int x5c), (.int (lo8 x1c)), (.int (0 : Int32)), (.int (0 : Int32)), (.int (0 : Int32))] (.int (0 : Int32)) := Arv.set Ar45 q45 Sz45 Nn45 Hh45 Gg45 (fits_nar_byte _) W45 4 rfl (Nat.le_of_ble_eq_true rfl)
  have N45 := Fr.snoc X45 N0 g_a1c
  refine GoW.sg (mkF m 44 (Sh10 a1c 5 x1c) []) (fun t k => st45 t k) ?_
  refine GoW.sg (mkF m 45 (Sh10 a1c 5 x1c) [(.ref a1c)]) (fun t k => XS.aloadN X45.here hx rfl (hb hby d17_44) rfl rfl k) ?_
  refine GoW.sg (mkF m 46 (Sh10 a1c 5 x1c) [(.int 5), (.ref a1c)]) (fun t k => XS.iloadN X45.here hx rfl (hb hby d17_45) rfl k) ?_
  refine GoW.sg (mkF m 47 (Sh10 a1c 5 x1c) [(.int x1c), (.int 5), (.ref a1c)]) (fun t k => XS.iloadN X45.here hx rfl (hb hby d17_46) rfl k) ?_
  obtain ⟨T46, X46, e46, st46⟩ := getS (host := "") X45 hx hZ hown (ww hw 76 rfl) Via.refl e45 f45_4 (g := (mkF m 47 (Sh10 a1c 5 x1c) [(.int x1c), (.int 5), (.ref a1c)])) rfl (hb hby d17_47)
  refine GoW.sg (mkF m 50 (Sh10 a1c 5 x1c) [(.int 8), (.int x1c), (.int 5), (.ref a1c)]) (fun t k => st46 t k) ?_
  refine GoW.sg (mkF m 51 (Sh10 a1c 5 x1c) [(.int (x1c >>> ((8 : Int32) &&& 31))), (.int 5), (.ref a1c)]) (fun t k => XS.ishr X46.here hx rfl (hb hby d17_50) rfl k) ?_
  refine GoW.sg (mkF m 52 (Sh10 a1c 5 x1c) [(.int (x1c >>> ((8 : Int32) &&& 31)).toInt8.toInt32), (.int 5), (.ref a1c)]) (fun t k => XS.i2b X46.here hx rfl (hb hby d17_51) rfl k) ?_
  obtain ⟨cl47, Ar47, q47, Sz47, Nn47, Hh47, Gg47⟩ := V45
  have hin47 : ¬ ((5 : Int32) < 0 ∨ cl47.slots.size ≤ ((5 : Int32)).toNatClampNeg) := inb_of Sz47 ⟨by decide, by decide⟩
  obtain ⟨T47, h47, X47, e47, W47, st47⟩ := stB X46 hx hZ e46 Ar47 (j := (5 : Int32)) hin47 (g := (mkF m 52 (Sh10 a1c 5 x1c) [(.int (x1c >>> ((8 : Int32) &&& 31)).toInt8.toInt32), (.int 5), (.ref a1c)])) rfl rfl (hb hby d17_52)
  have f47_6 := f45_1.wr W47
  have f47_7 := f45_2.wr W47
  have f47_8 := f45_3.wr W47
  have f47_9 := f45_4.wr W47
  have f47_10 := f45_5.wr W47 (Or.inl (List.mem_of_getElem? (i := 0) rfl))
  have V47 : Arv Z h47 a1c ka1c .byte (8 : Int32) [(.int x2c), (.int x3c), (.int x4c), (.int x5c), (.int (lo8 x1c)), (.int (hi8 x1c)), (.int (0 : Int32)), (.int (0 : Int32))] (.int (0 : Int32)) := Arv.set Ar47 q47 Sz47 Nn47 Hh47 Gg47 (fits_nar_byte _) W47 5 rfl (Nat.le_of_ble_eq_true rfl)
  have N47 := Fr.snoc X47 N45 g_a1c
  refine GoW.sg (mkF m 53 (Sh10 a1c 5 x1c) []) (fun t k => st47 t k) ?_
  refine GoW.retV X47 hx Bd.returns (hb hby d17_53) Bd.notSynchronized ?_ (by decide) (by decide)
  rw [e47]
  exact ⟨rfl, N47, f47_10, V47⟩
def Q17_7 (Z : State) (a1c : Addr) (x1c : Int32) (ka1c : ClassId) (x2c : Int32) (x3c : Int32) (x4c : Int32) (x5c : Int32) (x6c : Int32) (x7c : Int32) (x8c : Int32) (h0 : Heap) (n0 : Nat) (v : Option Value) (h : Heap) (L : List Loc) : Prop := v = none ∧ Fr n0 L ∧ (Keep h0 h [a1c]) ∧ (Arv Z h a1c ka1c .byte (8 : Int32) [(.int x2c), (.int x3c), (.int x4c), (.int x5c), (.int x6c), (.int x7c), (.int (lo8 x1c)), (.int (hi8 x1c))] (.int (0 : Int32)))
theorem ef17_rm17_7 (m : MethodId) (a1c : Addr) (x1c : Int32) : entryFrame m #[(.ref a1c), (.int (3 : Int32)), (.int x1c)] 3 = (mkF m 0 #[.val (.ref a1c), .val (.int 3), .val (.int x1c)] []) := by first | (simp [entryFrame, mkF, argsToLocals, Value.category, maxLocals]; done) | rfl
set_option maxRecDepth 65536 in
set_option maxHeartbeats 40000000 in
theorem rm17_7 (l : Launch) (Z : State) (a0 : Array Value) (hw : ∀ d ∈ tables_1, d.before a0 Z = true) (ws : List Jvm.Cond) (a1c : Addr) (x1c : Int32) (ka1c : ClassId) (x2c : Int32) (x3c : Int32) (x4c : Int32) (x5c : Int32) (x6c : Int32) (x7c : Int32) (x8c : Int32) (h0 : Heap) (n0 : Nat) (P0 : Arv Z h0 a1c ka1c .byte (8 : Int32) [(.int x2c), (.int x3c), (.int x4c), (.int x5c), (.int x6c), (.int x7c), (.int (0 : Int32)), (.int (0 : Int32))] (.int (0 : Int32))) (P1 : Sta Z h0 "java/lang/String" "COMPACT_STRINGS" "Z" (.int x8c)) (P2 : Sta Z h0 "java/lang/StringUTF16" "$assertionsDisabled" "Z" (.int (1 : Int32))) (P3 : Sta Z h0 "java/lang/StringUTF16" "HI_BYTE_SHIFT" "I" (.int (0 : Int32))) (P4 : Sta Z h0 "java/lang/StringUTF16" "LO_BYTE_SHIFT" "I" (.int (8 : Int32))) (g_a1c : n0 ≤ a1c)     :
    MetFree l Y17 (head1 (Jvm.Cond.code Y17 jdk_52_method_4_code 3 none :: ws) ({ frames := 0, cells := 0, slots := 0, locals := 0 } : Room)) (fun a U => a = #[(.ref a1c), (.int (3 : Int32)), (.int x1c)] ∧ Z.Warmed39 U.vm ∧ U.heap = h0) (fun _ _ _ _ _ => True) (fun _ U o U' => ∃ v L, o = .returned v ∧ (Q17_7 Z a1c x1c ka1c x2c x3c x4c x5c x6c x7c x8c h0 n0) v U'.heap L ∧ FrameEnd U o U' L 0 0) := by
  refine MetFree.of_bodySF (plainFor_of_name pn_java_lang_StringUTF16) hisR ?_
  intro p e s m args below meth c s₁ Bd hml0 hP hK
  obtain ⟨rfl, hZ, hh⟩ := hP
  have hx := Bd.exec
  have hby := Bd.bytes
  have hml : c.maxLocals = 3 := hml0
  have hown : s.vm.findClass "java/lang/StringUTF16" = some m.cls := findClass_of_methodNamed Bd.named
  have hnm := (name_of_methodNamed Bd.named Bd.method).1
  have X0 : Stand p l e ({ frames := 0, cells := 0, slots := 0, locals := 0 } : Room) s m #[(.ref a1c), (.int (3 : Int32)), (.int x1c)] below meth c s₁ [] 0 0 := Stand.of_body Bd
  have e0 : s₁.heap = h0 := by rw [← hh, Bd.state]; rfl
  have N0 := Fr.nil n0
  refine GoW.mk ?_
  refine GoW.st (fun t k => castTop (ef17_rm17_7 m a1c x1c) k) ?_
  show GoW p e below s (Q17_7 Z a1c x1c ka1c x2c x3c x4c x5c x6c x7c x8c h0 n0) 0 0 (s₁.setTop (mkF m 0 (Sh10 a1c 3 x1c) []))
  obtain ⟨T55, X55, e55, st55⟩ := getS (host := "") X0 hx hZ hown (ww hw 74 rfl) Via.refl e0 P2 (g := (mkF m 0 (Sh10 a1c 3 x1c) [])) rfl (hb hby d17_0)
  refine GoW.sg (mkF m 3 (Sh10 a1c 3 x1c) [(.int 1)]) (fun t k => st55 t k) ?_
  refine GoW.sg (mkF m 28 (Sh10 a1c 3 x1c) []) (fun t k => XS.ifYes X55.here hx rfl (pc0 := 3) (pc' := 28) rfl (hb hby d17_3) rfl (by decide) (by decide) (by decide) k) ?_
  refine GoW.sg (mkF m 29 (Sh10 a1c 3 x1c) [(.int 3)]) (fun t k => XS.iloadN X55.here hx rfl (hb hby d17_28) rfl k) ?_
  refine GoW.sg (mkF m 30 (Sh10 a1c 3 x1c) [(.int 1), (.int 3)]) (fun t k => XS.iconst X55.here hx rfl (hb hby d17_29) k) ?_
  refine GoW.st (fun t k => XS.ishl X55.here hx rfl (hb hby d17_30) rfl k) ?_
  rw [show ((3 : Int32) <<< ((1 : Int32) &&& 31)) = (6 : Int32) from by decide]
  show GoW p e below s (Q17_7 Z a1c x1c ka1c x2c x3c x4c x5c x6c x7c x8c h0 n0) 0 0 (T55.setTop (mkF m 31 (Sh10 a1c 3 x1c) [(.int 6)]))
  refine GoW.sg (mkF m 32 (Sh10 a1c 6 x1c) []) (fun t k => XS.istoreN X55.here hx rfl (hb hby d17_31) rfl (l' := (Sh10 a1c 6 x1c)) rfl k) ?_
  refine GoW.sg (mkF m 33 (Sh10 a1c 6 x1c) [(.ref a1c)]) (fun t k => XS.aloadN X55.here hx rfl (hb hby d17_32) rfl rfl k) ?_
  refine GoW.sg (mkF m 34 (Sh10 a1c 6 x1c) [(.int 6), (.ref a1c)]) (fun t k => XS.iloadN X55.here hx rfl (hb hby d17_33) rfl k) ?_
  refine GoW.sg (mkF m 37 (Sh10 a1c 7 x1c) [(.int 6), (.ref a1c)]) (fun t k => XS.iinc X55.here hx rfl (hb hby d17_34) rfl (l' := (Sh10 a1c 7 x1c)) rfl k) ?_
  refine GoW.sg (mkF m 38 (Sh10 a1c 7 x1c) [(.int x1c), (.int 6), (.ref a1c)]) (fun t k => XS.iloadN X55.here hx rfl (hb hby d17_37) rfl k) ?_
  obtain ⟨T56, X56, e56, st56⟩ := getS (host := "") X55 hx hZ hown (ww hw 75 rfl) Via.refl e55 P3 (g := (mkF m 38 (Sh10 a1c 7 x1c) [(.int x1c), (.int 6), (.ref a1c)])) rfl (hb hby d17_38)
  refine GoW.sg (mkF m 41 (Sh10 a1c 7 x1c) [(.int 0), (.int x1c), (.int 6), (.ref a1c)]) (fun t k => st56 t k) ?_
  refine GoW.sg (mkF m 42 (Sh10 a1c 7 x1c) [(.int (x1c >>> ((0 : Int32) &&& 31))), (.int 6), (.ref a1c)]) (fun t k => XS.ishr X56.here hx rfl (hb hby d17_41) rfl k) ?_
  refine GoW.sg (mkF m 43 (Sh10 a1c 7 x1c) [(.int (x1c >>> ((0 : Int32) &&& 31)).toInt8.toInt32), (.int 6), (.ref a1c)]) (fun t k => XS.i2b X56.here hx rfl (hb hby d17_42) rfl k) ?_
  obtain ⟨cl57, Ar57, q57, Sz57, Nn57, Hh57, Gg57⟩ := P0
  have hin57 : ¬ ((6 : Int32) < 0 ∨ cl57.slots.size ≤ ((6 : Int32)).toNatClampNeg) := inb_of Sz57 ⟨by decide, by decide⟩
  obtain ⟨T57, h57, X57, e57, W57, st57⟩ := stB X56 hx hZ e56 Ar57 (j := (6 : Int32)) hin57 (g := (mkF m 43 (Sh10 a1c 7 x1c) [(.int (x1c >>> ((0 : Int32) &&& 31)).toInt8.toInt32), (.int 6), (.ref a1c)])) rfl rfl (hb hby d17_43)
  have f57_1 := P1.wr W57
  have f57_2 := P2.wr W57
  have f57_3 := P3.wr W57
  have f57_4 := P4.wr W57
  have f57_5 := (Keep.refl h0 [a1c]).wr W57 (Or.inl (List.mem_of_getElem? (i := 0) rfl))
  have V57 : Arv Z h57 a1c ka1c .byte (8 : Int32) [(.int x2c), (.int x3c), (.int x4c), (.int x5c), (.int x6c), (.int x7c), (.int (lo8 x1c)), (.int (0 : Int32))] (.int (0 : Int32)) := Arv.set Ar57 q57 Sz57 Nn57 Hh57 Gg57 (fits_nar_byte _) W57 6 rfl (Nat.le_of_ble_eq_true rfl)
  have N57 := Fr.snoc X57 N0 g_a1c
  refine GoW.sg (mkF m 44 (Sh10 a1c 7 x1c) []) (fun t k => st57 t k) ?_
  refine GoW.sg (mkF m 45 (Sh10 a1c 7 x1c) [(.ref a1c)]) (fun t k => XS.aloadN X57.here hx rfl (hb hby d17_44) rfl rfl k) ?_
  refine GoW.sg (mkF m 46 (Sh10 a1c 7 x1c) [(.int 7), (.ref a1c)]) (fun t k => XS.iloadN X57.here hx rfl (hb hby d17_45) rfl k) ?_
  refine GoW.sg (mkF m 47 (Sh10 a1c 7 x1c) [(.int x1c), (.int 7), (.ref a1c)]) (fun t k => XS.iloadN X57.here hx rfl (hb hby d17_46) rfl k) ?_
  obtain ⟨T58, X58, e58, st58⟩ := getS (host := "") X57 hx hZ hown (ww hw 76 rfl) Via.refl e57 f57_4 (g := (mkF m 47 (Sh10 a1c 7 x1c) [(.int x1c), (.int 7), (.ref a1c)])) rfl (hb hby d17_47)
  refine GoW.sg (mkF m 50 (Sh10 a1c 7 x1c) [(.int 8), (.int x1c), (.int 7), (.ref a1c)]) (fun t k => st58 t k) ?_
  refine GoW.sg (mkF m 51 (Sh10 a1c 7 x1c) [(.int (x1c >>> ((8 : Int32) &&& 31))), (.int 7), (.ref a1c)]) (fun t k => XS.ishr X58.here hx rfl (hb hby d17_50) rfl k) ?_
  refine GoW.sg (mkF m 52 (Sh10 a1c 7 x1c) [(.int (x1c >>> ((8 : Int32) &&& 31)).toInt8.toInt32), (.int 7), (.ref a1c)]) (fun t k => XS.i2b X58.here hx rfl (hb hby d17_51) rfl k) ?_
  obtain ⟨cl59, Ar59, q59, Sz59, Nn59, Hh59, Gg59⟩ := V57
  have hin59 : ¬ ((7 : Int32) < 0 ∨ cl59.slots.size ≤ ((7 : Int32)).toNatClampNeg) := inb_of Sz59 ⟨by decide, by decide⟩
  obtain ⟨T59, h59, X59, e59, W59, st59⟩ := stB X58 hx hZ e58 Ar59 (j := (7 : Int32)) hin59 (g := (mkF m 52 (Sh10 a1c 7 x1c) [(.int (x1c >>> ((8 : Int32) &&& 31)).toInt8.toInt32), (.int 7), (.ref a1c)])) rfl rfl (hb hby d17_52)
  have f59_6 := f57_1.wr W59
  have f59_7 := f57_2.wr W59
  have f59_8 := f57_3.wr W59
  have f59_9 := f57_4.wr W59
  have f59_10 := f57_5.wr W59 (Or.inl (List.mem_of_getElem? (i := 0) rfl))
  have V59 : Arv Z h59 a1c ka1c .byte (8 : Int32) [(.int x2c), (.int x3c), (.int x4c), (.int x5c), (.int x6c), (.int x7c), (.int (lo8 x1c)), (.int (hi8 x1c))] (.int (0 : Int32)) := Arv.set Ar59 q59 Sz59 Nn59 Hh59 Gg59 (fits_nar_byte _) W59 7 rfl (Nat.le_of_ble_eq_true rfl)
  have N59 := Fr.snoc X59 N57 g_a1c
  refine GoW.sg (mkF m 53 (Sh10 a1c 7 x1c) []) (fun t k => st59 t k) ?_
  refine GoW.retV X59 hx Bd.returns (hb hby d17_53) Bd.notSynchronized ?_ (by decide) (by decide)
  rw [e59]
  exact ⟨rfl, N59, f59_10, V59⟩
def Q14_8 (Z : State) (a1c : Addr) (ka1c : ClassId) (x1c : Int32) (x2c : Int32) (x3c : Int32) (x4c : Int32) (x5c : Int32) (h0 : Heap) (n0 : Nat) (v : Option Value) (h : Heap) (L : List Loc) : Prop := ∃ e0 : Addr, ∃ ke0 : ClassId, v = some (.ref e0) ∧ Fr n0 L ∧ (Keep h0 h []) ∧ (Arv Z h e0 ke0 .byte (8 : Int32) [(.int (lo8 x1c)), (.int (hi8 x1c)), (.int (lo8 x2c)), (.int (hi8 x2c)), (.int (lo8 x3c)), (.int (hi8 x3c)), (.int (lo8 x4c)), (.int (hi8 x4c))] (.int (0 : Int32))) ∧ (h0.size ≤ e0)
theorem ef14_rm14_8 (m : MethodId) (a1c : Addr) : entryFrame m #[(.ref a1c), (.int (0 : Int32)), (.int (4 : Int32))] 5 = (mkF m 0 #[.val (.ref a1c), .val (.int 0), .val (.int 4), .unset, .unset] []) := by first | (simp [entryFrame, mkF, argsToLocals, Value.category, maxLocals]; done) | rfl
set_option maxRecDepth 65536 in
set_option maxHeartbeats 40000000 in
theorem rm14_8 (l : Launch) (Z : State) (a0 : Array Value) (hw : ∀ d ∈ tables_1, d.before a0 Z = true) (ws : List Jvm.Cond) (a1c : Addr) (ka1c : ClassId) (x1c : Int32) (x2c : Int32) (x3c : Int32) (x4c : Int32) (x5c : Int32) (h0 : Heap) (n0 : Nat) (Z0 : n0 ≤ h0.size) (P0 : Arv Z h0 a1c ka1c .char (4 : Int32) [(.int x1c), (.int x2c), (.int x3c), (.int x4c)] (.int (0 : Int32))) (P1 : Sta Z h0 "java/lang/String" "COMPACT_STRINGS" "Z" (.int x5c)) (P2 : Sta Z h0 "java/lang/StringUTF16" "$assertionsDisabled" "Z" (.int (1 : Int32))) (P3 : Sta Z h0 "java/lang/StringUTF16" "HI_BYTE_SHIFT" "I" (.int (0 : Int32))) (P4 : Sta Z h0 "java/lang/StringUTF16" "LO_BYTE_SHIFT" "I" (.int (8 : Int32)))      :
    MetFree l Y14 (head1 (Jvm.Cond.code Y14 jdk_52_method_14_code 5 (some (.array .byte)) :: ws) ({ frames := 2, cells := 1, slots := 8, locals := 24 } : Room)) (fun a U => a = #[(.ref a1c), (.int (0 : Int32)), (.int (4 : Int32))] ∧ Z.Warmed39 U.vm ∧ U.heap = h0) (fun _ _ _ _ _ => True) (fun _ U o U' => ∃ v L, o = .returned v ∧ (Q14_8 Z a1c ka1c x1c x2c x3c x4c x5c h0 n0) v U'.heap L ∧ FrameEnd U o U' L 1 8) := by
  refine MetFree.of_bodySF (plainFor_of_name pn_java_lang_StringUTF16) hisR ?_
  intro p e s m args below meth c s₁ Bd hml0 hP hK
  obtain ⟨rfl, hZ, hh⟩ := hP
  have hx := Bd.exec
  have hby := Bd.bytes
  have hml : c.maxLocals = 5 := hml0
  have hown : s.vm.findClass "java/lang/StringUTF16" = some m.cls := findClass_of_methodNamed Bd.named
  have hnm := (name_of_methodNamed Bd.named Bd.method).1
  have X0 : Stand p l e ({ frames := 2, cells := 1, slots := 8, locals := 24 } : Room) s m #[(.ref a1c), (.int (0 : Int32)), (.int (4 : Int32))] below meth c s₁ [] 0 0 := Stand.of_body Bd
  have e0 : s₁.heap = h0 := by rw [← hh, Bd.state]; rfl
  have N0 := Fr.nil n0
  refine GoW.mk ?_
  refine GoW.st (fun t k => castTop (ef14_rm14_8 m a1c) k) ?_
  show GoW p e below s (Q14_8 Z a1c ka1c x1c x2c x3c x4c x5c h0 n0) 1 8 (s₁.setTop (mkF m 0 (Sh7 a1c 0 4) []))
  refine GoW.sg (mkF m 1 (Sh7 a1c 0 4) [(.int 4)]) (fun t k => XS.iloadN X0.here hx rfl (hb hby d14_0) rfl k) ?_
  obtain ⟨_, T63, L63, X63, hQ63, st63⟩ := own_callS X0 hx hZ hown (y := Y15) (ww hw 64 rfl) (ww hw 65 rfl) (ww hw 17 rfl) (ww hw 66 rfl) (by decide) 0 (rm15_3 l Z a0 hw []  x5c h0 n0 Z0 P1 P2 P3 P4    ) (by decide) (by decide) e0 (by decide) (by decide) (g := (mkF m 1 (Sh7 a1c 0 4) [(.int 4)])) rfl (by rw [hml]; rfl) (argsL := [(.int (4 : Int32))]) (rest := []) (lenOf pd_28I295bB rfl) rfl (by show 2 * 0 + _ ≤ _; exact Nat.le_of_eq rfl) (hb hby d14_1)
  obtain ⟨b63_e0, k63_ke0, rfl, N63q, K63, p63_0, hz_b63_e0⟩ := hQ63
  have g_b63_e0 : n0 ≤ b63_e0 := Nat.le_trans Z0 hz_b63_e0
  have sz_b63_e0 : h0.size ≤ b63_e0 := Nat.le_trans (Keep.refl h0 []).1 hz_b63_e0
  have ne_a1c_b63_e0 : a1c ≠ b63_e0 := Nat.ne_of_lt (Nat.lt_of_lt_of_le P0.lt hz_b63_e0)
  have N63 := Fr.app N0 N63q
  have f63_1 := P0.keep K63 nin0
  have f63_2 := own_staK0 P1 K63
  have f63_3 := own_staK0 P2 K63
  have f63_4 := own_staK0 P3 K63
  have f63_5 := own_staK0 P4 K63
  have f63_6 := (Keep.refl h0 []).trans K63 all0
  have f63_7 := Nat.le_trans Z0 K63.1
  refine GoW.sg (mkF m 4 (Sh7 a1c 0 4) [(.ref b63_e0)]) (fun t k => st63 t k) ?_
  refine GoW.sg (mkF m 5 (Sh8 a1c 0 4 b63_e0) []) (fun t k => XS.astoreN X63.here hx rfl (hb hby d14_4) rfl rfl (l' := (Sh8 a1c 0 4 b63_e0)) rfl k) ?_
  refine GoW.sg (mkF m 6 (Sh8 a1c 0 4 b63_e0) [(.int 0)]) (fun t k => XS.iconst X63.here hx rfl (hb hby d14_5) k) ?_
  refine GoW.sg (mkF m 8 (Sh9 a1c 0 4 b63_e0 0) []) (fun t k => XS.istore X63.here hx rfl (hb hby d14_6) rfl (l' := (Sh9 a1c 0 4 b63_e0 0)) rfl k) ?_
  refine GoW.sg (mkF m 10 (Sh9 a1c 0 4 b63_e0 0) [(.int 0)]) (fun t k => XS.iload X63.here hx rfl (hb hby d14_8) rfl k) ?_
  refine GoW.sg (mkF m 11 (Sh9 a1c 0 4 b63_e0 0) [(.int 4), (.int 0)]) (fun t k => XS.iloadN X63.here hx rfl (hb hby d14_10) rfl k) ?_
  refine GoW.sg (mkF m 14 (Sh9 a1c 0 4 b63_e0 0) []) (fun t k => XS.icmpNo X63.here hx rfl (hb hby d14_11) rfl (by decide) k) ?_
  refine GoW.sg (mkF m 15 (Sh9 a1c 0 4 b63_e0 0) [(.ref b63_e0)]) (fun t k => XS.aloadN X63.here hx rfl (hb hby d14_14) rfl rfl k) ?_
  refine GoW.sg (mkF m 17 (Sh9 a1c 0 4 b63_e0 0) [(.int 0), (.ref b63_e0)]) (fun t k => XS.iload X63.here hx rfl (hb hby d14_15) rfl k) ?_
  refine GoW.sg (mkF m 18 (Sh9 a1c 0 4 b63_e0 0) [(.ref a1c), (.int 0), (.ref b63_e0)]) (fun t k => XS.aloadN X63.here hx rfl (hb hby d14_17) rfl rfl k) ?_
  refine GoW.sg (mkF m 19 (Sh9 a1c 0 4 b63_e0 0) [(.int 0), (.ref a1c), (.int 0), (.ref b63_e0)]) (fun t k => XS.iloadN X63.here hx rfl (hb hby d14_18) rfl k) ?_
  obtain ⟨cl64, Ar64, q64, Sz64, Nn64, Hh64, Gg64⟩ := id f63_1
  have hin64 : ¬ ((0 : Int32) < 0 ∨ cl64.slots.size ≤ ((0 : Int32)).toNatClampNeg) := inb_of Sz64 ⟨by decide, by decide⟩
  refine GoW.sg (mkF m 20 (Sh9 a1c 0 4 b63_e0 0) [(.int x1c), (.int 0), (.ref b63_e0)]) (fun t k => X63.caload hx (j := (0 : Int32)) (v := (.int x1c)) (hq_ rfl Ar64.1) (State.isArrayOf_alike hZ.alike Ar64.2.1) Ar64.2.2 hin64 (Hh64.at hin64 rfl) (g := (mkF m 19 (Sh9 a1c 0 4 b63_e0 0) [(.int 0), (.ref a1c), (.int 0), (.ref b63_e0)])) rfl rfl (hb hby d14_19) t k) ?_
  obtain ⟨_, T70, L70, X70, hQ70, st70⟩ := own_callS X63 hx hZ hown (y := Y17) (ww hw 71 rfl) (ww hw 72 rfl) (ww hw 17 rfl) (ww hw 73 rfl) (by decide) 0 (rm17_4 l Z a0 hw [] b63_e0 x1c k63_ke0 x5c T63.heap n0  p63_0 f63_2 f63_3 f63_4 f63_5 g_b63_e0   ) (by decide) (by decide) rfl (by decide) (by decide) (g := (mkF m 20 (Sh9 a1c 0 4 b63_e0 0) [(.int x1c), (.int 0), (.ref b63_e0)])) rfl (by rw [hml]; rfl) (argsL := [(.ref b63_e0), (.int (0 : Int32)), (.int x1c)]) (rest := []) (lenOf pd_285bBII29V rfl) rfl (by show 2 * 0 + _ ≤ _; exact Nat.le_of_eq rfl) (hb hby d14_20)
  obtain ⟨rfl, N70q, K70, p70_0⟩ := hQ70
  have N70 := Fr.app N63 N70q
  have f70_8 := f63_1.keep K70 (ninS ne_a1c_b63_e0 nin0)
  have f70_9 := own_staK f63_2 K70 (allS (own_nsA p63_0) all0)
  have f70_10 := own_staK f63_3 K70 (allS (own_nsA p63_0) all0)
  have f70_11 := own_staK f63_4 K70 (allS (own_nsA p63_0) all0)
  have f70_12 := own_staK f63_5 K70 (allS (own_nsA p63_0) all0)
  have f70_13 := f63_6.trans K70 (allS (Or.inr sz_b63_e0) all0)
  have f70_14 := Nat.le_trans f63_7 K70.1
  refine GoW.sg (mkF m 23 (Sh9 a1c 0 4 b63_e0 0) []) (fun t k => st70 t k) ?_
  refine GoW.sg (mkF m 26 (Sh9 a1c 1 4 b63_e0 0) []) (fun t k => XS.iinc X70.here hx rfl (hb hby d14_23) rfl (l' := (Sh9 a1c 1 4 b63_e0 0)) rfl k) ?_
  refine GoW.sg (mkF m 29 (Sh9 a1c 1 4 b63_e0 1) []) (fun t k => XS.iinc X70.here hx rfl (hb hby d14_26) rfl (l' := (Sh9 a1c 1 4 b63_e0 1)) rfl k) ?_
  refine GoW.sg (mkF m 8 (Sh9 a1c 1 4 b63_e0 1) []) (fun t k => XS.goto X70.here hx rfl (pc0 := 29) (pc' := 8) rfl (hb hby d14_29) (by decide) (by decide) k) ?_
  refine GoW.sg (mkF m 10 (Sh9 a1c 1 4 b63_e0 1) [(.int 1)]) (fun t k => XS.iload X70.here hx rfl (hb hby d14_8) rfl k) ?_
  refine GoW.sg (mkF m 11 (Sh9 a1c 1 4 b63_e0 1) [(.int 4), (.int 1)]) (fun t k => XS.iloadN X70.here hx rfl (hb hby d14_10) rfl k) ?_
  refine GoW.sg (mkF m 14 (Sh9 a1c 1 4 b63_e0 1) []) (fun t k => XS.icmpNo X70.here hx rfl (hb hby d14_11) rfl (by decide) k) ?_
  refine GoW.sg (mkF m 15 (Sh9 a1c 1 4 b63_e0 1) [(.ref b63_e0)]) (fun t k => XS.aloadN X70.here hx rfl (hb hby d14_14) rfl rfl k) ?_
  refine GoW.sg (mkF m 17 (Sh9 a1c 1 4 b63_e0 1) [(.int 1), (.ref b63_e0)]) (fun t k => XS.iload X70.here hx rfl (hb hby d14_15) rfl k) ?_
  refine GoW.sg (mkF m 18 (Sh9 a1c 1 4 b63_e0 1) [(.ref a1c), (.int 1), (.ref b63_e0)]) (fun t k => XS.aloadN X70.here hx rfl (hb hby d14_17) rfl rfl k) ?_
  refine GoW.sg (mkF m 19 (Sh9 a1c 1 4 b63_e0 1) [(.int 1), (.ref a1c), (.int 1), (.ref b63_e0)]) (fun t k => XS.iloadN X70.here hx rfl (hb hby d14_18) rfl k) ?_
  obtain ⟨cl71, Ar71, q71, Sz71, Nn71, Hh71, Gg71⟩ := id f70_8
  have hin71 : ¬ ((1 : Int32) < 0 ∨ cl71.slots.size ≤ ((1 : Int32)).toNatClampNeg) := inb_of Sz71 ⟨by decide, by decide⟩
  refine GoW.sg (mkF m 20 (Sh9 a1c 1 4 b63_e0 1) [(.int x2c), (.int 1), (.ref b63_e0)]) (fun t k => X70.caload hx (j := (1 : Int32)) (v := (.int x2c)) (hq_ rfl Ar71.1) (State.isArrayOf_alike hZ.alike Ar71.2.1) Ar71.2.2 hin71 (Hh71.at hin71 rfl) (g := (mkF m 19 (Sh9 a1c 1 4 b63_e0 1) [(.int 1), (.ref a1c), (.int 1), (.ref b63_e0)])) rfl rfl (hb hby d14_19) t k) ?_
  obtain ⟨_, T77, L77, X77, hQ77, st77⟩ := own_callS X70 hx hZ hown (y := Y17) (ww hw 71 rfl) (ww hw 72 rfl) (ww hw 17 rfl) (ww hw 73 rfl) (by decide) 0 (rm17_5 l Z a0 hw [] b63_e0 x2c k63_ke0 (lo8 x1c) (hi8 x1c) x5c T70.heap n0  p70_0 f70_9 f70_10 f70_11 f70_12 g_b63_e0   ) (by decide) (by decide) rfl (by decide) (by decide) (g := (mkF m 20 (Sh9 a1c 1 4 b63_e0 1) [(.int x2c), (.int 1), (.ref b63_e0)])) rfl (by rw [hml]; rfl) (argsL := [(.ref b63_e0), (.int (1 : Int32)), (.int x2c)]) (rest := []) (lenOf pd_285bBII29V rfl) rfl (by show 2 * 0 + _ ≤ _; exact Nat.le_of_eq rfl) (hb hby d14_20)
  obtain ⟨rfl, N77q, K77, p77_0⟩ := hQ77
  have N77 := Fr.app N70 N77q
  have f77_15 := f70_8.keep K77 (ninS ne_a1c_b63_e0 nin0)
  have f77_16 := own_staK f70_9 K77 (allS (own_nsA p70_0) all0)
  have f77_17 := own_staK f70_10 K77 (allS (own_nsA p70_0) all0)
  have f77_18 := own_staK f70_11 K77 (allS (own_nsA p70_0) all0)
  have f77_19 := own_staK f70_12 K77 (allS (own_nsA p70_0) all0)
  have f77_20 := f70_13.trans K77 (allS (Or.inr sz_b63_e0) all0)
  have f77_21 := Nat.le_trans f70_14 K77.1
  refine GoW.sg (mkF m 23 (Sh9 a1c 1 4 b63_e0 1) []) (fun t k => st77 t k) ?_
  refine GoW.sg (mkF m 26 (Sh9 a1c 2 4 b63_e0 1) []) (fun t k => XS.iinc X77.here hx rfl (hb hby d14_23) rfl (l' := (Sh9 a1c 2 4 b63_e0 1)) rfl k) ?_
  refine GoW.sg (mkF m 29 (Sh9 a1c 2 4 b63_e0 2) []) (fun t k => XS.iinc X77.here hx rfl (hb hby d14_26) rfl (l' := (Sh9 a1c 2 4 b63_e0 2)) rfl k) ?_
  refine GoW.sg (mkF m 8 (Sh9 a1c 2 4 b63_e0 2) []) (fun t k => XS.goto X77.here hx rfl (pc0 := 29) (pc' := 8) rfl (hb hby d14_29) (by decide) (by decide) k) ?_
  refine GoW.sg (mkF m 10 (Sh9 a1c 2 4 b63_e0 2) [(.int 2)]) (fun t k => XS.iload X77.here hx rfl (hb hby d14_8) rfl k) ?_
  refine GoW.sg (mkF m 11 (Sh9 a1c 2 4 b63_e0 2) [(.int 4), (.int 2)]) (fun t k => XS.iloadN X77.here hx rfl (hb hby d14_10) rfl k) ?_
  refine GoW.sg (mkF m 14 (Sh9 a1c 2 4 b63_e0 2) []) (fun t k => XS.icmpNo X77.here hx rfl (hb hby d14_11) rfl (by decide) k) ?_
  refine GoW.sg (mkF m 15 (Sh9 a1c 2 4 b63_e0 2) [(.ref b63_e0)]) (fun t k => XS.aloadN X77.here hx rfl (hb hby d14_14) rfl rfl k) ?_
  refine GoW.sg (mkF m 17 (Sh9 a1c 2 4 b63_e0 2) [(.int 2), (.ref b63_e0)]) (fun t k => XS.iload X77.here hx rfl (hb hby d14_15) rfl k) ?_
  refine GoW.sg (mkF m 18 (Sh9 a1c 2 4 b63_e0 2) [(.ref a1c), (.int 2), (.ref b63_e0)]) (fun t k => XS.aloadN X77.here hx rfl (hb hby d14_17) rfl rfl k) ?_
  refine GoW.sg (mkF m 19 (Sh9 a1c 2 4 b63_e0 2) [(.int 2), (.ref a1c), (.int 2), (.ref b63_e0)]) (fun t k => XS.iloadN X77.here hx rfl (hb hby d14_18) rfl k) ?_
  obtain ⟨cl78, Ar78, q78, Sz78, Nn78, Hh78, Gg78⟩ := id f77_15
  have hin78 : ¬ ((2 : Int32) < 0 ∨ cl78.slots.size ≤ ((2 : Int32)).toNatClampNeg) := inb_of Sz78 ⟨by decide, by decide⟩
  refine GoW.sg (mkF m 20 (Sh9 a1c 2 4 b63_e0 2) [(.int x3c), (.int 2), (.ref b63_e0)]) (fun t k => X77.caload hx (j := (2 : Int32)) (v := (.int x3c)) (hq_ rfl Ar78.1) (State.isArrayOf_alike hZ.alike Ar78.2.1) Ar78.2.2 hin78 (Hh78.at hin78 rfl) (g := (mkF m 19 (Sh9 a1c 2 4 b63_e0 2) [(.int 2), (.ref a1c), (.int 2), (.ref b63_e0)])) rfl rfl (hb hby d14_19) t k) ?_
  obtain ⟨_, T84, L84, X84, hQ84, st84⟩ := own_callS X77 hx hZ hown (y := Y17) (ww hw 71 rfl) (ww hw 72 rfl) (ww hw 17 rfl) (ww hw 73 rfl) (by decide) 0 (rm17_6 l Z a0 hw [] b63_e0 x3c k63_ke0 (lo8 x1c) (hi8 x1c) (lo8 x2c) (hi8 x2c) x5c T77.heap n0  p77_0 f77_16 f77_17 f77_18 f77_19 g_b63_e0   ) (by decide) (by decide) rfl (by decide) (by decide) (g := (mkF m 20 (Sh9 a1c 2 4 b63_e0 2) [(.int x3c), (.int 2), (.ref b63_e0)])) rfl (by rw [hml]; rfl) (argsL := [(.ref b63_e0), (.int (2 : Int32)), (.int x3c)]) (rest := []) (lenOf pd_285bBII29V rfl) rfl (by show 2 * 0 + _ ≤ _; exact Nat.le_of_eq rfl) (hb hby d14_20)
  obtain ⟨rfl, N84q, K84, p84_0⟩ := hQ84
  have N84 := Fr.app N77 N84q
  have f84_22 := f77_15.keep K84 (ninS ne_a1c_b63_e0 nin0)
  have f84_23 := own_staK f77_16 K84 (allS (own_nsA p77_0) all0)
  have f84_24 := own_staK f77_17 K84 (allS (own_nsA p77_0) all0)
  have f84_25 := own_staK f77_18 K84 (allS (own_nsA p77_0) all0)
  have f84_26 := own_staK f77_19 K84 (allS (own_nsA p77_0) all0)
  have f84_27 := f77_20.trans K84 (allS (Or.inr sz_b63_e0) all0)
  have f84_28 := Nat.le_trans f77_21 K84.1
  refine GoW.sg (mkF m 23 (Sh9 a1c 2 4 b63_e0 2) []) (fun t k => st84 t k) ?_
  refine GoW.sg (mkF m 26 (Sh9 a1c 3 4 b63_e0 2) []) (fun t k => XS.iinc X84.here hx rfl (hb hby d14_23) rfl (l' := (Sh9 a1c 3 4 b63_e0 2)) rfl k) ?_
  refine GoW.sg (mkF m 29 (Sh9 a1c 3 4 b63_e0 3) []) (fun t k => XS.iinc X84.here hx rfl (hb hby d14_26) rfl (l' := (Sh9 a1c 3 4 b63_e0 3)) rfl k) ?_
  refine GoW.sg (mkF m 8 (Sh9 a1c 3 4 b63_e0 3) []) (fun t k => XS.goto X84.here hx rfl (pc0 := 29) (pc' := 8) rfl (hb hby d14_29) (by decide) (by decide) k) ?_
  refine GoW.sg (mkF m 10 (Sh9 a1c 3 4 b63_e0 3) [(.int 3)]) (fun t k => XS.iload X84.here hx rfl (hb hby d14_8) rfl k) ?_
  refine GoW.sg (mkF m 11 (Sh9 a1c 3 4 b63_e0 3) [(.int 4), (.int 3)]) (fun t k => XS.iloadN X84.here hx rfl (hb hby d14_10) rfl k) ?_
  refine GoW.sg (mkF m 14 (Sh9 a1c 3 4 b63_e0 3) []) (fun t k => XS.icmpNo X84.here hx rfl (hb hby d14_11) rfl (by decide) k) ?_
  refine GoW.sg (mkF m 15 (Sh9 a1c 3 4 b63_e0 3) [(.ref b63_e0)]) (fun t k => XS.aloadN X84.here hx rfl (hb hby d14_14) rfl rfl k) ?_
  refine GoW.sg (mkF m 17 (Sh9 a1c 3 4 b63_e0 3) [(.int 3), (.ref b63_e0)]) (fun t k => XS.iload X84.here hx rfl (hb hby d14_15) rfl k) ?_
  refine GoW.sg (mkF m 18 (Sh9 a1c 3 4 b63_e0 3) [(.ref a1c), (.int 3), (.ref b63_e0)]) (fun t k => XS.aloadN X84.here hx rfl (hb hby d14_17) rfl rfl k) ?_
  refine GoW.sg (mkF m 19 (Sh9 a1c 3 4 b63_e0 3) [(.int 3), (.ref a1c), (.int 3), (.ref b63_e0)]) (fun t k => XS.iloadN X84.here hx rfl (hb hby d14_18) rfl k) ?_
  obtain ⟨cl85, Ar85, q85, Sz85, Nn85, Hh85, Gg85⟩ := id f84_22
  have hin85 : ¬ ((3 : Int32) < 0 ∨ cl85.slots.size ≤ ((3 : Int32)).toNatClampNeg) := inb_of Sz85 ⟨by decide, by decide⟩
  refine GoW.sg (mkF m 20 (Sh9 a1c 3 4 b63_e0 3) [(.int x4c), (.int 3), (.ref b63_e0)]) (fun t k => X84.caload hx (j := (3 : Int32)) (v := (.int x4c)) (hq_ rfl Ar85.1) (State.isArrayOf_alike hZ.alike Ar85.2.1) Ar85.2.2 hin85 (Hh85.at hin85 rfl) (g := (mkF m 19 (Sh9 a1c 3 4 b63_e0 3) [(.int 3), (.ref a1c), (.int 3), (.ref b63_e0)])) rfl rfl (hb hby d14_19) t k) ?_
  obtain ⟨_, T91, L91, X91, hQ91, st91⟩ := own_callS X84 hx hZ hown (y := Y17) (ww hw 71 rfl) (ww hw 72 rfl) (ww hw 17 rfl) (ww hw 73 rfl) (by decide) 0 (rm17_7 l Z a0 hw [] b63_e0 x4c k63_ke0 (lo8 x1c) (hi8 x1c) (lo8 x2c) (hi8 x2c) (lo8 x3c) (hi8 x3c) x5c T84.heap n0  p84_0 f84_23 f84_24 f84_25 f84_26 g_b63_e0   ) (by decide) (by decide) rfl (by decide) (by decide) (g := (mkF m 20 (Sh9 a1c 3 4 b63_e0 3) [(.int x4c), (.int 3), (.ref b63_e0)])) rfl (by rw [hml]; rfl) (argsL := [(.ref b63_e0), (.int (3 : Int32)), (.int x4c)]) (rest := []) (lenOf pd_285bBII29V rfl) rfl (by show 2 * 0 + _ ≤ _; exact Nat.le_of_eq rfl) (hb hby d14_20)
  obtain ⟨rfl, N91q, K91, p91_0⟩ := hQ91
  have N91 := Fr.app N84 N91q
  have f91_29 := f84_22.keep K91 (ninS ne_a1c_b63_e0 nin0)
  have f91_30 := own_staK f84_23 K91 (allS (own_nsA p84_0) all0)
  have f91_31 := own_staK f84_24 K91 (allS (own_nsA p84_0) all0)
  have f91_32 := own_staK f84_25 K91 (allS (own_nsA p84_0) all0)
  have f91_33 := own_staK f84_26 K91 (allS (own_nsA p84_0) all0)
  have f91_34 := f84_27.trans K91 (allS (Or.inr sz_b63_e0) all0)
  have f91_35 := Nat.le_trans f84_28 K91.1
  refine GoW.sg (mkF m 23 (Sh9 a1c 3 4 b63_e0 3) []) (fun t k => st91 t k) ?_
  refine GoW.sg (mkF m 26 (Sh9 a1c 4 4 b63_e0 3) []) (fun t k => XS.iinc X91.here hx rfl (hb hby d14_23) rfl (l' := (Sh9 a1c 4 4 b63_e0 3)) rfl k) ?_
  refine GoW.sg (mkF m 29 (Sh9 a1c 4 4 b63_e0 4) []) (fun t k => XS.iinc X91.here hx rfl (hb hby d14_26) rfl (l' := (Sh9 a1c 4 4 b63_e0 4)) rfl k) ?_
  refine GoW.sg (mkF m 8 (Sh9 a1c 4 4 b63_e0 4) []) (fun t k => XS.goto X91.here hx rfl (pc0 := 29) (pc' := 8) rfl (hb hby d14_29) (by decide) (by decide) k) ?_
  refine GoW.sg (mkF m 10 (Sh9 a1c 4 4 b63_e0 4) [(.int 4)]) (fun t k => XS.iload X91.here hx rfl (hb hby d14_8) rfl k) ?_
  refine GoW.sg (mkF m 11 (Sh9 a1c 4 4 b63_e0 4) [(.int 4), (.int 4)]) (fun t k => XS.iloadN X91.here hx rfl (hb hby d14_10) rfl k) ?_
  refine GoW.sg (mkF m 32 (Sh9 a1c 4 4 b63_e0 4) []) (fun t k => XS.icmpYes X91.here hx rfl (pc0 := 11) (pc' := 32) rfl (hb hby d14_11) rfl (by decide) (by decide) (by decide) k) ?_
  refine GoW.sg (mkF m 33 (Sh9 a1c 4 4 b63_e0 4) [(.ref b63_e0)]) (fun t k => XS.aloadN X91.here hx rfl (hb hby d14_32) rfl rfl k) ?_
  refine GoW.retA X91 hx Bd.returns rfl rfl rfl (hb hby d14_33) Bd.notSynchronized ?_ (by decide) (by decide)
  exact ⟨b63_e0, k63_ke0, rfl, N91, f91_34, p91_0, sz_b63_e0⟩
def Q18_9 (Z : State) (a1c : Addr) (ka1c : ClassId) (x1c : Int32) (x2c : Int32) (x3c : Int32) (x4c : Int32) (x5c : Int32) (x6c : Int32) (x7c : Int32) (x8c : Int32) (h0 : Heap) (n0 : Nat) (v : Option Value) (h : Heap) (L : List Loc) : Prop := v = some (.int (nar .char (((x1c &&& (255 : Int32)) <<< ((0 : Int32) &&& 31)) ||| ((x2c &&& (255 : Int32)) <<< ((8 : Int32) &&& 31))).toUInt32.toUInt16.toUInt32.toInt32)) ∧ Fr n0 L ∧ (h = h0)
theorem ef18_rm18_9 (m : MethodId) (a1c : Addr) : entryFrame m #[(.ref a1c), (.int (0 : Int32))] 2 = (mkF m 0 #[.val (.ref a1c), .val (.int 0)] []) := by first | (simp [entryFrame, mkF, argsToLocals, Value.category, maxLocals]; done) | rfl
set_option maxRecDepth 65536 in
set_option maxHeartbeats 40000000 in
theorem rm18_9 (l : Launch) (Z : State) (a0 : Array Value) (hw : ∀ d ∈ tables_1, d.before a0 Z = true) (ws : List Jvm.Cond) (a1c : Addr) (ka1c : ClassId) (x1c : Int32) (x2c : Int32) (x3c : Int32) (x4c : Int32) (x5c : Int32) (x6c : Int32) (x7c : Int32) (x8c : Int32) (h0 : Heap) (n0 : Nat) (P0 : Arv Z h0 a1c ka1c .byte (8 : Int32) [(.int x1c), (.int x2c), (.int x3c), (.int x4c), (.int x5c), (.int x6c), (.int x7c), (.int x8c)] (.int (0 : Int32))) (P1 : Sta Z h0 "java/lang/StringUTF16" "$assertionsDisabled" "Z" (.int (1 : Int32))) (P2 : Sta Z h0 "java/lang/StringUTF16" "HI_BYTE_SHIFT" "I" (.int (0 : Int32))) (P3 : Sta Z h0 "java/lang/StringUTF16" "LO_BYTE_SHIFT" "I" (.int (8 : Int32)))      :
    MetFree l Y18 (head1 (Jvm.Cond.code Y18 jdk_52_method_5_code 2 (some .char) :: ws) ({ frames := 0, cells := 0, slots := 0, locals := 0 } : Room)) (fun a U => a = #[(.ref a1c), (.int (0 : Int32))] ∧ Z.Warmed39 U.vm ∧ U.heap = h0) (fun _ _ _ _ _ => True) (fun _ U o U' => ∃ v L, o = .returned v ∧ (Q18_9 Z a1c ka1c x1c x2c x3c x4c x5c x6c x7c x8c h0 n0) v U'.heap L ∧ FrameEnd U o U' L 0 0) := by
  refine MetFree.of_bodySF (plainFor_of_name pn_java_lang_StringUTF16) hisR ?_
  intro p e s m args below meth c s₁ Bd hml0 hP hK
  obtain ⟨rfl, hZ, hh⟩ := hP
  have hx := Bd.exec
  have hby := Bd.bytes
  have hml : c.maxLocals = 2 := hml0
  have hown : s.vm.findClass "java/lang/StringUTF16" = some m.cls := findClass_of_methodNamed Bd.named
  have hnm := (name_of_methodNamed Bd.named Bd.method).1
  have X0 : Stand p l e ({ frames := 0, cells := 0, slots := 0, locals := 0 } : Room) s m #[(.ref a1c), (.int (0 : Int32))] below meth c s₁ [] 0 0 := Stand.of_body Bd
  have e0 : s₁.heap = h0 := by rw [← hh, Bd.state]; rfl
  have N0 := Fr.nil n0
  refine GoW.mk ?_
  refine GoW.st (fun t k => castTop (ef18_rm18_9 m a1c) k) ?_
  show GoW p e below s (Q18_9 Z a1c ka1c x1c x2c x3c x4c x5c x6c x7c x8c h0 n0) 0 0 (s₁.setTop (mkF m 0 #[.val (.ref a1c), .val (.int 0)] []))
  obtain ⟨T98, X98, e98, st98⟩ := getS (host := "") X0 hx hZ hown (ww hw 74 rfl) Via.refl e0 P1 (g := (mkF m 0 #[.val (.ref a1c), .val (.int 0)] [])) rfl (hb hby d18_0)
  refine GoW.sg (mkF m 3 #[.val (.ref a1c), .val (.int 0)] [(.int 1)]) (fun t k => st98 t k) ?_
  refine GoW.sg (mkF m 28 #[.val (.ref a1c), .val (.int 0)] []) (fun t k => XS.ifYes X98.here hx rfl (pc0 := 3) (pc' := 28) rfl (hb hby d18_3) rfl (by decide) (by decide) (by decide) k) ?_
  refine GoW.sg (mkF m 29 #[.val (.ref a1c), .val (.int 0)] [(.int 0)]) (fun t k => XS.iloadN X98.here hx rfl (hb hby d18_28) rfl k) ?_
  refine GoW.sg (mkF m 30 #[.val (.ref a1c), .val (.int 0)] [(.int 1), (.int 0)]) (fun t k => XS.iconst X98.here hx rfl (hb hby d18_29) k) ?_
  refine GoW.st (fun t k => XS.ishl X98.here hx rfl (hb hby d18_30) rfl k) ?_
  rw [show ((0 : Int32) <<< ((1 : Int32) &&& 31)) = (0 : Int32) from by decide]
  show GoW p e below s (Q18_9 Z a1c ka1c x1c x2c x3c x4c x5c x6c x7c x8c h0 n0) 0 0 (T98.setTop (mkF m 31 #[.val (.ref a1c), .val (.int 0)] [(.int 0)]))
  refine GoW.sg (mkF m 32 #[.val (.ref a1c), .val (.int 0)] []) (fun t k => XS.istoreN X98.here hx rfl (hb hby d18_31) rfl (l' := #[.val (.ref a1c), .val (.int 0)]) rfl k) ?_
  refine GoW.sg (mkF m 33 #[.val (.ref a1c), .val (.int 0)] [(.ref a1c)]) (fun t k => XS.aloadN X98.here hx rfl (hb hby d18_32) rfl rfl k) ?_
  refine GoW.sg (mkF m 34 #[.val (.ref a1c), .val (.int 0)] [(.int 0), (.ref a1c)]) (fun t k => XS.iloadN X98.here hx rfl (hb hby d18_33) rfl k) ?_
  refine GoW.sg (mkF m 37 #[.val (.ref a1c), .val (.int 1)] [(.int 0), (.ref a1c)]) (fun t k => XS.iinc X98.here hx rfl (hb hby d18_34) rfl (l' := #[.val (.ref a1c), .val (.int 1)]) rfl k) ?_
  obtain ⟨cl99, Ar99, q99, Sz99, Nn99, Hh99, Gg99⟩ := id P0
  have hin99 : ¬ ((0 : Int32) < 0 ∨ cl99.slots.size ≤ ((0 : Int32)).toNatClampNeg) := inb_of Sz99 ⟨by decide, by decide⟩
  refine GoW.sg (mkF m 38 #[.val (.ref a1c), .val (.int 1)] [(.int x1c)]) (fun t k => X98.baloadBytes hx (j := (0 : Int32)) (v := (.int x1c)) (hq_ e98 Ar99.1) (State.isArrayOf_alike hZ.alike Ar99.2.1) Ar99.2.2 hin99 (Hh99.at hin99 rfl) (g := (mkF m 37 #[.val (.ref a1c), .val (.int 1)] [(.int 0), (.ref a1c)])) rfl rfl (hb hby d18_37) t k) ?_
  refine GoW.sg (mkF m 41 #[.val (.ref a1c), .val (.int 1)] [(.int 255), (.int x1c)]) (fun t k => XS.sipush X98.here hx rfl (hb hby d18_38) k) ?_
  refine GoW.sg (mkF m 42 #[.val (.ref a1c), .val (.int 1)] [(.int (x1c &&& (255 : Int32)))]) (fun t k => XS.iand X98.here hx rfl (hb hby d18_41) rfl k) ?_
  obtain ⟨T100, X100, e100, st100⟩ := getS (host := "") X98 hx hZ hown (ww hw 75 rfl) Via.refl e98 P2 (g := (mkF m 42 #[.val (.ref a1c), .val (.int 1)] [(.int (x1c &&& (255 : Int32)))])) rfl (hb hby d18_42)
  refine GoW.sg (mkF m 45 #[.val (.ref a1c), .val (.int 1)] [(.int 0), (.int (x1c &&& (255 : Int32)))]) (fun t k => st100 t k) ?_
  refine GoW.sg (mkF m 46 #[.val (.ref a1c), .val (.int 1)] [(.int ((x1c &&& (255 : Int32)) <<< ((0 : Int32) &&& 31)))]) (fun t k => XS.ishl X100.here hx rfl (hb hby d18_45) rfl k) ?_
  refine GoW.sg (mkF m 47 #[.val (.ref a1c), .val (.int 1)] [(.ref a1c), (.int ((x1c &&& (255 : Int32)) <<< ((0 : Int32) &&& 31)))]) (fun t k => XS.aloadN X100.here hx rfl (hb hby d18_46) rfl rfl k) ?_
  refine GoW.sg (mkF m 48 #[.val (.ref a1c), .val (.int 1)] [(.int 1), (.ref a1c), (.int ((x1c &&& (255 : Int32)) <<< ((0 : Int32) &&& 31)))]) (fun t k => XS.iloadN X100.here hx rfl (hb hby d18_47) rfl k) ?_
  obtain ⟨cl101, Ar101, q101, Sz101, Nn101, Hh101, Gg101⟩ := id P0
  have hin101 : ¬ ((1 : Int32) < 0 ∨ cl101.slots.size ≤ ((1 : Int32)).toNatClampNeg) := inb_of Sz101 ⟨by decide, by decide⟩
  refine GoW.sg (mkF m 49 #[.val (.ref a1c), .val (.int 1)] [(.int x2c), (.int ((x1c &&& (255 : Int32)) <<< ((0 : Int32) &&& 31)))]) (fun t k => X100.baloadBytes hx (j := (1 : Int32)) (v := (.int x2c)) (hq_ e100 Ar101.1) (State.isArrayOf_alike hZ.alike Ar101.2.1) Ar101.2.2 hin101 (Hh101.at hin101 rfl) (g := (mkF m 48 #[.val (.ref a1c), .val (.int 1)] [(.int 1), (.ref a1c), (.int ((x1c &&& (255 : Int32)) <<< ((0 : Int32) &&& 31)))])) rfl rfl (hb hby d18_48) t k) ?_
  refine GoW.sg (mkF m 52 #[.val (.ref a1c), .val (.int 1)] [(.int 255), (.int x2c), (.int ((x1c &&& (255 : Int32)) <<< ((0 : Int32) &&& 31)))]) (fun t k => XS.sipush X100.here hx rfl (hb hby d18_49) k) ?_
  refine GoW.sg (mkF m 53 #[.val (.ref a1c), .val (.int 1)] [(.int (x2c &&& (255 : Int32))), (.int ((x1c &&& (255 : Int32)) <<< ((0 : Int32) &&& 31)))]) (fun t k => XS.iand X100.here hx rfl (hb hby d18_52) rfl k) ?_
  obtain ⟨T102, X102, e102, st102⟩ := getS (host := "") X100 hx hZ hown (ww hw 76 rfl) Via.refl e100 P3 (g := (mkF m 53 #[.val (.ref a1c), .val (.int 1)] [(.int (x2c &&& (255 : Int32))), (.int ((x1c &&& (255 : Int32)) <<< ((0 : Int32) &&& 31)))])) rfl (hb hby d18_53)
  refine GoW.sg (mkF m 56 #[.val (.ref a1c), .val (.int 1)] [(.int 8), (.int (x2c &&& (255 : Int32))), (.int ((x1c &&& (255 : Int32)) <<< ((0 : Int32) &&& 31)))]) (fun t k => st102 t k) ?_
  refine GoW.sg (mkF m 57 #[.val (.ref a1c), .val (.int 1)] [(.int ((x2c &&& (255 : Int32)) <<< ((8 : Int32) &&& 31))), (.int ((x1c &&& (255 : Int32)) <<< ((0 : Int32) &&& 31)))]) (fun t k => XS.ishl X102.here hx rfl (hb hby d18_56) rfl k) ?_
  refine GoW.sg (mkF m 58 #[.val (.ref a1c), .val (.int 1)] [(.int (((x1c &&& (255 : Int32)) <<< ((0 : Int32) &&& 31)) ||| ((x2c &&& (255 : Int32)) <<< ((8 : Int32) &&& 31))))]) (fun t k => XS.ior X102.here hx rfl (hb hby d18_57) rfl k) ?_
  refine GoW.sg (mkF m 59 #[.val (.ref a1c), .val (.int 1)] [(.int (((x1c &&& (255 : Int32)) <<< ((0 : Int32) &&& 31)) ||| ((x2c &&& (255 : Int32)) <<< ((8 : Int32) &&& 31))).toUInt32.toUInt16.toUInt32.toInt32)]) (fun t k => XS.i2c X102.here hx rfl (hb hby d18_58) rfl k) ?_
  refine GoW.retN X102 hx (t := .char) Bd.returns (by simp) (hb hby d18_59) Bd.notSynchronized ?_ (by decide) (by decide)
  rw [e102]
  exact ⟨rfl, N0, rfl⟩
def Q4_10 (Z : State) (a1c : Addr) (ka1c : ClassId) (x1c : Int32) (x2c : Int32) (x3c : Int32) (x4c : Int32) (x5c : Int32) (h0 : Heap) (n0 : Nat) (v : Option Value) (h : Heap) (L : List Loc) : Prop := ∃ e0 : Addr, ∃ ke0 : ClassId, v = some (.ref e0) ∧ Fr n0 L ∧ (Keep h0 h []) ∧ (Arv Z h e0 ke0 .byte (8 : Int32) [(.int (lo8 x1c)), (.int (hi8 x1c)), (.int (lo8 x2c)), (.int (hi8 x2c)), (.int (lo8 x3c)), (.int (hi8 x3c)), (.int (lo8 x4c)), (.int (hi8 x4c))] (.int (0 : Int32))) ∧ (h0.size ≤ e0)
theorem ef4_rm4_10 (m : MethodId) (a1c : Addr) : entryFrame m #[(.ref a1c), (.int (0 : Int32)), (.int (4 : Int32))] 6 = (mkF m 0 #[.val (.ref a1c), .val (.int 0), .val (.int 4), .unset, .unset, .unset] []) := by first | (simp [entryFrame, mkF, argsToLocals, Value.category, maxLocals]; done) | rfl
set_option maxRecDepth 65536 in
set_option maxHeartbeats 40000000 in
theorem rm4_10 (l : Launch) (Z : State) (a0 : Array Value) (hw : ∀ d ∈ tables_1, d.before a0 Z = true) (ws : List Jvm.Cond) (a1c : Addr) (ka1c : ClassId) (x1c : Int32) (x2c : Int32) (x3c : Int32) (x4c : Int32) (x5c : Int32) (h0 : Heap) (n0 : Nat) (Z0 : n0 ≤ h0.size) (P0 : Arv Z h0 a1c ka1c .char (4 : Int32) [(.int x1c), (.int x2c), (.int x3c), (.int x4c)] (.int (0 : Int32))) (P1 : Sta Z h0 "java/lang/String" "COMPACT_STRINGS" "Z" (.int x5c)) (P2 : Sta Z h0 "java/lang/StringUTF16" "$assertionsDisabled" "Z" (.int (1 : Int32))) (P3 : Sta Z h0 "java/lang/StringUTF16" "HI_BYTE_SHIFT" "I" (.int (0 : Int32))) (P4 : Sta Z h0 "java/lang/StringUTF16" "LO_BYTE_SHIFT" "I" (.int (8 : Int32)))   (u0 : ¬ (x1c < (0 : Int32))) (u1 : ¬ ((65535 : Int32) < x1c)) (u2 : (255 : Int32) < x1c)   :
    MetFree l Y4 (head1 (Jvm.Cond.code Y4 jdk_52_method_16_code 6 (some (.array .byte)) :: ws) ({ frames := 3, cells := 2, slots := 12, locals := 40 } : Room)) (fun a U => a = #[(.ref a1c), (.int (0 : Int32)), (.int (4 : Int32))] ∧ Z.Warmed39 U.vm ∧ U.heap = h0) (fun _ _ _ _ _ => True) (fun _ U o U' => ∃ v L, o = .returned v ∧ (Q4_10 Z a1c ka1c x1c x2c x3c x4c x5c h0 n0) v U'.heap L ∧ FrameEnd U o U' L 2 12) := by
  refine MetFree.of_bodySF (plainFor_of_name pn_java_lang_StringUTF16) hisR ?_
  intro p e s m args below meth c s₁ Bd hml0 hP hK
  obtain ⟨rfl, hZ, hh⟩ := hP
  have hx := Bd.exec
  have hby := Bd.bytes
  have hml : c.maxLocals = 6 := hml0
  have hown : s.vm.findClass "java/lang/StringUTF16" = some m.cls := findClass_of_methodNamed Bd.named
  have hnm := (name_of_methodNamed Bd.named Bd.method).1
  have X0 : Stand p l e ({ frames := 3, cells := 2, slots := 12, locals := 40 } : Room) s m #[(.ref a1c), (.int (0 : Int32)), (.int (4 : Int32))] below meth c s₁ [] 0 0 := Stand.of_body Bd
  have e0 : s₁.heap = h0 := by rw [← hh, Bd.state]; rfl
  have N0 := Fr.nil n0
  refine GoW.mk ?_
  refine GoW.st (fun t k => castTop (ef4_rm4_10 m a1c) k) ?_
  show GoW p e below s (Q4_10 Z a1c ka1c x1c x2c x3c x4c x5c h0 n0) 2 12 (s₁.setTop (mkF m 0 (Sh1 a1c 0 4) []))
  refine GoW.sg (mkF m 1 (Sh1 a1c 0 4) [(.int 4)]) (fun t k => XS.iloadN X0.here hx rfl (hb hby d4_0) rfl k) ?_
  obtain ⟨T104, h104, k104, X104, e104, E104, A104, st104⟩ := newP X0 hx hZ (ww hw 19 rfl) e0 (g := (mkF m 1 (Sh1 a1c 0 4) [(.int 4)])) rfl (hb hby d4_1) rfl (by decide) (cap := 4) (by decide) (by decide) (by decide) (by decide)
  obtain ⟨b104, g104⟩ : ∃ z, z = h0.size := ⟨_, rfl⟩
  rw [← g104] at A104 st104
  have g_b104 : n0 ≤ b104 := Nat.le_trans Z0 (Nat.le_of_eq g104.symm)
  have sz_b104 : h0.size ≤ b104 := Nat.le_trans (Keep.refl h0 []).1 (Nat.le_of_eq g104.symm)
  have ne_a1c_b104 : a1c ≠ b104 := Nat.ne_of_lt (Nat.lt_of_lt_of_eq P0.lt g104.symm)
  have f104_1 := P0.ext E104
  have f104_2 := P1.ext E104
  have f104_3 := P2.ext E104
  have f104_4 := P3.ext E104
  have f104_5 := P4.ext E104
  have f104_6 := (Keep.refl h0 []).ext E104
  have f104_7 := Nat.le_trans Z0 E104.1
  have V104 : Arv Z h104 b104 k104 .byte (4 : Int32) [(.int (0 : Int32)), (.int (0 : Int32)), (.int (0 : Int32)), (.int (0 : Int32))] (.int (0 : Int32)) := (Arv.new A104 (by decide)).pad (pad_rep [] (.int (0 : Int32)) 4)
  refine GoW.sg (mkF m 3 (Sh1 a1c 0 4) [(.ref b104)]) (fun t k => st104 t k) ?_
  refine GoW.sg (mkF m 4 (Sh2 a1c 0 4 b104) []) (fun t k => XS.astoreN X104.here hx rfl (hb hby d4_3) rfl rfl (l' := (Sh2 a1c 0 4 b104)) rfl k) ?_
  refine GoW.sg (mkF m 5 (Sh2 a1c 0 4 b104) [(.ref a1c)]) (fun t k => XS.aloadN X104.here hx rfl (hb hby d4_4) rfl rfl k) ?_
  refine GoW.sg (mkF m 6 (Sh2 a1c 0 4 b104) [(.int 0), (.ref a1c)]) (fun t k => XS.iloadN X104.here hx rfl (hb hby d4_5) rfl k) ?_
  refine GoW.sg (mkF m 7 (Sh2 a1c 0 4 b104) [(.ref b104), (.int 0), (.ref a1c)]) (fun t k => XS.aloadN X104.here hx rfl (hb hby d4_6) rfl rfl k) ?_
  refine GoW.sg (mkF m 8 (Sh2 a1c 0 4 b104) [(.int 0), (.ref b104), (.int 0), (.ref a1c)]) (fun t k => XS.iconst X104.here hx rfl (hb hby d4_7) k) ?_
  refine GoW.sg (mkF m 9 (Sh2 a1c 0 4 b104) [(.int 4), (.int 0), (.ref b104), (.int 0), (.ref a1c)]) (fun t k => XS.iloadN X104.here hx rfl (hb hby d4_8) rfl k) ?_
  obtain ⟨_, T106, L106, X106, hQ106, st106⟩ := own_callS X104 hx hZ hown (y := Y5) (ww hw 20 rfl) (ww hw 21 rfl) (ww hw 17 rfl) (ww hw 22 rfl) (by decide) 0 (rm5_1 l Z a0 hw [] a1c b104 ka1c x1c x2c x3c x4c h104 n0  f104_1  ne_a1c_b104 u2 ) (by decide) (by decide) e104 (by decide) (by decide) (g := (mkF m 9 (Sh2 a1c 0 4 b104) [(.int 4), (.int 0), (.ref b104), (.int 0), (.ref a1c)])) rfl (by rw [hml]; rfl) (argsL := [(.ref a1c), (.int (0 : Int32)), (.ref b104), (.int (0 : Int32)), (.int (4 : Int32))]) (rest := []) (lenOf pd_285bCI5bBII29I rfl) rfl (by show 2 * 0 + _ ≤ _; exact Nat.le_of_eq rfl) (hb hby d4_9)
  obtain ⟨rfl, N106q, e106⟩ := hQ106
  have N106 := Fr.app N0 N106q
  refine GoW.sg (mkF m 12 (Sh2 a1c 0 4 b104) [(.int 0)]) (fun t k => st106 t k) ?_
  refine GoW.sg (mkF m 14 (Sh6 a1c 0 4 b104 0) []) (fun t k => XS.istore X106.here hx rfl (hb hby d4_12) rfl (l' := (Sh6 a1c 0 4 b104 0)) rfl k) ?_
  refine GoW.sg (mkF m 16 (Sh6 a1c 0 4 b104 0) [(.int 0)]) (fun t k => XS.iload X106.here hx rfl (hb hby d4_14) rfl k) ?_
  refine GoW.sg (mkF m 17 (Sh6 a1c 0 4 b104 0) [(.int 4), (.int 0)]) (fun t k => XS.iloadN X106.here hx rfl (hb hby d4_16) rfl k) ?_
  refine GoW.sg (mkF m 20 (Sh6 a1c 0 4 b104 0) []) (fun t k => XS.icmpNo X106.here hx rfl (hb hby d4_17) rfl (by decide) k) ?_
  refine GoW.sg (mkF m 21 (Sh6 a1c 0 4 b104 0) [(.ref a1c)]) (fun t k => XS.aloadN X106.here hx rfl (hb hby d4_20) rfl rfl k) ?_
  refine GoW.sg (mkF m 22 (Sh6 a1c 0 4 b104 0) [(.int 0), (.ref a1c)]) (fun t k => XS.iloadN X106.here hx rfl (hb hby d4_21) rfl k) ?_
  refine GoW.sg (mkF m 23 (Sh6 a1c 0 4 b104 0) [(.int 4), (.int 0), (.ref a1c)]) (fun t k => XS.iloadN X106.here hx rfl (hb hby d4_22) rfl k) ?_
  obtain ⟨_, T121, L121, X121, hQ121, st121⟩ := own_callS X106 hx hZ hown (y := Y14) (ww hw 61 rfl) (ww hw 62 rfl) (ww hw 17 rfl) (ww hw 63 rfl) (by decide) 0 (rm14_8 l Z a0 hw [] a1c ka1c x1c x2c x3c x4c x5c h104 n0 f104_7 f104_1 f104_2 f104_3 f104_4 f104_5    ) (by decide) (by decide) e106 (by decide) (by decide) (g := (mkF m 23 (Sh6 a1c 0 4 b104 0) [(.int 4), (.int 0), (.ref a1c)])) rfl (by rw [hml]; rfl) (argsL := [(.ref a1c), (.int (0 : Int32)), (.int (4 : Int32))]) (rest := []) (lenOf pd_285bCII295bB rfl) rfl (by show 2 * 0 + _ ≤ _; exact Nat.le_of_eq rfl) (hb hby d4_23)
  obtain ⟨b121_e0, k121_ke0, rfl, N121q, K121, p121_0, hz_b121_e0⟩ := hQ121
  have g_b121_e0 : n0 ≤ b121_e0 := Nat.le_trans f104_7 hz_b121_e0
  have sz_b121_e0 : h0.size ≤ b121_e0 := Nat.le_trans f104_6.1 hz_b121_e0
  have ne_a1c_b121_e0 : a1c ≠ b121_e0 := Nat.ne_of_lt (Nat.lt_of_lt_of_le f104_1.lt hz_b121_e0)
  have ne_b104_b121_e0 : b104 ≠ b121_e0 := Nat.ne_of_lt (Nat.lt_of_lt_of_le V104.lt hz_b121_e0)
  have N121 := Fr.app N106 N121q
  have f121_8 := f104_1.keep K121 nin0
  have f121_9 := own_staK0 f104_2 K121
  have f121_10 := own_staK0 f104_3 K121
  have f121_11 := own_staK0 f104_4 K121
  have f121_12 := own_staK0 f104_5 K121
  have f121_13 := f104_6.trans K121 all0
  have f121_14 := Nat.le_trans f104_7 K121.1
  have f121_15 := V104.keep K121 nin0
  refine GoW.sg (mkF m 26 (Sh6 a1c 0 4 b104 0) [(.ref b121_e0)]) (fun t k => st121 t k) ?_
  refine GoW.sg (mkF m 28 (Sh11 a1c 0 4 b104 0 b121_e0) []) (fun t k => XS.astore X121.here hx rfl (hb hby d4_26) rfl rfl (l' := (Sh11 a1c 0 4 b104 0 b121_e0)) rfl k) ?_
  refine GoW.sg (mkF m 30 (Sh11 a1c 0 4 b104 0 b121_e0) [(.ref b121_e0)]) (fun t k => XS.aload X121.here hx rfl (hb hby d4_28) rfl rfl k) ?_
  refine GoW.sg (mkF m 32 (Sh11 a1c 0 4 b104 0 b121_e0) [(.int 0), (.ref b121_e0)]) (fun t k => XS.iload X121.here hx rfl (hb hby d4_30) rfl k) ?_
  obtain ⟨_, T127, L127, X127, hQ127, st127⟩ := own_callS X121 hx hZ hown (y := Y18) (ww hw 77 rfl) (ww hw 78 rfl) (ww hw 17 rfl) (ww hw 79 rfl) (by decide) 0 (rm18_9 l Z a0 hw [] b121_e0 k121_ke0 (lo8 x1c) (hi8 x1c) (lo8 x2c) (hi8 x2c) (lo8 x3c) (hi8 x3c) (lo8 x4c) (hi8 x4c) T121.heap n0  p121_0 f121_10 f121_11 f121_12    ) (by decide) (by decide) rfl (by decide) (by decide) (g := (mkF m 32 (Sh11 a1c 0 4 b104 0 b121_e0) [(.int 0), (.ref b121_e0)])) rfl (by rw [hml]; rfl) (argsL := [(.ref b121_e0), (.int (0 : Int32))]) (rest := []) (lenOf pd_285bBI29C rfl) rfl (by show 2 * 0 + _ ≤ _; exact Nat.le_of_eq rfl) (hb hby d4_32)
  obtain ⟨rfl, N127q, e127⟩ := hQ127
  have N127 := Fr.app N121 N127q
  refine GoW.sg (mkF m 35 (Sh11 a1c 0 4 b104 0 b121_e0) [(.int (nar .char ((((lo8 x1c) &&& (255 : Int32)) <<< ((0 : Int32) &&& 31)) ||| (((hi8 x1c) &&& (255 : Int32)) <<< ((8 : Int32) &&& 31))).toUInt32.toUInt16.toUInt32.toInt32))]) (fun t k => st127 t k) ?_
  rw [show (nar .char ((((lo8 x1c) &&& (255 : Int32)) <<< ((0 : Int32) &&& 31)) ||| (((hi8 x1c) &&& (255 : Int32)) <<< ((8 : Int32) &&& 31))).toUInt32.toUInt16.toUInt32.toInt32) = x1c from (own_join _ u0 u1)]
  refine GoW.sg (mkF m 38 (Sh11 a1c 0 4 b104 0 b121_e0) [(.int 255), (.int x1c)]) (fun t k => XS.sipush X127.here hx rfl (hb hby d4_35) k) ?_
  refine GoW.sg (mkF m 54 (Sh11 a1c 0 4 b104 0 b121_e0) []) (fun t k => XS.icmpYes X127.here hx rfl (pc0 := 38) (pc' := 54) rfl (hb hby d4_38) rfl (tlt u2).2.2.1 (by decide) (by decide) k) ?_
  refine GoW.sg (mkF m 56 (Sh11 a1c 0 4 b104 0 b121_e0) [(.ref b121_e0)]) (fun t k => XS.aload X127.here hx rfl (hb hby d4_54) rfl rfl k) ?_
  refine GoW.retA X127 hx Bd.returns rfl rfl rfl (hb hby d4_56) Bd.notSynchronized ?_ (by decide) (by decide)
  rw [e127]
  exact ⟨b121_e0, k121_ke0, rfl, N127, f121_13, p121_0, sz_b121_e0⟩
def Q6_11 (Z : State) (a1c : Addr) (ka1c : ClassId) (x1c : Int32) (x2c : Int32) (x3c : Int32) (x4c : Int32) (x5c : Int32) (x6c : Int32) (x7c : Int32) (x8c : Int32) (h0 : Heap) (n0 : Nat) (v : Option Value) (h : Heap) (L : List Loc) : Prop := v = some (.int (1 : Int32)) ∧ Fr n0 L ∧ (h = h0)
theorem ef6_rm6_11 (m : MethodId) (a1c : Addr) : entryFrame m #[(.ref a1c), (.int (4 : Int32))] 2 = (mkF m 0 #[.val (.ref a1c), .val (.int 4)] []) := by first | (simp [entryFrame, mkF, argsToLocals, Value.category, maxLocals]; done) | rfl
set_option maxRecDepth 65536 in
set_option maxHeartbeats 40000000 in
theorem rm6_11 (l : Launch) (Z : State) (a0 : Array Value) (hw : ∀ d ∈ tables_1, d.before a0 Z = true) (ws : List Jvm.Cond) (a1c : Addr) (ka1c : ClassId) (x1c : Int32) (x2c : Int32) (x3c : Int32) (x4c : Int32) (x5c : Int32) (x6c : Int32) (x7c : Int32) (x8c : Int32) (h0 : Heap) (n0 : Nat) (P0 : Arv Z h0 a1c ka1c .byte (8 : Int32) [(.int x1c), (.int x2c), (.int x3c), (.int x4c), (.int x5c), (.int x6c), (.int x7c), (.int x8c)] (.int (0 : Int32)))      :
    MetFree l Y6 (head1 (Jvm.Cond.code Y6 jdk_52_method_15_code 2 (some .byte) :: ws) ({ frames := 0, cells := 0, slots := 0, locals := 0 } : Room)) (fun a U => a = #[(.ref a1c), (.int (4 : Int32))] ∧ Z.Warmed39 U.vm ∧ U.heap = h0) (fun _ _ _ _ _ => True) (fun _ U o U' => ∃ v L, o = .returned v ∧ (Q6_11 Z a1c ka1c x1c x2c x3c x4c x5c x6c x7c x8c h0 n0) v U'.heap L ∧ FrameEnd U o U' L 0 0) := by
  refine MetFree.of_bodySF (plainFor_of_name pn_java_lang_StringUTF16) hisR ?_
  intro p e s m args below meth c s₁ Bd hml0 hP hK
  obtain ⟨rfl, hZ, hh⟩ := hP
  have hx := Bd.exec
  have hby := Bd.bytes
  have hml : c.maxLocals = 2 := hml0
  have hown : s.vm.findClass "java/lang/StringUTF16" = some m.cls := findClass_of_methodNamed Bd.named
  have hnm := (name_of_methodNamed Bd.named Bd.method).1
  have X0 : Stand p l e ({ frames := 0, cells := 0, slots := 0, locals := 0 } : Room) s m #[(.ref a1c), (.int (4 : Int32))] below meth c s₁ [] 0 0 := Stand.of_body Bd
  have e0 : s₁.heap = h0 := by rw [← hh, Bd.state]; rfl
  have N0 := Fr.nil n0
  refine GoW.mk ?_
  refine GoW.st (fun t k => castTop (ef6_rm6_11 m a1c) k) ?_
  show GoW p e below s (Q6_11 Z a1c ka1c x1c x2c x3c x4c x5c x6c x7c x8c h0 n0) 0 0 (s₁.setTop (mkF m 0 #[.val (.ref a1c), .val (.int 4)] []))
  refine GoW.sg (mkF m 1 #[.val (.ref a1c), .val (.int 4)] [(.int 4)]) (fun t k => XS.iloadN X0.here hx rfl (hb hby d6_0) rfl k) ?_
  refine GoW.sg (mkF m 2 #[.val (.ref a1c), .val (.int 4)] [(.ref a1c), (.int 4)]) (fun t k => XS.aloadN X0.here hx rfl (hb hby d6_1) rfl rfl k) ?_
  obtain ⟨cl130, Ar130, q130, Sz130, Nn130, Hh130, Gg130⟩ := id P0
  have st130 := X0.arraylength hx (hq_ e0 Ar130.1) (State.isArrayOf_alike hZ.alike Ar130.2.1) (g := (mkF m 2 #[.val (.ref a1c), .val (.int 4)] [(.ref a1c), (.int 4)])) rfl rfl (hb hby d6_2)
  rw [len_of Sz130 Nn130] at st130
  refine GoW.sg (mkF m 3 #[.val (.ref a1c), .val (.int 4)] [(.int 8), (.int 4)]) (fun t k => st130 t k) ?_
  refine GoW.st (fun t k => XS.isub X0.here hx rfl (hb hby d6_3) rfl k) ?_
  rw [show ((4 : Int32) - (8 : Int32)) = (-4 : Int32) from by decide]
  show GoW p e below s (Q6_11 Z a1c ka1c x1c x2c x3c x4c x5c x6c x7c x8c h0 n0) 0 0 (s₁.setTop (mkF m 4 #[.val (.ref a1c), .val (.int 4)] [(.int (-4))]))
  refine GoW.sg (mkF m 6 #[.val (.ref a1c), .val (.int 4)] [(.int 31), (.int (-4))]) (fun t k => XS.bipush X0.here hx rfl (hb hby d6_4) k) ?_
  refine GoW.st (fun t k => XS.iushr X0.here hx rfl (hb hby d6_6) rfl k) ?_
  rw [show ((-4 : Int32).toUInt32 >>> ((31 : Int32) &&& 31).toUInt32).toInt32 = (1 : Int32) from by decide]
  show GoW p e below s (Q6_11 Z a1c ka1c x1c x2c x3c x4c x5c x6c x7c x8c h0 n0) 0 0 (s₁.setTop (mkF m 7 #[.val (.ref a1c), .val (.int 4)] [(.int 1)]))
  refine GoW.st (fun t k => XS.i2b X0.here hx rfl (hb hby d6_7) rfl k) ?_
  rw [show (1 : Int32).toInt8.toInt32 = (1 : Int32) from by decide]
  show GoW p e below s (Q6_11 Z a1c ka1c x1c x2c x3c x4c x5c x6c x7c x8c h0 n0) 0 0 (s₁.setTop (mkF m 8 #[.val (.ref a1c), .val (.int 4)] [(.int 1)]))
  refine GoW.retN X0 hx (t := .byte) Bd.returns (by simp) (hb hby d6_8) Bd.notSynchronized ?_ (by decide) (by decide)
  rw [e0]
  exact ⟨rfl, N0, rfl⟩
def Q2_12 (Z : State) (a1c : Addr) (a2c : Addr) (ka2c : ClassId) (x1c : Int32) (x2c : Int32) (x3c : Int32) (x4c : Int32) (x5c : Int32) (h0 : Heap) (n0 : Nat) (v : Option Value) (h : Heap) (L : List Loc) : Prop := ∃ e0 : Addr, ∃ ke0 : ClassId, v = none ∧ Fr n0 L ∧ (Keep h0 h [a1c]) ∧ (Exa Z h a1c "java/lang/String") ∧ (Fld Z h a1c "java/lang/String" "coder" "B" (.int (1 : Int32))) ∧ (Fld Z h a1c "java/lang/String" "value" "[B" (.ref e0)) ∧ (Arv Z h e0 ke0 .byte (8 : Int32) [(.int (lo8 x1c)), (.int (hi8 x1c)), (.int (lo8 x2c)), (.int (hi8 x2c)), (.int (lo8 x3c)), (.int (hi8 x3c)), (.int (lo8 x4c)), (.int (hi8 x4c))] (.int (0 : Int32))) ∧ (h0.size ≤ e0)
theorem ef2_rm2_12 (m : MethodId) (a1c : Addr) (a2c : Addr) : entryFrame m #[(.ref a1c), (.ref a2c), (.int (0 : Int32)), (.int (4 : Int32)), .null] 6 = (mkF m 0 #[.val (.ref a1c), .val (.ref a2c), .val (.int 0), .val (.int 4), .val .null, .unset] []) := by first | (simp [entryFrame, mkF, argsToLocals, Value.category, maxLocals]; done) | rfl
set_option maxRecDepth 65536 in
set_option maxHeartbeats 40000000 in
theorem rm2_12 (l : Launch) (Z : State) (a0 : Array Value) (hw : ∀ d ∈ tables_1, d.before a0 Z = true) (ws : List Jvm.Cond) (a1c : Addr) (a2c : Addr) (ka2c : ClassId) (x1c : Int32) (x2c : Int32) (x3c : Int32) (x4c : Int32) (x5c : Int32) (h0 : Heap) (n0 : Nat) (Z0 : n0 ≤ h0.size) (P0 : Exa Z h0 a1c "java/lang/String") (P1 : Fld Z h0 a1c "java/lang/String" "coder" "B" (.int (0 : Int32))) (P2 : Fld Z h0 a1c "java/lang/String" "value" "[B" .null) (P3 : Arv Z h0 a2c ka2c .char (4 : Int32) [(.int x1c), (.int x2c), (.int x3c), (.int x4c)] (.int (0 : Int32))) (P4 : Sta Z h0 "java/lang/String" "COMPACT_STRINGS" "Z" (.int x5c)) (P5 : Sta Z h0 "java/lang/StringUTF16" "$assertionsDisabled" "Z" (.int (1 : Int32))) (P6 : Sta Z h0 "java/lang/StringUTF16" "HI_BYTE_SHIFT" "I" (.int (0 : Int32))) (P7 : Sta Z h0 "java/lang/StringUTF16" "LO_BYTE_SHIFT" "I" (.int (8 : Int32))) (g_a1c : n0 ≤ a1c) (ne_a1c_a2c : a1c ≠ a2c) (u0 : ¬ (x1c < (0 : Int32))) (u1 : ¬ ((65535 : Int32) < x1c)) (u2 : ¬ (x5c = (0 : Int32))) (u3 : (255 : Int32) < x1c)   :
    MetFree l Y2 (head1 (Jvm.Cond.code Y2 jdk_42_method_149_code 6 none :: ws) ({ frames := 4, cells := 2, slots := 12, locals := 57 } : Room)) (fun a U => a = #[(.ref a1c), (.ref a2c), (.int (0 : Int32)), (.int (4 : Int32)), .null] ∧ Z.Warmed39 U.vm ∧ U.heap = h0) (fun _ _ _ _ _ => True) (fun _ U o U' => ∃ v L, o = .returned v ∧ (Q2_12 Z a1c a2c ka2c x1c x2c x3c x4c x5c h0 n0) v U'.heap L ∧ FrameEnd U o U' L 2 12) := by
  refine MetFree.of_bodySF (plainFor_of_name pn_java_lang_String) hisR ?_
  intro p e s m args below meth c s₁ Bd hml0 hP hK
  obtain ⟨rfl, hZ, hh⟩ := hP
  have hx := Bd.exec
  have hby := Bd.bytes
  have hml : c.maxLocals = 6 := hml0
  have hown : s.vm.findClass "java/lang/String" = some m.cls := findClass_of_methodNamed Bd.named
  have hnm := (name_of_methodNamed Bd.named Bd.method).1
  have X0 : Stand p l e ({ frames := 4, cells := 2, slots := 12, locals := 57 } : Room) s m #[(.ref a1c), (.ref a2c), (.int (0 : Int32)), (.int (4 : Int32)), .null] below meth c s₁ [] 0 0 := Stand.of_body Bd
  have e0 : s₁.heap = h0 := by rw [← hh, Bd.state]; rfl
  have N0 := Fr.nil n0
  refine GoW.mk ?_
  refine GoW.st (fun t k => castTop (ef2_rm2_12 m a1c a2c) k) ?_
  show GoW p e below s (Q2_12 Z a1c a2c ka2c x1c x2c x3c x4c x5c h0 n0) 2 12 (s₁.setTop (mkF m 0 (Sh0 a1c a2c 0 4) []))
  refine GoW.sg (mkF m 1 (Sh0 a1c a2c 0 4) [(.ref a1c)]) (fun t k => XS.aloadN X0.here hx rfl (hb hby d2_0) rfl rfl k) ?_
  obtain ⟨T134, X134, e134, st134⟩ := initO X0 hx hZ hown (ww hw 11 rfl) (ww hw 12 rfl) (ww hw 13 rfl) e0 (g := (mkF m 1 (Sh0 a1c a2c 0 4) [(.ref a1c)])) rfl (by rw [hml]; rfl) rfl (hb hby d2_1) (by decide) (W := 0) (by show 2 * 0 + _ ≤ _; exact Nat.le_of_eq rfl) (by decide)
  refine GoW.sg (mkF m 4 (Sh0 a1c a2c 0 4) []) (fun t k => st134 t k) ?_
  refine GoW.sg (mkF m 5 (Sh0 a1c a2c 0 4) [(.int 4)]) (fun t k => XS.iloadN X134.here hx rfl (hb hby d2_4) rfl k) ?_
  refine GoW.sg (mkF m 27 (Sh0 a1c a2c 0 4) []) (fun t k => XS.ifYes X134.here hx rfl (pc0 := 5) (pc' := 27) rfl (hb hby d2_5) rfl (by decide) (by decide) (by decide) k) ?_
  obtain ⟨T135, X135, e135, st135⟩ := getS (host := "") X134 hx hZ hown (ww hw 14 rfl) Via.refl e134 P4 (g := (mkF m 27 (Sh0 a1c a2c 0 4) [])) rfl (hb hby d2_27)
  refine GoW.sg (mkF m 30 (Sh0 a1c a2c 0 4) [(.int x5c)]) (fun t k => st135 t k) ?_
  refine GoW.sg (mkF m 33 (Sh0 a1c a2c 0 4) []) (fun t k => XS.ifNo X135.here hx rfl (hb hby d2_30) rfl ((if0 _ _).trans (feq u2).1) k) ?_
  refine GoW.sg (mkF m 34 (Sh0 a1c a2c 0 4) [(.ref a2c)]) (fun t k => XS.aloadN X135.here hx rfl (hb hby d2_33) rfl rfl k) ?_
  refine GoW.sg (mkF m 35 (Sh0 a1c a2c 0 4) [(.int 0), (.ref a2c)]) (fun t k => XS.iloadN X135.here hx rfl (hb hby d2_34) rfl k) ?_
  refine GoW.sg (mkF m 36 (Sh0 a1c a2c 0 4) [(.int 4), (.int 0), (.ref a2c)]) (fun t k => XS.iloadN X135.here hx rfl (hb hby d2_35) rfl k) ?_
  obtain ⟨_, T165, L165, X165, hQ165, st165⟩ := own_callS X135 hx hZ hown (y := Y4) (ww hw 15 rfl) (ww hw 16 rfl) (ww hw 17 rfl) (ww hw 18 rfl) (by decide) 0 (rm4_10 l Z a0 hw [] a2c ka2c x1c x2c x3c x4c x5c h0 n0 Z0 P3 P4 P5 P6 P7   u0 u1 u3 ) (by decide) (by decide) e135 (by decide) (by decide) (g := (mkF m 36 (Sh0 a1c a2c 0 4) [(.int 4), (.int 0), (.ref a2c)])) rfl (by rw [hml]; rfl) (argsL := [(.ref a2c), (.int (0 : Int32)), (.int (4 : Int32))]) (rest := []) (lenOf pd_285bCII295bB rfl) rfl (by show 2 * 0 + _ ≤ _; exact Nat.le_of_eq rfl) (hb hby d2_36)
  obtain ⟨b165_e0, k165_ke0, rfl, N165q, K165, p165_0, hz_b165_e0⟩ := hQ165
  have g_b165_e0 : n0 ≤ b165_e0 := Nat.le_trans Z0 hz_b165_e0
  have sz_b165_e0 : h0.size ≤ b165_e0 := Nat.le_trans (Keep.refl h0 [a1c]).1 hz_b165_e0
  have ne_a1c_b165_e0 : a1c ≠ b165_e0 := Nat.ne_of_lt (Nat.lt_of_lt_of_le P0.lt hz_b165_e0)
  have ne_a2c_b165_e0 : a2c ≠ b165_e0 := Nat.ne_of_lt (Nat.lt_of_lt_of_le P3.lt hz_b165_e0)
  have N165 := Fr.app N0 N165q
  have f165_1 := P0.keep K165
  have f165_2 := P1.keep K165 nin0
  have f165_3 := P2.keep K165 nin0
  have f165_4 := P3.keep K165 nin0
  have f165_5 := own_staK0 P4 K165
  have f165_6 := own_staK0 P5 K165
  have f165_7 := own_staK0 P6 K165
  have f165_8 := own_staK0 P7 K165
  have f165_9 := (Keep.refl h0 [a1c]).trans K165 all0
  have f165_10 := Nat.le_trans Z0 K165.1
  refine GoW.sg (mkF m 39 (Sh0 a1c a2c 0 4) [(.ref b165_e0)]) (fun t k => st165 t k) ?_
  refine GoW.sg (mkF m 41 (Sh12 a1c a2c 0 4 b165_e0) []) (fun t k => XS.astore X165.here hx rfl (hb hby d2_39) rfl rfl (l' := (Sh12 a1c a2c 0 4 b165_e0)) rfl k) ?_
  refine GoW.sg (mkF m 42 (Sh12 a1c a2c 0 4 b165_e0) [(.ref a1c)]) (fun t k => XS.aloadN X165.here hx rfl (hb hby d2_41) rfl rfl k) ?_
  refine GoW.sg (mkF m 44 (Sh12 a1c a2c 0 4 b165_e0) [(.ref b165_e0), (.ref a1c)]) (fun t k => XS.aload X165.here hx rfl (hb hby d2_42) rfl rfl k) ?_
  refine GoW.sg (mkF m 45 (Sh12 a1c a2c 0 4 b165_e0) [(.int 4), (.ref b165_e0), (.ref a1c)]) (fun t k => XS.iloadN X165.here hx rfl (hb hby d2_44) rfl k) ?_
  obtain ⟨_, T166, L166, X166, hQ166, st166⟩ := own_callS X165 hx hZ hown (y := Y6) (ww hw 23 rfl) (ww hw 24 rfl) (ww hw 17 rfl) (ww hw 25 rfl) (by decide) 1 (rm6_11 l Z a0 hw [] b165_e0 k165_ke0 (lo8 x1c) (hi8 x1c) (lo8 x2c) (hi8 x2c) (lo8 x3c) (hi8 x3c) (lo8 x4c) (hi8 x4c) T165.heap n0  p165_0    ) (by decide) (by decide) rfl (by decide) (by decide) (g := (mkF m 45 (Sh12 a1c a2c 0 4 b165_e0) [(.int 4), (.ref b165_e0), (.ref a1c)])) rfl (by rw [hml]; rfl) (argsL := [(.ref b165_e0), (.int (4 : Int32))]) (rest := [(.ref a1c)]) (lenOf pd_285bBI29B rfl) rfl (by show 2 * 0 + _ ≤ _; exact Nat.le_of_eq rfl) (hb hby d2_45)
  obtain ⟨rfl, N166q, e166⟩ := hQ166
  have N166 := Fr.app N165 N166q
  refine GoW.sg (mkF m 48 (Sh12 a1c a2c 0 4 b165_e0) [(.int 1), (.ref a1c)]) (fun t k => st166 t k) ?_
  obtain ⟨T167, h167, X167, e167, W167, st167⟩ := putF X166 hx hZ hown (host := "") (Or.inl (ww hw 26 rfl)) Via.refl e166 f165_2 f165_1 (Or.inr ⟨(ww hw 27 rfl), rfl, hnm⟩) (ww hw 2 rfl) (ty := .byte) (by decide) rfl rfl (g := (mkF m 48 (Sh12 a1c a2c 0 4 b165_e0) [(.int 1), (.ref a1c)])) rfl rfl (hb hby d2_48)
  have N167 := Fr.snoc X167 N166 g_a1c
  have f167_11 := f165_1.wr W167
  have f167_12 := f165_3.other W167 (Or.inr (slot_ne (t := (.array .byte)) (t' := .byte) (Or.inr (ww hw 29 rfl)) (Or.inr (ww hw 27 rfl)) (by decide) (by decide) (by decide)))
  have f167_13 := f165_4.other W167 (Ne.symm ne_a1c_a2c)
  have f167_14 := f165_5.wr W167
  have f167_15 := f165_6.wr W167
  have f167_16 := f165_7.wr W167
  have f167_17 := f165_8.wr W167
  have f167_18 := f165_9.wr W167 (Or.inl (List.mem_of_getElem? (i := 0) rfl))
  have f167_19 := Nat.le_trans f165_10 (Nat.le_of_eq W167.size.symm)
  have f167_20 := p165_0.other W167 (Ne.symm ne_a1c_b165_e0)
  have F167coder : Fld Z h167 a1c "java/lang/String" "coder" "B" (.int (1 : Int32)) := f165_2.same W167
  refine GoW.sg (mkF m 51 (Sh12 a1c a2c 0 4 b165_e0) []) (fun t k => st167 t k) ?_
  refine GoW.sg (mkF m 52 (Sh12 a1c a2c 0 4 b165_e0) [(.ref a1c)]) (fun t k => XS.aloadN X167.here hx rfl (hb hby d2_51) rfl rfl k) ?_
  refine GoW.sg (mkF m 54 (Sh12 a1c a2c 0 4 b165_e0) [(.ref b165_e0), (.ref a1c)]) (fun t k => XS.aload X167.here hx rfl (hb hby d2_52) rfl rfl k) ?_
  obtain ⟨T168, h168, X168, e168, W168, st168⟩ := putF X167 hx hZ hown (host := "") (Or.inl (ww hw 28 rfl)) Via.refl e167 f167_12 f167_11 (Or.inr ⟨(ww hw 29 rfl), rfl, hnm⟩) (ww hw 2 rfl) (ty := (.array .byte)) (by decide) rfl rfl (g := (mkF m 54 (Sh12 a1c a2c 0 4 b165_e0) [(.ref b165_e0), (.ref a1c)])) rfl rfl (hb hby d2_54)
  have N168 := Fr.snoc X168 N167 g_a1c
  have f168_21 := f167_11.wr W168
  have f168_22 := F167coder.other W168 (Or.inr (slot_ne (t := .byte) (t' := (.array .byte)) (Or.inr (ww hw 27 rfl)) (Or.inr (ww hw 29 rfl)) (by decide) (by decide) (by decide)))
  have f168_23 := f167_13.other W168 (Ne.symm ne_a1c_a2c)
  have f168_24 := f167_14.wr W168
  have f168_25 := f167_15.wr W168
  have f168_26 := f167_16.wr W168
  have f168_27 := f167_17.wr W168
  have f168_28 := f167_18.wr W168 (Or.inl (List.mem_of_getElem? (i := 0) rfl))
  have f168_29 := Nat.le_trans f167_19 (Nat.le_of_eq W168.size.symm)
  have f168_30 := f167_20.other W168 (Ne.symm ne_a1c_b165_e0)
  have F168value : Fld Z h168 a1c "java/lang/String" "value" "[B" (.ref b165_e0) := f167_12.same W168
  refine GoW.sg (mkF m 57 (Sh12 a1c a2c 0 4 b165_e0) []) (fun t k => st168 t k) ?_
  refine GoW.retV X168 hx Bd.returns (hb hby d2_57) Bd.notSynchronized ?_ (by decide) (by decide)
  rw [e168]
  exact ⟨b165_e0, k165_ke0, rfl, N168, f168_28, f168_21, f168_22, F168value, f168_30, sz_b165_e0⟩
def Q5_14 (Z : State) (a1c : Addr) (a2c : Addr) (ka2c : ClassId) (ka1c : ClassId) (x1c : Int32) (x2c : Int32) (x3c : Int32) (x4c : Int32) (x5c : Int32) (h0 : Heap) (n0 : Nat) (v : Option Value) (h : Heap) (L : List Loc) : Prop := v = some (.int (1 : Int32)) ∧ Fr n0 L ∧ (Keep h0 h [a2c]) ∧ (Arv Z h a2c ka2c .byte (4 : Int32) [(.int (lat8 x1c)), (.int (0 : Int32)), (.int (0 : Int32)), (.int (0 : Int32))] (.int (0 : Int32)))
theorem ef5_rm5_14 (m : MethodId) (a1c : Addr) (a2c : Addr) : entryFrame m #[(.ref a1c), (.int (0 : Int32)), (.ref a2c), (.int (0 : Int32)), (.int (4 : Int32))] 7 = (mkF m 0 #[.val (.ref a1c), .val (.int 0), .val (.ref a2c), .val (.int 0), .val (.int 4), .unset, .unset] []) := by first | (simp [entryFrame, mkF, argsToLocals, Value.category, maxLocals]; done) | rfl
set_option maxRecDepth 65536 in
set_option maxHeartbeats 40000000 in
theorem rm5_14 (l : Launch) (Z : State) (a0 : Array Value) (hw : ∀ d ∈ tables_1, d.before a0 Z = true) (ws : List Jvm.Cond) (a1c : Addr) (a2c : Addr) (ka2c : ClassId) (ka1c : ClassId) (x1c : Int32) (x2c : Int32) (x3c : Int32) (x4c : Int32) (x5c : Int32) (h0 : Heap) (n0 : Nat) (P0 : Arv Z h0 a2c ka2c .byte (4 : Int32) [(.int (0 : Int32)), (.int (0 : Int32)), (.int (0 : Int32)), (.int (0 : Int32))] (.int (0 : Int32))) (P1 : Arv Z h0 a1c ka1c .char (4 : Int32) [(.int x1c), (.int x2c), (.int x3c), (.int x4c)] (.int (0 : Int32))) (P2 : Sta Z h0 "java/lang/String" "COMPACT_STRINGS" "Z" (.int x5c)) (P3 : Sta Z h0 "java/lang/StringUTF16" "$assertionsDisabled" "Z" (.int (1 : Int32))) (P4 : Sta Z h0 "java/lang/StringUTF16" "HI_BYTE_SHIFT" "I" (.int (0 : Int32))) (P5 : Sta Z h0 "java/lang/StringUTF16" "LO_BYTE_SHIFT" "I" (.int (8 : Int32))) (g_a2c : n0 ≤ a2c) (ne_a1c_a2c : a1c ≠ a2c) (u0 : ¬ ((255 : Int32) < x1c)) (u1 : (255 : Int32) < x2c)   :
    MetFree l Y5 (head1 (Jvm.Cond.code Y5 jdk_52_method_21_code 7 (some .int) :: ws) ({ frames := 0, cells := 0, slots := 0, locals := 0 } : Room)) (fun a U => a = #[(.ref a1c), (.int (0 : Int32)), (.ref a2c), (.int (0 : Int32)), (.int (4 : Int32))] ∧ Z.Warmed39 U.vm ∧ U.heap = h0) (fun _ _ _ _ _ => True) (fun _ U o U' => ∃ v L, o = .returned v ∧ (Q5_14 Z a1c a2c ka2c ka1c x1c x2c x3c x4c x5c h0 n0) v U'.heap L ∧ FrameEnd U o U' L 0 0) := by
  refine MetFree.of_bodySF (plainFor_of_name pn_java_lang_StringUTF16) hisR ?_
  intro p e s m args below meth c s₁ Bd hml0 hP hK
  obtain ⟨rfl, hZ, hh⟩ := hP
  have hx := Bd.exec
  have hby := Bd.bytes
  have hml : c.maxLocals = 7 := hml0
  have hown : s.vm.findClass "java/lang/StringUTF16" = some m.cls := findClass_of_methodNamed Bd.named
  have hnm := (name_of_methodNamed Bd.named Bd.method).1
  have X0 : Stand p l e ({ frames := 0, cells := 0, slots := 0, locals := 0 } : Room) s m #[(.ref a1c), (.int (0 : Int32)), (.ref a2c), (.int (0 : Int32)), (.int (4 : Int32))] below meth c s₁ [] 0 0 := Stand.of_body Bd
  have e0 : s₁.heap = h0 := by rw [← hh, Bd.state]; rfl
  have N0 := Fr.nil n0
  refine GoW.mk ?_
  refine GoW.st (fun t k => castTop (ef5_rm5_14 m a1c a2c) k) ?_
  show GoW p e below s (Q5_14 Z a1c a2c ka2c ka1c x1c x2c x3c x4c x5c h0 n0) 0 0 (s₁.setTop (mkF m 0 (Sh3 a1c 0 a2c 0 4) []))
  refine GoW.sg (mkF m 1 (Sh3 a1c 0 a2c 0 4) [(.int 0)]) (fun t k => XS.iconst X0.here hx rfl (hb hby d5_0) k) ?_
  refine GoW.sg (mkF m 3 (Sh4 a1c 0 a2c 0 4 0) []) (fun t k => XS.istore X0.here hx rfl (hb hby d5_1) rfl (l' := (Sh4 a1c 0 a2c 0 4 0)) rfl k) ?_
  refine GoW.sg (mkF m 5 (Sh4 a1c 0 a2c 0 4 0) [(.int 0)]) (fun t k => XS.iload X0.here hx rfl (hb hby d5_3) rfl k) ?_
  refine GoW.sg (mkF m 7 (Sh4 a1c 0 a2c 0 4 0) [(.int 4), (.int 0)]) (fun t k => XS.iload X0.here hx rfl (hb hby d5_5) rfl k) ?_
  refine GoW.sg (mkF m 10 (Sh4 a1c 0 a2c 0 4 0) []) (fun t k => XS.icmpNo X0.here hx rfl (hb hby d5_7) rfl (by decide) k) ?_
  refine GoW.sg (mkF m 11 (Sh4 a1c 0 a2c 0 4 0) [(.ref a1c)]) (fun t k => XS.aloadN X0.here hx rfl (hb hby d5_10) rfl rfl k) ?_
  refine GoW.sg (mkF m 12 (Sh4 a1c 0 a2c 0 4 0) [(.int 0), (.ref a1c)]) (fun t k => XS.iloadN X0.here hx rfl (hb hby d5_11) rfl k) ?_
  obtain ⟨cl185, Ar185, q185, Sz185, Nn185, Hh185, Gg185⟩ := id P1
  have hin185 : ¬ ((0 : Int32) < 0 ∨ cl185.slots.size ≤ ((0 : Int32)).toNatClampNeg) := inb_of Sz185 ⟨by decide, by decide⟩
  refine GoW.sg (mkF m 13 (Sh4 a1c 0 a2c 0 4 0) [(.int x1c)]) (fun t k => X0.caload hx (j := (0 : Int32)) (v := (.int x1c)) (hq_ e0 Ar185.1) (State.isArrayOf_alike hZ.alike Ar185.2.1) Ar185.2.2 hin185 (Hh185.at hin185 rfl) (g := (mkF m 12 (Sh4 a1c 0 a2c 0 4 0) [(.int 0), (.ref a1c)])) rfl rfl (hb hby d5_12) t k) ?_
  refine GoW.sg (mkF m 15 (Sh5 a1c 0 a2c 0 4 0 x1c) []) (fun t k => XS.istore X0.here hx rfl (hb hby d5_13) rfl (l' := (Sh5 a1c 0 a2c 0 4 0 x1c)) rfl k) ?_
  refine GoW.sg (mkF m 17 (Sh5 a1c 0 a2c 0 4 0 x1c) [(.int x1c)]) (fun t k => XS.iload X0.here hx rfl (hb hby d5_15) rfl k) ?_
  refine GoW.sg (mkF m 20 (Sh5 a1c 0 a2c 0 4 0 x1c) [(.int 255), (.int x1c)]) (fun t k => XS.sipush X0.here hx rfl (hb hby d5_17) k) ?_
  refine GoW.sg (mkF m 26 (Sh5 a1c 0 a2c 0 4 0 x1c) []) (fun t k => XS.icmpYes X0.here hx rfl (pc0 := 20) (pc' := 26) rfl (hb hby d5_20) rfl (flt u0).2.2.2 (by decide) (by decide) k) ?_
  refine GoW.sg (mkF m 27 (Sh5 a1c 0 a2c 0 4 0 x1c) [(.ref a2c)]) (fun t k => XS.aloadN X0.here hx rfl (hb hby d5_26) rfl rfl k) ?_
  refine GoW.sg (mkF m 28 (Sh5 a1c 0 a2c 0 4 0 x1c) [(.int 0), (.ref a2c)]) (fun t k => XS.iloadN X0.here hx rfl (hb hby d5_27) rfl k) ?_
  refine GoW.sg (mkF m 30 (Sh5 a1c 0 a2c 0 4 0 x1c) [(.int x1c), (.int 0), (.ref a2c)]) (fun t k => XS.iload X0.here hx rfl (hb hby d5_28) rfl k) ?_
  refine GoW.sg (mkF m 31 (Sh5 a1c 0 a2c 0 4 0 x1c) [(.int x1c.toInt8.toInt32), (.int 0), (.ref a2c)]) (fun t k => XS.i2b X0.here hx rfl (hb hby d5_30) rfl k) ?_
  obtain ⟨cl186, Ar186, q186, Sz186, Nn186, Hh186, Gg186⟩ := P0
  have hin186 : ¬ ((0 : Int32) < 0 ∨ cl186.slots.size ≤ ((0 : Int32)).toNatClampNeg) := inb_of Sz186 ⟨by decide, by decide⟩
  obtain ⟨T186, h186, X186, e186, W186, st186⟩ := stB X0 hx hZ e0 Ar186 (j := (0 : Int32)) hin186 (g := (mkF m 31 (Sh5 a1c 0 a2c 0 4 0 x1c) [(.int x1c.toInt8.toInt32), (.int 0), (.ref a2c)])) rfl rfl (hb hby d5_31)
  have f186_1 := P1.other W186 ne_a1c_a2c
  have f186_2 := P2.wr W186
  have f186_3 := P3.wr W186
  have f186_4 := P4.wr W186
  have f186_5 := P5.wr W186
  have f186_6 := (Keep.refl h0 [a2c]).wr W186 (Or.inl (List.mem_of_getElem? (i := 0) rfl))
  have V186 : Arv Z h186 a2c ka2c .byte (4 : Int32) [(.int (lat8 x1c)), (.int (0 : Int32)), (.int (0 : Int32)), (.int (0 : Int32))] (.int (0 : Int32)) := Arv.set Ar186 q186 Sz186 Nn186 Hh186 Gg186 (fits_nar_byte _) W186 0 rfl (Nat.le_of_ble_eq_true rfl)
  have N186 := Fr.snoc X186 N0 g_a2c
  refine GoW.sg (mkF m 32 (Sh5 a1c 0 a2c 0 4 0 x1c) []) (fun t k => st186 t k) ?_
  refine GoW.sg (mkF m 35 (Sh5 a1c 1 a2c 0 4 0 x1c) []) (fun t k => XS.iinc X186.here hx rfl (hb hby d5_32) rfl (l' := (Sh5 a1c 1 a2c 0 4 0 x1c)) rfl k) ?_
  refine GoW.sg (mkF m 38 (Sh5 a1c 1 a2c 1 4 0 x1c) []) (fun t k => XS.iinc X186.here hx rfl (hb hby d5_35) rfl (l' := (Sh5 a1c 1 a2c 1 4 0 x1c)) rfl k) ?_
  refine GoW.sg (mkF m 41 (Sh5 a1c 1 a2c 1 4 1 x1c) []) (fun t k => XS.iinc X186.here hx rfl (hb hby d5_38) rfl (l' := (Sh5 a1c 1 a2c 1 4 1 x1c)) rfl k) ?_
  refine GoW.sg (mkF m 3 (Sh5 a1c 1 a2c 1 4 1 x1c) []) (fun t k => XS.goto X186.here hx rfl (pc0 := 41) (pc' := 3) rfl (hb hby d5_41) (by decide) (by decide) k) ?_
  refine GoW.sg (mkF m 5 (Sh5 a1c 1 a2c 1 4 1 x1c) [(.int 1)]) (fun t k => XS.iload X186.here hx rfl (hb hby d5_3) rfl k) ?_
  refine GoW.sg (mkF m 7 (Sh5 a1c 1 a2c 1 4 1 x1c) [(.int 4), (.int 1)]) (fun t k => XS.iload X186.here hx rfl (hb hby d5_5) rfl k) ?_
  refine GoW.sg (mkF m 10 (Sh5 a1c 1 a2c 1 4 1 x1c) []) (fun t k => XS.icmpNo X186.here hx rfl (hb hby d5_7) rfl (by decide) k) ?_
  refine GoW.sg (mkF m 11 (Sh5 a1c 1 a2c 1 4 1 x1c) [(.ref a1c)]) (fun t k => XS.aloadN X186.here hx rfl (hb hby d5_10) rfl rfl k) ?_
  refine GoW.sg (mkF m 12 (Sh5 a1c 1 a2c 1 4 1 x1c) [(.int 1), (.ref a1c)]) (fun t k => XS.iloadN X186.here hx rfl (hb hby d5_11) rfl k) ?_
  obtain ⟨cl187, Ar187, q187, Sz187, Nn187, Hh187, Gg187⟩ := id f186_1
  have hin187 : ¬ ((1 : Int32) < 0 ∨ cl187.slots.size ≤ ((1 : Int32)).toNatClampNeg) := inb_of Sz187 ⟨by decide, by decide⟩
  refine GoW.sg (mkF m 13 (Sh5 a1c 1 a2c 1 4 1 x1c) [(.int x2c)]) (fun t k => X186.caload hx (j := (1 : Int32)) (v := (.int x2c)) (hq_ e186 Ar187.1) (State.isArrayOf_alike hZ.alike Ar187.2.1) Ar187.2.2 hin187 (Hh187.at hin187 rfl) (g := (mkF m 12 (Sh5 a1c 1 a2c 1 4 1 x1c) [(.int 1), (.ref a1c)])) rfl rfl (hb hby d5_12) t k) ?_
  refine GoW.sg (mkF m 15 (Sh5 a1c 1 a2c 1 4 1 x2c) []) (fun t k => XS.istore X186.here hx rfl (hb hby d5_13) rfl (l' := (Sh5 a1c 1 a2c 1 4 1 x2c)) rfl k) ?_
  refine GoW.sg (mkF m 17 (Sh5 a1c 1 a2c 1 4 1 x2c) [(.int x2c)]) (fun t k => XS.iload X186.here hx rfl (hb hby d5_15) rfl k) ?_
  refine GoW.sg (mkF m 20 (Sh5 a1c 1 a2c 1 4 1 x2c) [(.int 255), (.int x2c)]) (fun t k => XS.sipush X186.here hx rfl (hb hby d5_17) k) ?_
  refine GoW.sg (mkF m 23 (Sh5 a1c 1 a2c 1 4 1 x2c) []) (fun t k => XS.icmpNo X186.here hx rfl (hb hby d5_20) rfl (tlt u1).2.2.2 k) ?_
  refine GoW.sg (mkF m 25 (Sh5 a1c 1 a2c 1 4 1 x2c) [(.int 1)]) (fun t k => XS.iload X186.here hx rfl (hb hby d5_23) rfl k) ?_
  refine GoW.retI X186 hx Bd.returns (hb hby d5_25) Bd.notSynchronized ?_ (by decide) (by decide)
  rw [e186]
  exact ⟨rfl, N186, f186_6, V186⟩
def Q18_15 (Z : State) (a1c : Addr) (ka1c : ClassId) (x1c : Int32) (x2c : Int32) (x3c : Int32) (x4c : Int32) (x5c : Int32) (x6c : Int32) (x7c : Int32) (x8c : Int32) (h0 : Heap) (n0 : Nat) (v : Option Value) (h : Heap) (L : List Loc) : Prop := v = some (.int (nar .char (((x3c &&& (255 : Int32)) <<< ((0 : Int32) &&& 31)) ||| ((x4c &&& (255 : Int32)) <<< ((8 : Int32) &&& 31))).toUInt32.toUInt16.toUInt32.toInt32)) ∧ Fr n0 L ∧ (h = h0)
theorem ef18_rm18_15 (m : MethodId) (a1c : Addr) : entryFrame m #[(.ref a1c), (.int (1 : Int32))] 2 = (mkF m 0 #[.val (.ref a1c), .val (.int 1)] []) := by first | (simp [entryFrame, mkF, argsToLocals, Value.category, maxLocals]; done) | rfl
set_option maxRecDepth 65536 in
set_option maxHeartbeats 40000000 in
theorem rm18_15 (l : Launch) (Z : State) (a0 : Array Value) (hw : ∀ d ∈ tables_1, d.before a0 Z = true) (ws : List Jvm.Cond) (a1c : Addr) (ka1c : ClassId) (x1c : Int32) (x2c : Int32) (x3c : Int32) (x4c : Int32) (x5c : Int32) (x6c : Int32) (x7c : Int32) (x8c : Int32) (h0 : Heap) (n0 : Nat) (P0 : Arv Z h0 a1c ka1c .byte (8 : Int32) [(.int x1c), (.int x2c), (.int x3c), (.int x4c), (.int x5c), (.int x6c), (.int x7c), (.int x8c)] (.int (0 : Int32))) (P1 : Sta Z h0 "java/lang/StringUTF16" "$assertionsDisabled" "Z" (.int (1 : Int32))) (P2 : Sta Z h0 "java/lang/StringUTF16" "HI_BYTE_SHIFT" "I" (.int (0 : Int32))) (P3 : Sta Z h0 "java/lang/StringUTF16" "LO_BYTE_SHIFT" "I" (.int (8 : Int32)))      :
    MetFree l Y18 (head1 (Jvm.Cond.code Y18 jdk_52_method_5_code 2 (some .char) :: ws) ({ frames := 0, cells := 0, slots := 0, locals := 0 } : Room)) (fun a U => a = #[(.ref a1c), (.int (1 : Int32))] ∧ Z.Warmed39 U.vm ∧ U.heap = h0) (fun _ _ _ _ _ => True) (fun _ U o U' => ∃ v L, o = .returned v ∧ (Q18_15 Z a1c ka1c x1c x2c x3c x4c x5c x6c x7c x8c h0 n0) v U'.heap L ∧ FrameEnd U o U' L 0 0) := by
  refine MetFree.of_bodySF (plainFor_of_name pn_java_lang_StringUTF16) hisR ?_
  intro p e s m args below meth c s₁ Bd hml0 hP hK
  obtain ⟨rfl, hZ, hh⟩ := hP
  have hx := Bd.exec
  have hby := Bd.bytes
  have hml : c.maxLocals = 2 := hml0
  have hown : s.vm.findClass "java/lang/StringUTF16" = some m.cls := findClass_of_methodNamed Bd.named
  have hnm := (name_of_methodNamed Bd.named Bd.method).1
  have X0 : Stand p l e ({ frames := 0, cells := 0, slots := 0, locals := 0 } : Room) s m #[(.ref a1c), (.int (1 : Int32))] below meth c s₁ [] 0 0 := Stand.of_body Bd
  have e0 : s₁.heap = h0 := by rw [← hh, Bd.state]; rfl
  have N0 := Fr.nil n0
  refine GoW.mk ?_
  refine GoW.st (fun t k => castTop (ef18_rm18_15 m a1c) k) ?_
  show GoW p e below s (Q18_15 Z a1c ka1c x1c x2c x3c x4c x5c x6c x7c x8c h0 n0) 0 0 (s₁.setTop (mkF m 0 #[.val (.ref a1c), .val (.int 1)] []))
  obtain ⟨T214, X214, e214, st214⟩ := getS (host := "") X0 hx hZ hown (ww hw 74 rfl) Via.refl e0 P1 (g := (mkF m 0 #[.val (.ref a1c), .val (.int 1)] [])) rfl (hb hby d18_0)
  refine GoW.sg (mkF m 3 #[.val (.ref a1c), .val (.int 1)] [(.int 1)]) (fun t k => st214 t k) ?_
  refine GoW.sg (mkF m 28 #[.val (.ref a1c), .val (.int 1)] []) (fun t k => XS.ifYes X214.here hx rfl (pc0 := 3) (pc' := 28) rfl (hb hby d18_3) rfl (by decide) (by decide) (by decide) k) ?_
  refine GoW.sg (mkF m 29 #[.val (.ref a1c), .val (.int 1)] [(.int 1)]) (fun t k => XS.iloadN X214.here hx rfl (hb hby d18_28) rfl k) ?_
  refine GoW.sg (mkF m 30 #[.val (.ref a1c), .val (.int 1)] [(.int 1), (.int 1)]) (fun t k => XS.iconst X214.here hx rfl (hb hby d18_29) k) ?_
  refine GoW.st (fun t k => XS.ishl X214.here hx rfl (hb hby d18_30) rfl k) ?_
  rw [show ((1 : Int32) <<< ((1 : Int32) &&& 31)) = (2 : Int32) from by decide]
  show GoW p e below s (Q18_15 Z a1c ka1c x1c x2c x3c x4c x5c x6c x7c x8c h0 n0) 0 0 (T214.setTop (mkF m 31 #[.val (.ref a1c), .val (.int 1)] [(.int 2)]))
  refine GoW.sg (mkF m 32 #[.val (.ref a1c), .val (.int 2)] []) (fun t k => XS.istoreN X214.here hx rfl (hb hby d18_31) rfl (l' := #[.val (.ref a1c), .val (.int 2)]) rfl k) ?_
  refine GoW.sg (mkF m 33 #[.val (.ref a1c), .val (.int 2)] [(.ref a1c)]) (fun t k => XS.aloadN X214.here hx rfl (hb hby d18_32) rfl rfl k) ?_
  refine GoW.sg (mkF m 34 #[.val (.ref a1c), .val (.int 2)] [(.int 2), (.ref a1c)]) (fun t k => XS.iloadN X214.here hx rfl (hb hby d18_33) rfl k) ?_
  refine GoW.sg (mkF m 37 #[.val (.ref a1c), .val (.int 3)] [(.int 2), (.ref a1c)]) (fun t k => XS.iinc X214.here hx rfl (hb hby d18_34) rfl (l' := #[.val (.ref a1c), .val (.int 3)]) rfl k) ?_
  obtain ⟨cl215, Ar215, q215, Sz215, Nn215, Hh215, Gg215⟩ := id P0
  have hin215 : ¬ ((2 : Int32) < 0 ∨ cl215.slots.size ≤ ((2 : Int32)).toNatClampNeg) := inb_of Sz215 ⟨by decide, by decide⟩
  refine GoW.sg (mkF m 38 #[.val (.ref a1c), .val (.int 3)] [(.int x3c)]) (fun t k => X214.baloadBytes hx (j := (2 : Int32)) (v := (.int x3c)) (hq_ e214 Ar215.1) (State.isArrayOf_alike hZ.alike Ar215.2.1) Ar215.2.2 hin215 (Hh215.at hin215 rfl) (g := (mkF m 37 #[.val (.ref a1c), .val (.int 3)] [(.int 2), (.ref a1c)])) rfl rfl (hb hby d18_37) t k) ?_
  refine GoW.sg (mkF m 41 #[.val (.ref a1c), .val (.int 3)] [(.int 255), (.int x3c)]) (fun t k => XS.sipush X214.here hx rfl (hb hby d18_38) k) ?_
  refine GoW.sg (mkF m 42 #[.val (.ref a1c), .val (.int 3)] [(.int (x3c &&& (255 : Int32)))]) (fun t k => XS.iand X214.here hx rfl (hb hby d18_41) rfl k) ?_
  obtain ⟨T216, X216, e216, st216⟩ := getS (host := "") X214 hx hZ hown (ww hw 75 rfl) Via.refl e214 P2 (g := (mkF m 42 #[.val (.ref a1c), .val (.int 3)] [(.int (x3c &&& (255 : Int32)))])) rfl (hb hby d18_42)
  refine GoW.sg (mkF m 45 #[.val (.ref a1c), .val (.int 3)] [(.int 0), (.int (x3c &&& (255 : Int32)))]) (fun t k => st216 t k) ?_
  refine GoW.sg (mkF m 46 #[.val (.ref a1c), .val (.int 3)] [(.int ((x3c &&& (255 : Int32)) <<< ((0 : Int32) &&& 31)))]) (fun t k => XS.ishl X216.here hx rfl (hb hby d18_45) rfl k) ?_
  refine GoW.sg (mkF m 47 #[.val (.ref a1c), .val (.int 3)] [(.ref a1c), (.int ((x3c &&& (255 : Int32)) <<< ((0 : Int32) &&& 31)))]) (fun t k => XS.aloadN X216.here hx rfl (hb hby d18_46) rfl rfl k) ?_
  refine GoW.sg (mkF m 48 #[.val (.ref a1c), .val (.int 3)] [(.int 3), (.ref a1c), (.int ((x3c &&& (255 : Int32)) <<< ((0 : Int32) &&& 31)))]) (fun t k => XS.iloadN X216.here hx rfl (hb hby d18_47) rfl k) ?_
  obtain ⟨cl217, Ar217, q217, Sz217, Nn217, Hh217, Gg217⟩ := id P0
  have hin217 : ¬ ((3 : Int32) < 0 ∨ cl217.slots.size ≤ ((3 : Int32)).toNatClampNeg) := inb_of Sz217 ⟨by decide, by decide⟩
  refine GoW.sg (mkF m 49 #[.val (.ref a1c), .val (.int 3)] [(.int x4c), (.int ((x3c &&& (255 : Int32)) <<< ((0 : Int32) &&& 31)))]) (fun t k => X216.baloadBytes hx (j := (3 : Int32)) (v := (.int x4c)) (hq_ e216 Ar217.1) (State.isArrayOf_alike hZ.alike Ar217.2.1) Ar217.2.2 hin217 (Hh217.at hin217 rfl) (g := (mkF m 48 #[.val (.ref a1c), .val (.int 3)] [(.int 3), (.ref a1c), (.int ((x3c &&& (255 : Int32)) <<< ((0 : Int32) &&& 31)))])) rfl rfl (hb hby d18_48) t k) ?_
  refine GoW.sg (mkF m 52 #[.val (.ref a1c), .val (.int 3)] [(.int 255), (.int x4c), (.int ((x3c &&& (255 : Int32)) <<< ((0 : Int32) &&& 31)))]) (fun t k => XS.sipush X216.here hx rfl (hb hby d18_49) k) ?_
  refine GoW.sg (mkF m 53 #[.val (.ref a1c), .val (.int 3)] [(.int (x4c &&& (255 : Int32))), (.int ((x3c &&& (255 : Int32)) <<< ((0 : Int32) &&& 31)))]) (fun t k => XS.iand X216.here hx rfl (hb hby d18_52) rfl k) ?_
  obtain ⟨T218, X218, e218, st218⟩ := getS (host := "") X216 hx hZ hown (ww hw 76 rfl) Via.refl e216 P3 (g := (mkF m 53 #[.val (.ref a1c), .val (.int 3)] [(.int (x4c &&& (255 : Int32))), (.int ((x3c &&& (255 : Int32)) <<< ((0 : Int32) &&& 31)))])) rfl (hb hby d18_53)
  refine GoW.sg (mkF m 56 #[.val (.ref a1c), .val (.int 3)] [(.int 8), (.int (x4c &&& (255 : Int32))), (.int ((x3c &&& (255 : Int32)) <<< ((0 : Int32) &&& 31)))]) (fun t k => st218 t k) ?_
  refine GoW.sg (mkF m 57 #[.val (.ref a1c), .val (.int 3)] [(.int ((x4c &&& (255 : Int32)) <<< ((8 : Int32) &&& 31))), (.int ((x3c &&& (255 : Int32)) <<< ((0 : Int32) &&& 31)))]) (fun t k => XS.ishl X218.here hx rfl (hb hby d18_56) rfl k) ?_
  refine GoW.sg (mkF m 58 #[.val (.ref a1c), .val (.int 3)] [(.int (((x3c &&& (255 : Int32)) <<< ((0 : Int32) &&& 31)) ||| ((x4c &&& (255 : Int32)) <<< ((8 : Int32) &&& 31))))]) (fun t k => XS.ior X218.here hx rfl (hb hby d18_57) rfl k) ?_
  refine GoW.sg (mkF m 59 #[.val (.ref a1c), .val (.int 3)] [(.int (((x3c &&& (255 : Int32)) <<< ((0 : Int32) &&& 31)) ||| ((x4c &&& (255 : Int32)) <<< ((8 : Int32) &&& 31))).toUInt32.toUInt16.toUInt32.toInt32)]) (fun t k => XS.i2c X218.here hx rfl (hb hby d18_58) rfl k) ?_
  refine GoW.retN X218 hx (t := .char) Bd.returns (by simp) (hb hby d18_59) Bd.notSynchronized ?_ (by decide) (by decide)
  rw [e218]
  exact ⟨rfl, N0, rfl⟩
def Q4_16 (Z : State) (a1c : Addr) (ka1c : ClassId) (x1c : Int32) (x2c : Int32) (x3c : Int32) (x4c : Int32) (x5c : Int32) (h0 : Heap) (n0 : Nat) (v : Option Value) (h : Heap) (L : List Loc) : Prop := ∃ e0 : Addr, ∃ ke0 : ClassId, v = some (.ref e0) ∧ Fr n0 L ∧ (Keep h0 h []) ∧ (Arv Z h e0 ke0 .byte (8 : Int32) [(.int (lo8 x1c)), (.int (hi8 x1c)), (.int (lo8 x2c)), (.int (hi8 x2c)), (.int (lo8 x3c)), (.int (hi8 x3c)), (.int (lo8 x4c)), (.int (hi8 x4c))] (.int (0 : Int32))) ∧ (h0.size ≤ e0)
theorem ef4_rm4_16 (m : MethodId) (a1c : Addr) : entryFrame m #[(.ref a1c), (.int (0 : Int32)), (.int (4 : Int32))] 6 = (mkF m 0 #[.val (.ref a1c), .val (.int 0), .val (.int 4), .unset, .unset, .unset] []) := by first | (simp [entryFrame, mkF, argsToLocals, Value.category, maxLocals]; done) | rfl
set_option maxRecDepth 65536 in
set_option maxHeartbeats 40000000 in
theorem rm4_16 (l : Launch) (Z : State) (a0 : Array Value) (hw : ∀ d ∈ tables_1, d.before a0 Z = true) (ws : List Jvm.Cond) (a1c : Addr) (ka1c : ClassId) (x1c : Int32) (x2c : Int32) (x3c : Int32) (x4c : Int32) (x5c : Int32) (h0 : Heap) (n0 : Nat) (Z0 : n0 ≤ h0.size) (P0 : Arv Z h0 a1c ka1c .char (4 : Int32) [(.int x1c), (.int x2c), (.int x3c), (.int x4c)] (.int (0 : Int32))) (P1 : Sta Z h0 "java/lang/String" "COMPACT_STRINGS" "Z" (.int x5c)) (P2 : Sta Z h0 "java/lang/StringUTF16" "$assertionsDisabled" "Z" (.int (1 : Int32))) (P3 : Sta Z h0 "java/lang/StringUTF16" "HI_BYTE_SHIFT" "I" (.int (0 : Int32))) (P4 : Sta Z h0 "java/lang/StringUTF16" "LO_BYTE_SHIFT" "I" (.int (8 : Int32)))   (u0 : ¬ (x2c < (0 : Int32))) (u1 : ¬ ((65535 : Int32) < x2c)) (u2 : ¬ ((255 : Int32) < x1c)) (u3 : (255 : Int32) < x2c)   :
    MetFree l Y4 (head1 (Jvm.Cond.code Y4 jdk_52_method_16_code 6 (some (.array .byte)) :: ws) ({ frames := 3, cells := 2, slots := 12, locals := 40 } : Room)) (fun a U => a = #[(.ref a1c), (.int (0 : Int32)), (.int (4 : Int32))] ∧ Z.Warmed39 U.vm ∧ U.heap = h0) (fun _ _ _ _ _ => True) (fun _ U o U' => ∃ v L, o = .returned v ∧ (Q4_16 Z a1c ka1c x1c x2c x3c x4c x5c h0 n0) v U'.heap L ∧ FrameEnd U o U' L 2 12) := by
  refine MetFree.of_bodySF (plainFor_of_name pn_java_lang_StringUTF16) hisR ?_
  intro p e s m args below meth c s₁ Bd hml0 hP hK
  obtain ⟨rfl, hZ, hh⟩ := hP
  have hx := Bd.exec
  have hby := Bd.bytes
  have hml : c.maxLocals = 6 := hml0
  have hown : s.vm.findClass "java/lang/StringUTF16" = some m.cls := findClass_of_methodNamed Bd.named
  have hnm := (name_of_methodNamed Bd.named Bd.method).1
  have X0 : Stand p l e ({ frames := 3, cells := 2, slots := 12, locals := 40 } : Room) s m #[(.ref a1c), (.int (0 : Int32)), (.int (4 : Int32))] below meth c s₁ [] 0 0 := Stand.of_body Bd
  have e0 : s₁.heap = h0 := by rw [← hh, Bd.state]; rfl
  have N0 := Fr.nil n0
  refine GoW.mk ?_
  refine GoW.st (fun t k => castTop (ef4_rm4_16 m a1c) k) ?_
  show GoW p e below s (Q4_16 Z a1c ka1c x1c x2c x3c x4c x5c h0 n0) 2 12 (s₁.setTop (mkF m 0 (Sh1 a1c 0 4) []))
  refine GoW.sg (mkF m 1 (Sh1 a1c 0 4) [(.int 4)]) (fun t k => XS.iloadN X0.here hx rfl (hb hby d4_0) rfl k) ?_
  obtain ⟨T220, h220, k220, X220, e220, E220, A220, st220⟩ := newP X0 hx hZ (ww hw 19 rfl) e0 (g := (mkF m 1 (Sh1 a1c 0 4) [(.int 4)])) rfl (hb hby d4_1) rfl (by decide) (cap := 4) (by decide) (by decide) (by decide) (by decide)
  obtain ⟨b220, g220⟩ : ∃ z, z = h0.size := ⟨_, rfl⟩
  rw [← g220] at A220 st220
  have g_b220 : n0 ≤ b220 := Nat.le_trans Z0 (Nat.le_of_eq g220.symm)
  have sz_b220 : h0.size ≤ b220 := Nat.le_trans (Keep.refl h0 []).1 (Nat.le_of_eq g220.symm)
  have ne_a1c_b220 : a1c ≠ b220 := Nat.ne_of_lt (Nat.lt_of_lt_of_eq P0.lt g220.symm)
  have f220_1 := P0.ext E220
  have f220_2 := P1.ext E220
  have f220_3 := P2.ext E220
  have f220_4 := P3.ext E220
  have f220_5 := P4.ext E220
  have f220_6 := (Keep.refl h0 []).ext E220
  have f220_7 := Nat.le_trans Z0 E220.1
  have V220 : Arv Z h220 b220 k220 .byte (4 : Int32) [(.int (0 : Int32)), (.int (0 : Int32)), (.int (0 : Int32)), (.int (0 : Int32))] (.int (0 : Int32)) := (Arv.new A220 (by decide)).pad (pad_rep [] (.int (0 : Int32)) 4)
  refine GoW.sg (mkF m 3 (Sh1 a1c 0 4) [(.ref b220)]) (fun t k => st220 t k) ?_
  refine GoW.sg (mkF m 4 (Sh2 a1c 0 4 b220) []) (fun t k => XS.astoreN X220.here hx rfl (hb hby d4_3) rfl rfl (l' := (Sh2 a1c 0 4 b220)) rfl k) ?_
  refine GoW.sg (mkF m 5 (Sh2 a1c 0 4 b220) [(.ref a1c)]) (fun t k => XS.aloadN X220.here hx rfl (hb hby d4_4) rfl rfl k) ?_
  refine GoW.sg (mkF m 6 (Sh2 a1c 0 4 b220) [(.int 0), (.ref a1c)]) (fun t k => XS.iloadN X220.here hx rfl (hb hby d4_5) rfl k) ?_
  refine GoW.sg (mkF m 7 (Sh2 a1c 0 4 b220) [(.ref b220), (.int 0), (.ref a1c)]) (fun t k => XS.aloadN X220.here hx rfl (hb hby d4_6) rfl rfl k) ?_
  refine GoW.sg (mkF m 8 (Sh2 a1c 0 4 b220) [(.int 0), (.ref b220), (.int 0), (.ref a1c)]) (fun t k => XS.iconst X220.here hx rfl (hb hby d4_7) k) ?_
  refine GoW.sg (mkF m 9 (Sh2 a1c 0 4 b220) [(.int 4), (.int 0), (.ref b220), (.int 0), (.ref a1c)]) (fun t k => XS.iloadN X220.here hx rfl (hb hby d4_8) rfl k) ?_
  obtain ⟨_, T224, L224, X224, hQ224, st224⟩ := own_callS X220 hx hZ hown (y := Y5) (ww hw 20 rfl) (ww hw 21 rfl) (ww hw 17 rfl) (ww hw 22 rfl) (by decide) 0 (rm5_14 l Z a0 hw [] a1c b220 k220 ka1c x1c x2c x3c x4c x5c h220 n0  V220 f220_1 f220_2 f220_3 f220_4 f220_5 g_b220 ne_a1c_b220 u2 u3 ) (by decide) (by decide) e220 (by decide) (by decide) (g := (mkF m 9 (Sh2 a1c 0 4 b220) [(.int 4), (.int 0), (.ref b220), (.int 0), (.ref a1c)])) rfl (by rw [hml]; rfl) (argsL := [(.ref a1c), (.int (0 : Int32)), (.ref b220), (.int (0 : Int32)), (.int (4 : Int32))]) (rest := []) (lenOf pd_285bCI5bBII29I rfl) rfl (by show 2 * 0 + _ ≤ _; exact Nat.le_of_eq rfl) (hb hby d4_9)
  obtain ⟨rfl, N224q, K224, p224_0⟩ := hQ224
  have N224 := Fr.app N0 N224q
  have f224_8 := f220_1.keep K224 (ninS ne_a1c_b220 nin0)
  have f224_9 := own_staK f220_2 K224 (allS (own_nsA V220) all0)
  have f224_10 := own_staK f220_3 K224 (allS (own_nsA V220) all0)
  have f224_11 := own_staK f220_4 K224 (allS (own_nsA V220) all0)
  have f224_12 := own_staK f220_5 K224 (allS (own_nsA V220) all0)
  have f224_13 := f220_6.trans K224 (allS (Or.inr sz_b220) all0)
  have f224_14 := Nat.le_trans f220_7 K224.1
  refine GoW.sg (mkF m 12 (Sh2 a1c 0 4 b220) [(.int 1)]) (fun t k => st224 t k) ?_
  refine GoW.sg (mkF m 14 (Sh6 a1c 0 4 b220 1) []) (fun t k => XS.istore X224.here hx rfl (hb hby d4_12) rfl (l' := (Sh6 a1c 0 4 b220 1)) rfl k) ?_
  refine GoW.sg (mkF m 16 (Sh6 a1c 0 4 b220 1) [(.int 1)]) (fun t k => XS.iload X224.here hx rfl (hb hby d4_14) rfl k) ?_
  refine GoW.sg (mkF m 17 (Sh6 a1c 0 4 b220 1) [(.int 4), (.int 1)]) (fun t k => XS.iloadN X224.here hx rfl (hb hby d4_16) rfl k) ?_
  refine GoW.sg (mkF m 20 (Sh6 a1c 0 4 b220 1) []) (fun t k => XS.icmpNo X224.here hx rfl (hb hby d4_17) rfl (by decide) k) ?_
  refine GoW.sg (mkF m 21 (Sh6 a1c 0 4 b220 1) [(.ref a1c)]) (fun t k => XS.aloadN X224.here hx rfl (hb hby d4_20) rfl rfl k) ?_
  refine GoW.sg (mkF m 22 (Sh6 a1c 0 4 b220 1) [(.int 0), (.ref a1c)]) (fun t k => XS.iloadN X224.here hx rfl (hb hby d4_21) rfl k) ?_
  refine GoW.sg (mkF m 23 (Sh6 a1c 0 4 b220 1) [(.int 4), (.int 0), (.ref a1c)]) (fun t k => XS.iloadN X224.here hx rfl (hb hby d4_22) rfl k) ?_
  obtain ⟨_, T244, L244, X244, hQ244, st244⟩ := own_callS X224 hx hZ hown (y := Y14) (ww hw 61 rfl) (ww hw 62 rfl) (ww hw 17 rfl) (ww hw 63 rfl) (by decide) 0 (rm14_8 l Z a0 hw [] a1c ka1c x1c x2c x3c x4c x5c T224.heap n0 f224_14 f224_8 f224_9 f224_10 f224_11 f224_12    ) (by decide) (by decide) rfl (by decide) (by decide) (g := (mkF m 23 (Sh6 a1c 0 4 b220 1) [(.int 4), (.int 0), (.ref a1c)])) rfl (by rw [hml]; rfl) (argsL := [(.ref a1c), (.int (0 : Int32)), (.int (4 : Int32))]) (rest := []) (lenOf pd_285bCII295bB rfl) rfl (by show 2 * 0 + _ ≤ _; exact Nat.le_of_eq rfl) (hb hby d4_23)
  obtain ⟨b244_e0, k244_ke0, rfl, N244q, K244, p244_0, hz_b244_e0⟩ := hQ244
  have g_b244_e0 : n0 ≤ b244_e0 := Nat.le_trans f224_14 hz_b244_e0
  have sz_b244_e0 : h0.size ≤ b244_e0 := Nat.le_trans f224_13.1 hz_b244_e0
  have ne_a1c_b244_e0 : a1c ≠ b244_e0 := Nat.ne_of_lt (Nat.lt_of_lt_of_le f224_8.lt hz_b244_e0)
  have ne_b220_b244_e0 : b220 ≠ b244_e0 := Nat.ne_of_lt (Nat.lt_of_lt_of_le p224_0.lt hz_b244_e0)
  have N244 := Fr.app N224 N244q
  have f244_15 := f224_8.keep K244 nin0
  have f244_16 := own_staK0 f224_9 K244
  have f244_17 := own_staK0 f224_10 K244
  have f244_18 := own_staK0 f224_11 K244
  have f244_19 := own_staK0 f224_12 K244
  have f244_20 := f224_13.trans K244 all0
  have f244_21 := Nat.le_trans f224_14 K244.1
  have f244_22 := p224_0.keep K244 nin0
  refine GoW.sg (mkF m 26 (Sh6 a1c 0 4 b220 1) [(.ref b244_e0)]) (fun t k => st244 t k) ?_
  refine GoW.sg (mkF m 28 (Sh11 a1c 0 4 b220 1 b244_e0) []) (fun t k => XS.astore X244.here hx rfl (hb hby d4_26) rfl rfl (l' := (Sh11 a1c 0 4 b220 1 b244_e0)) rfl k) ?_
  refine GoW.sg (mkF m 30 (Sh11 a1c 0 4 b220 1 b244_e0) [(.ref b244_e0)]) (fun t k => XS.aload X244.here hx rfl (hb hby d4_28) rfl rfl k) ?_
  refine GoW.sg (mkF m 32 (Sh11 a1c 0 4 b220 1 b244_e0) [(.int 1), (.ref b244_e0)]) (fun t k => XS.iload X244.here hx rfl (hb hby d4_30) rfl k) ?_
  obtain ⟨_, T250, L250, X250, hQ250, st250⟩ := own_callS X244 hx hZ hown (y := Y18) (ww hw 77 rfl) (ww hw 78 rfl) (ww hw 17 rfl) (ww hw 79 rfl) (by decide) 0 (rm18_15 l Z a0 hw [] b244_e0 k244_ke0 (lo8 x1c) (hi8 x1c) (lo8 x2c) (hi8 x2c) (lo8 x3c) (hi8 x3c) (lo8 x4c) (hi8 x4c) T244.heap n0  p244_0 f244_17 f244_18 f244_19    ) (by decide) (by decide) rfl (by decide) (by decide) (g := (mkF m 32 (Sh11 a1c 0 4 b220 1 b244_e0) [(.int 1), (.ref b244_e0)])) rfl (by rw [hml]; rfl) (argsL := [(.ref b244_e0), (.int (1 : Int32))]) (rest := []) (lenOf pd_285bBI29C rfl) rfl (by show 2 * 0 + _ ≤ _; exact Nat.le_of_eq rfl) (hb hby d4_32)
  obtain ⟨rfl, N250q, e250⟩ := hQ250
  have N250 := Fr.app N244 N250q
  refine GoW.sg (mkF m 35 (Sh11 a1c 0 4 b220 1 b244_e0) [(.int (nar .char ((((lo8 x2c) &&& (255 : Int32)) <<< ((0 : Int32) &&& 31)) ||| (((hi8 x2c) &&& (255 : Int32)) <<< ((8 : Int32) &&& 31))).toUInt32.toUInt16.toUInt32.toInt32))]) (fun t k => st250 t k) ?_
  rw [show (nar .char ((((lo8 x2c) &&& (255 : Int32)) <<< ((0 : Int32) &&& 31)) ||| (((hi8 x2c) &&& (255 : Int32)) <<< ((8 : Int32) &&& 31))).toUInt32.toUInt16.toUInt32.toInt32) = x2c from (own_join _ u0 u1)]
  refine GoW.sg (mkF m 38 (Sh11 a1c 0 4 b220 1 b244_e0) [(.int 255), (.int x2c)]) (fun t k => XS.sipush X250.here hx rfl (hb hby d4_35) k) ?_
  refine GoW.sg (mkF m 54 (Sh11 a1c 0 4 b220 1 b244_e0) []) (fun t k => XS.icmpYes X250.here hx rfl (pc0 := 38) (pc' := 54) rfl (hb hby d4_38) rfl (tlt u3).2.2.1 (by decide) (by decide) k) ?_
  refine GoW.sg (mkF m 56 (Sh11 a1c 0 4 b220 1 b244_e0) [(.ref b244_e0)]) (fun t k => XS.aload X250.here hx rfl (hb hby d4_54) rfl rfl k) ?_
  refine GoW.retA X250 hx Bd.returns rfl rfl rfl (hb hby d4_56) Bd.notSynchronized ?_ (by decide) (by decide)
  rw [e250]
  exact ⟨b244_e0, k244_ke0, rfl, N250, f244_20, p244_0, sz_b244_e0⟩
def Q2_17 (Z : State) (a1c : Addr) (a2c : Addr) (ka2c : ClassId) (x1c : Int32) (x2c : Int32) (x3c : Int32) (x4c : Int32) (x5c : Int32) (h0 : Heap) (n0 : Nat) (v : Option Value) (h : Heap) (L : List Loc) : Prop := ∃ e0 : Addr, ∃ ke0 : ClassId, v = none ∧ Fr n0 L ∧ (Keep h0 h [a1c]) ∧ (Exa Z h a1c "java/lang/String") ∧ (Fld Z h a1c "java/lang/String" "coder" "B" (.int (1 : Int32))) ∧ (Fld Z h a1c "java/lang/String" "value" "[B" (.ref e0)) ∧ (Arv Z h e0 ke0 .byte (8 : Int32) [(.int (lo8 x1c)), (.int (hi8 x1c)), (.int (lo8 x2c)), (.int (hi8 x2c)), (.int (lo8 x3c)), (.int (hi8 x3c)), (.int (lo8 x4c)), (.int (hi8 x4c))] (.int (0 : Int32))) ∧ (h0.size ≤ e0)
theorem ef2_rm2_17 (m : MethodId) (a1c : Addr) (a2c : Addr) : entryFrame m #[(.ref a1c), (.ref a2c), (.int (0 : Int32)), (.int (4 : Int32)), .null] 6 = (mkF m 0 #[.val (.ref a1c), .val (.ref a2c), .val (.int 0), .val (.int 4), .val .null, .unset] []) := by first | (simp [entryFrame, mkF, argsToLocals, Value.category, maxLocals]; done) | rfl
set_option maxRecDepth 65536 in
set_option maxHeartbeats 40000000 in
theorem rm2_17 (l : Launch) (Z : State) (a0 : Array Value) (hw : ∀ d ∈ tables_1, d.before a0 Z = true) (ws : List Jvm.Cond) (a1c : Addr) (a2c : Addr) (ka2c : ClassId) (x1c : Int32) (x2c : Int32) (x3c : Int32) (x4c : Int32) (x5c : Int32) (h0 : Heap) (n0 : Nat) (Z0 : n0 ≤ h0.size) (P0 : Exa Z h0 a1c "java/lang/String") (P1 : Fld Z h0 a1c "java/lang/String" "coder" "B" (.int (0 : Int32))) (P2 : Fld Z h0 a1c "java/lang/String" "value" "[B" .null) (P3 : Arv Z h0 a2c ka2c .char (4 : Int32) [(.int x1c), (.int x2c), (.int x3c), (.int x4c)] (.int (0 : Int32))) (P4 : Sta Z h0 "java/lang/String" "COMPACT_STRINGS" "Z" (.int x5c)) (P5 : Sta Z h0 "java/lang/StringUTF16" "$assertionsDisabled" "Z" (.int (1 : Int32))) (P6 : Sta Z h0 "java/lang/StringUTF16" "HI_BYTE_SHIFT" "I" (.int (0 : Int32))) (P7 : Sta Z h0 "java/lang/StringUTF16" "LO_BYTE_SHIFT" "I" (.int (8 : Int32))) (g_a1c : n0 ≤ a1c) (ne_a1c_a2c : a1c ≠ a2c) (u0 : ¬ (x2c < (0 : Int32))) (u1 : ¬ ((65535 : Int32) < x2c)) (u2 : ¬ (x5c = (0 : Int32))) (u3 : ¬ ((255 : Int32) < x1c)) (u4 : (255 : Int32) < x2c)   :
    MetFree l Y2 (head1 (Jvm.Cond.code Y2 jdk_42_method_149_code 6 none :: ws) ({ frames := 4, cells := 2, slots := 12, locals := 57 } : Room)) (fun a U => a = #[(.ref a1c), (.ref a2c), (.int (0 : Int32)), (.int (4 : Int32)), .null] ∧ Z.Warmed39 U.vm ∧ U.heap = h0) (fun _ _ _ _ _ => True) (fun _ U o U' => ∃ v L, o = .returned v ∧ (Q2_17 Z a1c a2c ka2c x1c x2c x3c x4c x5c h0 n0) v U'.heap L ∧ FrameEnd U o U' L 2 12) := by
  refine MetFree.of_bodySF (plainFor_of_name pn_java_lang_String) hisR ?_
  intro p e s m args below meth c s₁ Bd hml0 hP hK
  obtain ⟨rfl, hZ, hh⟩ := hP
  have hx := Bd.exec
  have hby := Bd.bytes
  have hml : c.maxLocals = 6 := hml0
  have hown : s.vm.findClass "java/lang/String" = some m.cls := findClass_of_methodNamed Bd.named
  have hnm := (name_of_methodNamed Bd.named Bd.method).1
  have X0 : Stand p l e ({ frames := 4, cells := 2, slots := 12, locals := 57 } : Room) s m #[(.ref a1c), (.ref a2c), (.int (0 : Int32)), (.int (4 : Int32)), .null] below meth c s₁ [] 0 0 := Stand.of_body Bd
  have e0 : s₁.heap = h0 := by rw [← hh, Bd.state]; rfl
  have N0 := Fr.nil n0
  refine GoW.mk ?_
  refine GoW.st (fun t k => castTop (ef2_rm2_17 m a1c a2c) k) ?_
  show GoW p e below s (Q2_17 Z a1c a2c ka2c x1c x2c x3c x4c x5c h0 n0) 2 12 (s₁.setTop (mkF m 0 (Sh0 a1c a2c 0 4) []))
  refine GoW.sg (mkF m 1 (Sh0 a1c a2c 0 4) [(.ref a1c)]) (fun t k => XS.aloadN X0.here hx rfl (hb hby d2_0) rfl rfl k) ?_
  obtain ⟨T255, X255, e255, st255⟩ := initO X0 hx hZ hown (ww hw 11 rfl) (ww hw 12 rfl) (ww hw 13 rfl) e0 (g := (mkF m 1 (Sh0 a1c a2c 0 4) [(.ref a1c)])) rfl (by rw [hml]; rfl) rfl (hb hby d2_1) (by decide) (W := 0) (by show 2 * 0 + _ ≤ _; exact Nat.le_of_eq rfl) (by decide)
  refine GoW.sg (mkF m 4 (Sh0 a1c a2c 0 4) []) (fun t k => st255 t k) ?_
  refine GoW.sg (mkF m 5 (Sh0 a1c a2c 0 4) [(.int 4)]) (fun t k => XS.iloadN X255.here hx rfl (hb hby d2_4) rfl k) ?_
  refine GoW.sg (mkF m 27 (Sh0 a1c a2c 0 4) []) (fun t k => XS.ifYes X255.here hx rfl (pc0 := 5) (pc' := 27) rfl (hb hby d2_5) rfl (by decide) (by decide) (by decide) k) ?_
  obtain ⟨T256, X256, e256, st256⟩ := getS (host := "") X255 hx hZ hown (ww hw 14 rfl) Via.refl e255 P4 (g := (mkF m 27 (Sh0 a1c a2c 0 4) [])) rfl (hb hby d2_27)
  refine GoW.sg (mkF m 30 (Sh0 a1c a2c 0 4) [(.int x5c)]) (fun t k => st256 t k) ?_
  refine GoW.sg (mkF m 33 (Sh0 a1c a2c 0 4) []) (fun t k => XS.ifNo X256.here hx rfl (hb hby d2_30) rfl ((if0 _ _).trans (feq u2).1) k) ?_
  refine GoW.sg (mkF m 34 (Sh0 a1c a2c 0 4) [(.ref a2c)]) (fun t k => XS.aloadN X256.here hx rfl (hb hby d2_33) rfl rfl k) ?_
  refine GoW.sg (mkF m 35 (Sh0 a1c a2c 0 4) [(.int 0), (.ref a2c)]) (fun t k => XS.iloadN X256.here hx rfl (hb hby d2_34) rfl k) ?_
  refine GoW.sg (mkF m 36 (Sh0 a1c a2c 0 4) [(.int 4), (.int 0), (.ref a2c)]) (fun t k => XS.iloadN X256.here hx rfl (hb hby d2_35) rfl k) ?_
  obtain ⟨_, T278, L278, X278, hQ278, st278⟩ := own_callS X256 hx hZ hown (y := Y4) (ww hw 15 rfl) (ww hw 16 rfl) (ww hw 17 rfl) (ww hw 18 rfl) (by decide) 0 (rm4_16 l Z a0 hw [] a2c ka2c x1c x2c x3c x4c x5c h0 n0 Z0 P3 P4 P5 P6 P7   u0 u1 u3 u4 ) (by decide) (by decide) e256 (by decide) (by decide) (g := (mkF m 36 (Sh0 a1c a2c 0 4) [(.int 4), (.int 0), (.ref a2c)])) rfl (by rw [hml]; rfl) (argsL := [(.ref a2c), (.int (0 : Int32)), (.int (4 : Int32))]) (rest := []) (lenOf pd_285bCII295bB rfl) rfl (by show 2 * 0 + _ ≤ _; exact Nat.le_of_eq rfl) (hb hby d2_36)
  obtain ⟨b278_e0, k278_ke0, rfl, N278q, K278, p278_0, hz_b278_e0⟩ := hQ278
  have g_b278_e0 : n0 ≤ b278_e0 := Nat.le_trans Z0 hz_b278_e0
  have sz_b278_e0 : h0.size ≤ b278_e0 := Nat.le_trans (Keep.refl h0 [a1c]).1 hz_b278_e0
  have ne_a1c_b278_e0 : a1c ≠ b278_e0 := Nat.ne_of_lt (Nat.lt_of_lt_of_le P0.lt hz_b278_e0)
  have ne_a2c_b278_e0 : a2c ≠ b278_e0 := Nat.ne_of_lt (Nat.lt_of_lt_of_le P3.lt hz_b278_e0)
  have N278 := Fr.app N0 N278q
  have f278_1 := P0.keep K278
  have f278_2 := P1.keep K278 nin0
  have f278_3 := P2.keep K278 nin0
  have f278_4 := P3.keep K278 nin0
  have f278_5 := own_staK0 P4 K278
  have f278_6 := own_staK0 P5 K278
  have f278_7 := own_staK0 P6 K278
  have f278_8 := own_staK0 P7 K278
  have f278_9 := (Keep.refl h0 [a1c]).trans K278 all0
  have f278_10 := Nat.le_trans Z0 K278.1
  refine GoW.sg (mkF m 39 (Sh0 a1c a2c 0 4) [(.ref b278_e0)]) (fun t k => st278 t k) ?_
  refine GoW.sg (mkF m 41 (Sh12 a1c a2c 0 4 b278_e0) []) (fun t k => XS.astore X278.here hx rfl (hb hby d2_39) rfl rfl (l' := (Sh12 a1c a2c 0 4 b278_e0)) rfl k) ?_
  refine GoW.sg (mkF m 42 (Sh12 a1c a2c 0 4 b278_e0) [(.ref a1c)]) (fun t k => XS.aloadN X278.here hx rfl (hb hby d2_41) rfl rfl k) ?_
  refine GoW.sg (mkF m 44 (Sh12 a1c a2c 0 4 b278_e0) [(.ref b278_e0), (.ref a1c)]) (fun t k => XS.aload X278.here hx rfl (hb hby d2_42) rfl rfl k) ?_
  refine GoW.sg (mkF m 45 (Sh12 a1c a2c 0 4 b278_e0) [(.int 4), (.ref b278_e0), (.ref a1c)]) (fun t k => XS.iloadN X278.here hx rfl (hb hby d2_44) rfl k) ?_
  obtain ⟨_, T279, L279, X279, hQ279, st279⟩ := own_callS X278 hx hZ hown (y := Y6) (ww hw 23 rfl) (ww hw 24 rfl) (ww hw 17 rfl) (ww hw 25 rfl) (by decide) 1 (rm6_11 l Z a0 hw [] b278_e0 k278_ke0 (lo8 x1c) (hi8 x1c) (lo8 x2c) (hi8 x2c) (lo8 x3c) (hi8 x3c) (lo8 x4c) (hi8 x4c) T278.heap n0  p278_0    ) (by decide) (by decide) rfl (by decide) (by decide) (g := (mkF m 45 (Sh12 a1c a2c 0 4 b278_e0) [(.int 4), (.ref b278_e0), (.ref a1c)])) rfl (by rw [hml]; rfl) (argsL := [(.ref b278_e0), (.int (4 : Int32))]) (rest := [(.ref a1c)]) (lenOf pd_285bBI29B rfl) rfl (by show 2 * 0 + _ ≤ _; exact Nat.le_of_eq rfl) (hb hby d2_45)
  obtain ⟨rfl, N279q, e279⟩ := hQ279
  have N279 := Fr.app N278 N279q
  refine GoW.sg (mkF m 48 (Sh12 a1c a2c 0 4 b278_e0) [(.int 1), (.ref a1c)]) (fun t k => st279 t k) ?_
  obtain ⟨T280, h280, X280, e280, W280, st280⟩ := putF X279 hx hZ hown (host := "") (Or.inl (ww hw 26 rfl)) Via.refl e279 f278_2 f278_1 (Or.inr ⟨(ww hw 27 rfl), rfl, hnm⟩) (ww hw 2 rfl) (ty := .byte) (by decide) rfl rfl (g := (mkF m 48 (Sh12 a1c a2c 0 4 b278_e0) [(.int 1), (.ref a1c)])) rfl rfl (hb hby d2_48)
  have N280 := Fr.snoc X280 N279 g_a1c
  have f280_11 := f278_1.wr W280
  have f280_12 := f278_3.other W280 (Or.inr (slot_ne (t := (.array .byte)) (t' := .byte) (Or.inr (ww hw 29 rfl)) (Or.inr (ww hw 27 rfl)) (by decide) (by decide) (by decide)))
  have f280_13 := f278_4.other W280 (Ne.symm ne_a1c_a2c)
  have f280_14 := f278_5.wr W280
  have f280_15 := f278_6.wr W280
  have f280_16 := f278_7.wr W280
  have f280_17 := f278_8.wr W280
  have f280_18 := f278_9.wr W280 (Or.inl (List.mem_of_getElem? (i := 0) rfl))
  have f280_19 := Nat.le_trans f278_10 (Nat.le_of_eq W280.size.symm)
  have f280_20 := p278_0.other W280 (Ne.symm ne_a1c_b278_e0)
  have F280coder : Fld Z h280 a1c "java/lang/String" "coder" "B" (.int (1 : Int32)) := f278_2.same W280
  refine GoW.sg (mkF m 51 (Sh12 a1c a2c 0 4 b278_e0) []) (fun t k => st280 t k) ?_
  refine GoW.sg (mkF m 52 (Sh12 a1c a2c 0 4 b278_e0) [(.ref a1c)]) (fun t k => XS.aloadN X280.here hx rfl (hb hby d2_51) rfl rfl k) ?_
  refine GoW.sg (mkF m 54 (Sh12 a1c a2c 0 4 b278_e0) [(.ref b278_e0), (.ref a1c)]) (fun t k => XS.aload X280.here hx rfl (hb hby d2_52) rfl rfl k) ?_
  obtain ⟨T281, h281, X281, e281, W281, st281⟩ := putF X280 hx hZ hown (host := "") (Or.inl (ww hw 28 rfl)) Via.refl e280 f280_12 f280_11 (Or.inr ⟨(ww hw 29 rfl), rfl, hnm⟩) (ww hw 2 rfl) (ty := (.array .byte)) (by decide) rfl rfl (g := (mkF m 54 (Sh12 a1c a2c 0 4 b278_e0) [(.ref b278_e0), (.ref a1c)])) rfl rfl (hb hby d2_54)
  have N281 := Fr.snoc X281 N280 g_a1c
  have f281_21 := f280_11.wr W281
  have f281_22 := F280coder.other W281 (Or.inr (slot_ne (t := .byte) (t' := (.array .byte)) (Or.inr (ww hw 27 rfl)) (Or.inr (ww hw 29 rfl)) (by decide) (by decide) (by decide)))
  have f281_23 := f280_13.other W281 (Ne.symm ne_a1c_a2c)
  have f281_24 := f280_14.wr W281
  have f281_25 := f280_15.wr W281
  have f281_26 := f280_16.wr W281
  have f281_27 := f280_17.wr W281
  have f281_28 := f280_18.wr W281 (Or.inl (List.mem_of_getElem? (i := 0) rfl))
  have f281_29 := Nat.le_trans f280_19 (Nat.le_of_eq W281.size.symm)
  have f281_30 := f280_20.other W281 (Ne.symm ne_a1c_b278_e0)
  have F281value : Fld Z h281 a1c "java/lang/String" "value" "[B" (.ref b278_e0) := f280_12.same W281
  refine GoW.sg (mkF m 57 (Sh12 a1c a2c 0 4 b278_e0) []) (fun t k => st281 t k) ?_
  refine GoW.retV X281 hx Bd.returns (hb hby d2_57) Bd.notSynchronized ?_ (by decide) (by decide)
  rw [e281]
  exact ⟨b278_e0, k278_ke0, rfl, N281, f281_28, f281_21, f281_22, F281value, f281_30, sz_b278_e0⟩
def Q5_19 (Z : State) (a1c : Addr) (a2c : Addr) (ka2c : ClassId) (ka1c : ClassId) (x1c : Int32) (x2c : Int32) (x3c : Int32) (x4c : Int32) (x5c : Int32) (h0 : Heap) (n0 : Nat) (v : Option Value) (h : Heap) (L : List Loc) : Prop := v = some (.int (2 : Int32)) ∧ Fr n0 L ∧ (Keep h0 h [a2c]) ∧ (Arv Z h a2c ka2c .byte (4 : Int32) [(.int (lat8 x1c)), (.int (lat8 x2c)), (.int (0 : Int32)), (.int (0 : Int32))] (.int (0 : Int32)))
theorem ef5_rm5_19 (m : MethodId) (a1c : Addr) (a2c : Addr) : entryFrame m #[(.ref a1c), (.int (0 : Int32)), (.ref a2c), (.int (0 : Int32)), (.int (4 : Int32))] 7 = (mkF m 0 #[.val (.ref a1c), .val (.int 0), .val (.ref a2c), .val (.int 0), .val (.int 4), .unset, .unset] []) := by first | (simp [entryFrame, mkF, argsToLocals, Value.category, maxLocals]; done) | rfl
set_option maxRecDepth 65536 in
set_option maxHeartbeats 40000000 in
theorem rm5_19 (l : Launch) (Z : State) (a0 : Array Value) (hw : ∀ d ∈ tables_1, d.before a0 Z = true) (ws : List Jvm.Cond) (a1c : Addr) (a2c : Addr) (ka2c : ClassId) (ka1c : ClassId) (x1c : Int32) (x2c : Int32) (x3c : Int32) (x4c : Int32) (x5c : Int32) (h0 : Heap) (n0 : Nat) (P0 : Arv Z h0 a2c ka2c .byte (4 : Int32) [(.int (0 : Int32)), (.int (0 : Int32)), (.int (0 : Int32)), (.int (0 : Int32))] (.int (0 : Int32))) (P1 : Arv Z h0 a1c ka1c .char (4 : Int32) [(.int x1c), (.int x2c), (.int x3c), (.int x4c)] (.int (0 : Int32))) (P2 : Sta Z h0 "java/lang/String" "COMPACT_STRINGS" "Z" (.int x5c)) (P3 : Sta Z h0 "java/lang/StringUTF16" "$assertionsDisabled" "Z" (.int (1 : Int32))) (P4 : Sta Z h0 "java/lang/StringUTF16" "HI_BYTE_SHIFT" "I" (.int (0 : Int32))) (P5 : Sta Z h0 "java/lang/StringUTF16" "LO_BYTE_SHIFT" "I" (.int (8 : Int32))) (g_a2c : n0 ≤ a2c) (ne_a1c_a2c : a1c ≠ a2c) (u0 : ¬ ((255 : Int32) < x1c)) (u1 : ¬ ((255 : Int32) < x2c)) (u2 : (255 : Int32) < x3c)   :
    MetFree l Y5 (head1 (Jvm.Cond.code Y5 jdk_52_method_21_code 7 (some .int) :: ws) ({ frames := 0, cells := 0, slots := 0, locals := 0 } : Room)) (fun a U => a = #[(.ref a1c), (.int (0 : Int32)), (.ref a2c), (.int (0 : Int32)), (.int (4 : Int32))] ∧ Z.Warmed39 U.vm ∧ U.heap = h0) (fun _ _ _ _ _ => True) (fun _ U o U' => ∃ v L, o = .returned v ∧ (Q5_19 Z a1c a2c ka2c ka1c x1c x2c x3c x4c x5c h0 n0) v U'.heap L ∧ FrameEnd U o U' L 0 0) := by
  refine MetFree.of_bodySF (plainFor_of_name pn_java_lang_StringUTF16) hisR ?_
  intro p e s m args below meth c s₁ Bd hml0 hP hK
  obtain ⟨rfl, hZ, hh⟩ := hP
  have hx := Bd.exec
  have hby := Bd.bytes
  have hml : c.maxLocals = 7 := hml0
  have hown : s.vm.findClass "java/lang/StringUTF16" = some m.cls := findClass_of_methodNamed Bd.named
  have hnm := (name_of_methodNamed Bd.named Bd.method).1
  have X0 : Stand p l e ({ frames := 0, cells := 0, slots := 0, locals := 0 } : Room) s m #[(.ref a1c), (.int (0 : Int32)), (.ref a2c), (.int (0 : Int32)), (.int (4 : Int32))] below meth c s₁ [] 0 0 := Stand.of_body Bd
  have e0 : s₁.heap = h0 := by rw [← hh, Bd.state]; rfl
  have N0 := Fr.nil n0
  refine GoW.mk ?_
  refine GoW.st (fun t k => castTop (ef5_rm5_19 m a1c a2c) k) ?_
  show GoW p e below s (Q5_19 Z a1c a2c ka2c ka1c x1c x2c x3c x4c x5c h0 n0) 0 0 (s₁.setTop (mkF m 0 (Sh3 a1c 0 a2c 0 4) []))
  refine GoW.sg (mkF m 1 (Sh3 a1c 0 a2c 0 4) [(.int 0)]) (fun t k => XS.iconst X0.here hx rfl (hb hby d5_0) k) ?_
  refine GoW.sg (mkF m 3 (Sh4 a1c 0 a2c 0 4 0) []) (fun t k => XS.istore X0.here hx rfl (hb hby d5_1) rfl (l' := (Sh4 a1c 0 a2c 0 4 0)) rfl k) ?_
  refine GoW.sg (mkF m 5 (Sh4 a1c 0 a2c 0 4 0) [(.int 0)]) (fun t k => XS.iload X0.here hx rfl (hb hby d5_3) rfl k) ?_
  refine GoW.sg (mkF m 7 (Sh4 a1c 0 a2c 0 4 0) [(.int 4), (.int 0)]) (fun t k => XS.iload X0.here hx rfl (hb hby d5_5) rfl k) ?_
  refine GoW.sg (mkF m 10 (Sh4 a1c 0 a2c 0 4 0) []) (fun t k => XS.icmpNo X0.here hx rfl (hb hby d5_7) rfl (by decide) k) ?_
  refine GoW.sg (mkF m 11 (Sh4 a1c 0 a2c 0 4 0) [(.ref a1c)]) (fun t k => XS.aloadN X0.here hx rfl (hb hby d5_10) rfl rfl k) ?_
  refine GoW.sg (mkF m 12 (Sh4 a1c 0 a2c 0 4 0) [(.int 0), (.ref a1c)]) (fun t k => XS.iloadN X0.here hx rfl (hb hby d5_11) rfl k) ?_
  obtain ⟨cl300, Ar300, q300, Sz300, Nn300, Hh300, Gg300⟩ := id P1
  have hin300 : ¬ ((0 : Int32) < 0 ∨ cl300.slots.size ≤ ((0 : Int32)).toNatClampNeg) := inb_of Sz300 ⟨by decide, by decide⟩
  refine GoW.sg (mkF m 13 (Sh4 a1c 0 a2c 0 4 0) [(.int x1c)]) (fun t k => X0.caload hx (j := (0 : Int32)) (v := (.int x1c)) (hq_ e0 Ar300.1) (State.isArrayOf_alike hZ.alike Ar300.2.1) Ar300.2.2 hin300 (Hh300.at hin300 rfl) (g := (mkF m 12 (Sh4 a1c 0 a2c 0 4 0) [(.int 0), (.ref a1c)])) rfl rfl (hb hby d5_12) t k) ?_
  refine GoW.sg (mkF m 15 (Sh5 a1c 0 a2c 0 4 0 x1c) []) (fun t k => XS.istore X0.here hx rfl (hb hby d5_13) rfl (l' := (Sh5 a1c 0 a2c 0 4 0 x1c)) rfl k) ?_
  refine GoW.sg (mkF m 17 (Sh5 a1c 0 a2c 0 4 0 x1c) [(.int x1c)]) (fun t k => XS.iload X0.here hx rfl (hb hby d5_15) rfl k) ?_
  refine GoW.sg (mkF m 20 (Sh5 a1c 0 a2c 0 4 0 x1c) [(.int 255), (.int x1c)]) (fun t k => XS.sipush X0.here hx rfl (hb hby d5_17) k) ?_
  refine GoW.sg (mkF m 26 (Sh5 a1c 0 a2c 0 4 0 x1c) []) (fun t k => XS.icmpYes X0.here hx rfl (pc0 := 20) (pc' := 26) rfl (hb hby d5_20) rfl (flt u0).2.2.2 (by decide) (by decide) k) ?_
  refine GoW.sg (mkF m 27 (Sh5 a1c 0 a2c 0 4 0 x1c) [(.ref a2c)]) (fun t k => XS.aloadN X0.here hx rfl (hb hby d5_26) rfl rfl k) ?_
  refine GoW.sg (mkF m 28 (Sh5 a1c 0 a2c 0 4 0 x1c) [(.int 0), (.ref a2c)]) (fun t k => XS.iloadN X0.here hx rfl (hb hby d5_27) rfl k) ?_
  refine GoW.sg (mkF m 30 (Sh5 a1c 0 a2c 0 4 0 x1c) [(.int x1c), (.int 0), (.ref a2c)]) (fun t k => XS.iload X0.here hx rfl (hb hby d5_28) rfl k) ?_
  refine GoW.sg (mkF m 31 (Sh5 a1c 0 a2c 0 4 0 x1c) [(.int x1c.toInt8.toInt32), (.int 0), (.ref a2c)]) (fun t k => XS.i2b X0.here hx rfl (hb hby d5_30) rfl k) ?_
  obtain ⟨cl301, Ar301, q301, Sz301, Nn301, Hh301, Gg301⟩ := P0
  have hin301 : ¬ ((0 : Int32) < 0 ∨ cl301.slots.size ≤ ((0 : Int32)).toNatClampNeg) := inb_of Sz301 ⟨by decide, by decide⟩
  obtain ⟨T301, h301, X301, e301, W301, st301⟩ := stB X0 hx hZ e0 Ar301 (j := (0 : Int32)) hin301 (g := (mkF m 31 (Sh5 a1c 0 a2c 0 4 0 x1c) [(.int x1c.toInt8.toInt32), (.int 0), (.ref a2c)])) rfl rfl (hb hby d5_31)
  have f301_1 := P1.other W301 ne_a1c_a2c
  have f301_2 := P2.wr W301
  have f301_3 := P3.wr W301
  have f301_4 := P4.wr W301
  have f301_5 := P5.wr W301
  have f301_6 := (Keep.refl h0 [a2c]).wr W301 (Or.inl (List.mem_of_getElem? (i := 0) rfl))
  have V301 : Arv Z h301 a2c ka2c .byte (4 : Int32) [(.int (lat8 x1c)), (.int (0 : Int32)), (.int (0 : Int32)), (.int (0 : Int32))] (.int (0 : Int32)) := Arv.set Ar301 q301 Sz301 Nn301 Hh301 Gg301 (fits_nar_byte _) W301 0 rfl (Nat.le_of_ble_eq_true rfl)
  have N301 := Fr.snoc X301 N0 g_a2c
  refine GoW.sg (mkF m 32 (Sh5 a1c 0 a2c 0 4 0 x1c) []) (fun t k => st301 t k) ?_
  refine GoW.sg (mkF m 35 (Sh5 a1c 1 a2c 0 4 0 x1c) []) (fun t k => XS.iinc X301.here hx rfl (hb hby d5_32) rfl (l' := (Sh5 a1c 1 a2c 0 4 0 x1c)) rfl k) ?_
  refine GoW.sg (mkF m 38 (Sh5 a1c 1 a2c 1 4 0 x1c) []) (fun t k => XS.iinc X301.here hx rfl (hb hby d5_35) rfl (l' := (Sh5 a1c 1 a2c 1 4 0 x1c)) rfl k) ?_
  refine GoW.sg (mkF m 41 (Sh5 a1c 1 a2c 1 4 1 x1c) []) (fun t k => XS.iinc X301.here hx rfl (hb hby d5_38) rfl (l' := (Sh5 a1c 1 a2c 1 4 1 x1c)) rfl k) ?_
  refine GoW.sg (mkF m 3 (Sh5 a1c 1 a2c 1 4 1 x1c) []) (fun t k => XS.goto X301.here hx rfl (pc0 := 41) (pc' := 3) rfl (hb hby d5_41) (by decide) (by decide) k) ?_
  refine GoW.sg (mkF m 5 (Sh5 a1c 1 a2c 1 4 1 x1c) [(.int 1)]) (fun t k => XS.iload X301.here hx rfl (hb hby d5_3) rfl k) ?_
  refine GoW.sg (mkF m 7 (Sh5 a1c 1 a2c 1 4 1 x1c) [(.int 4), (.int 1)]) (fun t k => XS.iload X301.here hx rfl (hb hby d5_5) rfl k) ?_
  refine GoW.sg (mkF m 10 (Sh5 a1c 1 a2c 1 4 1 x1c) []) (fun t k => XS.icmpNo X301.here hx rfl (hb hby d5_7) rfl (by decide) k) ?_
  refine GoW.sg (mkF m 11 (Sh5 a1c 1 a2c 1 4 1 x1c) [(.ref a1c)]) (fun t k => XS.aloadN X301.here hx rfl (hb hby d5_10) rfl rfl k) ?_
  refine GoW.sg (mkF m 12 (Sh5 a1c 1 a2c 1 4 1 x1c) [(.int 1), (.ref a1c)]) (fun t k => XS.iloadN X301.here hx rfl (hb hby d5_11) rfl k) ?_
  obtain ⟨cl302, Ar302, q302, Sz302, Nn302, Hh302, Gg302⟩ := id f301_1
  have hin302 : ¬ ((1 : Int32) < 0 ∨ cl302.slots.size ≤ ((1 : Int32)).toNatClampNeg) := inb_of Sz302 ⟨by decide, by decide⟩
  refine GoW.sg (mkF m 13 (Sh5 a1c 1 a2c 1 4 1 x1c) [(.int x2c)]) (fun t k => X301.caload hx (j := (1 : Int32)) (v := (.int x2c)) (hq_ e301 Ar302.1) (State.isArrayOf_alike hZ.alike Ar302.2.1) Ar302.2.2 hin302 (Hh302.at hin302 rfl) (g := (mkF m 12 (Sh5 a1c 1 a2c 1 4 1 x1c) [(.int 1), (.ref a1c)])) rfl rfl (hb hby d5_12) t k) ?_
  refine GoW.sg (mkF m 15 (Sh5 a1c 1 a2c 1 4 1 x2c) []) (fun t k => XS.istore X301.here hx rfl (hb hby d5_13) rfl (l' := (Sh5 a1c 1 a2c 1 4 1 x2c)) rfl k) ?_
  refine GoW.sg (mkF m 17 (Sh5 a1c 1 a2c 1 4 1 x2c) [(.int x2c)]) (fun t k => XS.iload X301.here hx rfl (hb hby d5_15) rfl k) ?_
  refine GoW.sg (mkF m 20 (Sh5 a1c 1 a2c 1 4 1 x2c) [(.int 255), (.int x2c)]) (fun t k => XS.sipush X301.here hx rfl (hb hby d5_17) k) ?_
  refine GoW.sg (mkF m 26 (Sh5 a1c 1 a2c 1 4 1 x2c) []) (fun t k => XS.icmpYes X301.here hx rfl (pc0 := 20) (pc' := 26) rfl (hb hby d5_20) rfl (flt u1).2.2.2 (by decide) (by decide) k) ?_
  refine GoW.sg (mkF m 27 (Sh5 a1c 1 a2c 1 4 1 x2c) [(.ref a2c)]) (fun t k => XS.aloadN X301.here hx rfl (hb hby d5_26) rfl rfl k) ?_
  refine GoW.sg (mkF m 28 (Sh5 a1c 1 a2c 1 4 1 x2c) [(.int 1), (.ref a2c)]) (fun t k => XS.iloadN X301.here hx rfl (hb hby d5_27) rfl k) ?_
  refine GoW.sg (mkF m 30 (Sh5 a1c 1 a2c 1 4 1 x2c) [(.int x2c), (.int 1), (.ref a2c)]) (fun t k => XS.iload X301.here hx rfl (hb hby d5_28) rfl k) ?_
  refine GoW.sg (mkF m 31 (Sh5 a1c 1 a2c 1 4 1 x2c) [(.int x2c.toInt8.toInt32), (.int 1), (.ref a2c)]) (fun t k => XS.i2b X301.here hx rfl (hb hby d5_30) rfl k) ?_
  obtain ⟨cl303, Ar303, q303, Sz303, Nn303, Hh303, Gg303⟩ := V301
  have hin303 : ¬ ((1 : Int32) < 0 ∨ cl303.slots.size ≤ ((1 : Int32)).toNatClampNeg) := inb_of Sz303 ⟨by decide, by decide⟩
  obtain ⟨T303, h303, X303, e303, W303, st303⟩ := stB X301 hx hZ e301 Ar303 (j := (1 : Int32)) hin303 (g := (mkF m 31 (Sh5 a1c 1 a2c 1 4 1 x2c) [(.int x2c.toInt8.toInt32), (.int 1), (.ref a2c)])) rfl rfl (hb hby d5_31)
  have f303_7 := f301_1.other W303 ne_a1c_a2c
  have f303_8 := f301_2.wr W303
  have f303_9 := f301_3.wr W303
  have f303_10 := f301_4.wr W303
  have f303_11 := f301_5.wr W303
  have f303_12 := f301_6.wr W303 (Or.inl (List.mem_of_getElem? (i := 0) rfl))
  have V303 : Arv Z h303 a2c ka2c .byte (4 : Int32) [(.int (lat8 x1c)), (.int (lat8 x2c)), (.int (0 : Int32)), (.int (0 : Int32))] (.int (0 : Int32)) := Arv.set Ar303 q303 Sz303 Nn303 Hh303 Gg303 (fits_nar_byte _) W303 1 rfl (Nat.le_of_ble_eq_true rfl)
  have N303 := Fr.snoc X303 N301 g_a2c
  refine GoW.sg (mkF m 32 (Sh5 a1c 1 a2c 1 4 1 x2c) []) (fun t k => st303 t k) ?_
  refine GoW.sg (mkF m 35 (Sh5 a1c 2 a2c 1 4 1 x2c) []) (fun t k => XS.iinc X303.here hx rfl (hb hby d5_32) rfl (l' := (Sh5 a1c 2 a2c 1 4 1 x2c)) rfl k) ?_
  refine GoW.sg (mkF m 38 (Sh5 a1c 2 a2c 2 4 1 x2c) []) (fun t k => XS.iinc X303.here hx rfl (hb hby d5_35) rfl (l' := (Sh5 a1c 2 a2c 2 4 1 x2c)) rfl k) ?_
  refine GoW.sg (mkF m 41 (Sh5 a1c 2 a2c 2 4 2 x2c) []) (fun t k => XS.iinc X303.here hx rfl (hb hby d5_38) rfl (l' := (Sh5 a1c 2 a2c 2 4 2 x2c)) rfl k) ?_
  refine GoW.sg (mkF m 3 (Sh5 a1c 2 a2c 2 4 2 x2c) []) (fun t k => XS.goto X303.here hx rfl (pc0 := 41) (pc' := 3) rfl (hb hby d5_41) (by decide) (by decide) k) ?_
  refine GoW.sg (mkF m 5 (Sh5 a1c 2 a2c 2 4 2 x2c) [(.int 2)]) (fun t k => XS.iload X303.here hx rfl (hb hby d5_3) rfl k) ?_
  refine GoW.sg (mkF m 7 (Sh5 a1c 2 a2c 2 4 2 x2c) [(.int 4), (.int 2)]) (fun t k => XS.iload X303.here hx rfl (hb hby d5_5) rfl k) ?_
  refine GoW.sg (mkF m 10 (Sh5 a1c 2 a2c 2 4 2 x2c) []) (fun t k => XS.icmpNo X303.here hx rfl (hb hby d5_7) rfl (by decide) k) ?_
  refine GoW.sg (mkF m 11 (Sh5 a1c 2 a2c 2 4 2 x2c) [(.ref a1c)]) (fun t k => XS.aloadN X303.here hx rfl (hb hby d5_10) rfl rfl k) ?_
  refine GoW.sg (mkF m 12 (Sh5 a1c 2 a2c 2 4 2 x2c) [(.int 2), (.ref a1c)]) (fun t k => XS.iloadN X303.here hx rfl (hb hby d5_11) rfl k) ?_
  obtain ⟨cl304, Ar304, q304, Sz304, Nn304, Hh304, Gg304⟩ := id f303_7
  have hin304 : ¬ ((2 : Int32) < 0 ∨ cl304.slots.size ≤ ((2 : Int32)).toNatClampNeg) := inb_of Sz304 ⟨by decide, by decide⟩
  refine GoW.sg (mkF m 13 (Sh5 a1c 2 a2c 2 4 2 x2c) [(.int x3c)]) (fun t k => X303.caload hx (j := (2 : Int32)) (v := (.int x3c)) (hq_ e303 Ar304.1) (State.isArrayOf_alike hZ.alike Ar304.2.1) Ar304.2.2 hin304 (Hh304.at hin304 rfl) (g := (mkF m 12 (Sh5 a1c 2 a2c 2 4 2 x2c) [(.int 2), (.ref a1c)])) rfl rfl (hb hby d5_12) t k) ?_
  refine GoW.sg (mkF m 15 (Sh5 a1c 2 a2c 2 4 2 x3c) []) (fun t k => XS.istore X303.here hx rfl (hb hby d5_13) rfl (l' := (Sh5 a1c 2 a2c 2 4 2 x3c)) rfl k) ?_
  refine GoW.sg (mkF m 17 (Sh5 a1c 2 a2c 2 4 2 x3c) [(.int x3c)]) (fun t k => XS.iload X303.here hx rfl (hb hby d5_15) rfl k) ?_
  refine GoW.sg (mkF m 20 (Sh5 a1c 2 a2c 2 4 2 x3c) [(.int 255), (.int x3c)]) (fun t k => XS.sipush X303.here hx rfl (hb hby d5_17) k) ?_
  refine GoW.sg (mkF m 23 (Sh5 a1c 2 a2c 2 4 2 x3c) []) (fun t k => XS.icmpNo X303.here hx rfl (hb hby d5_20) rfl (tlt u2).2.2.2 k) ?_
  refine GoW.sg (mkF m 25 (Sh5 a1c 2 a2c 2 4 2 x3c) [(.int 2)]) (fun t k => XS.iload X303.here hx rfl (hb hby d5_23) rfl k) ?_
  refine GoW.retI X303 hx Bd.returns (hb hby d5_25) Bd.notSynchronized ?_ (by decide) (by decide)
  rw [e303]
  exact ⟨rfl, N303, f303_12, V303⟩
def Q18_20 (Z : State) (a1c : Addr) (ka1c : ClassId) (x1c : Int32) (x2c : Int32) (x3c : Int32) (x4c : Int32) (x5c : Int32) (x6c : Int32) (x7c : Int32) (x8c : Int32) (h0 : Heap) (n0 : Nat) (v : Option Value) (h : Heap) (L : List Loc) : Prop := v = some (.int (nar .char (((x5c &&& (255 : Int32)) <<< ((0 : Int32) &&& 31)) ||| ((x6c &&& (255 : Int32)) <<< ((8 : Int32) &&& 31))).toUInt32.toUInt16.toUInt32.toInt32)) ∧ Fr n0 L ∧ (h = h0)
theorem ef18_rm18_20 (m : MethodId) (a1c : Addr) : entryFrame m #[(.ref a1c), (.int (2 : Int32))] 2 = (mkF m 0 #[.val (.ref a1c), .val (.int 2)] []) := by first | (simp [entryFrame, mkF, argsToLocals, Value.category, maxLocals]; done) | rfl
set_option maxRecDepth 65536 in
set_option maxHeartbeats 40000000 in
theorem rm18_20 (l : Launch) (Z : State) (a0 : Array Value) (hw : ∀ d ∈ tables_1, d.before a0 Z = true) (ws : List Jvm.Cond) (a1c : Addr) (ka1c : ClassId) (x1c : Int32) (x2c : Int32) (x3c : Int32) (x4c : Int32) (x5c : Int32) (x6c : Int32) (x7c : Int32) (x8c : Int32) (h0 : Heap) (n0 : Nat) (P0 : Arv Z h0 a1c ka1c .byte (8 : Int32) [(.int x1c), (.int x2c), (.int x3c), (.int x4c), (.int x5c), (.int x6c), (.int x7c), (.int x8c)] (.int (0 : Int32))) (P1 : Sta Z h0 "java/lang/StringUTF16" "$assertionsDisabled" "Z" (.int (1 : Int32))) (P2 : Sta Z h0 "java/lang/StringUTF16" "HI_BYTE_SHIFT" "I" (.int (0 : Int32))) (P3 : Sta Z h0 "java/lang/StringUTF16" "LO_BYTE_SHIFT" "I" (.int (8 : Int32)))      :
    MetFree l Y18 (head1 (Jvm.Cond.code Y18 jdk_52_method_5_code 2 (some .char) :: ws) ({ frames := 0, cells := 0, slots := 0, locals := 0 } : Room)) (fun a U => a = #[(.ref a1c), (.int (2 : Int32))] ∧ Z.Warmed39 U.vm ∧ U.heap = h0) (fun _ _ _ _ _ => True) (fun _ U o U' => ∃ v L, o = .returned v ∧ (Q18_20 Z a1c ka1c x1c x2c x3c x4c x5c x6c x7c x8c h0 n0) v U'.heap L ∧ FrameEnd U o U' L 0 0) := by
  refine MetFree.of_bodySF (plainFor_of_name pn_java_lang_StringUTF16) hisR ?_
  intro p e s m args below meth c s₁ Bd hml0 hP hK
  obtain ⟨rfl, hZ, hh⟩ := hP
  have hx := Bd.exec
  have hby := Bd.bytes
  have hml : c.maxLocals = 2 := hml0
  have hown : s.vm.findClass "java/lang/StringUTF16" = some m.cls := findClass_of_methodNamed Bd.named
  have hnm := (name_of_methodNamed Bd.named Bd.method).1
  have X0 : Stand p l e ({ frames := 0, cells := 0, slots := 0, locals := 0 } : Room) s m #[(.ref a1c), (.int (2 : Int32))] below meth c s₁ [] 0 0 := Stand.of_body Bd
  have e0 : s₁.heap = h0 := by rw [← hh, Bd.state]; rfl
  have N0 := Fr.nil n0
  refine GoW.mk ?_
  refine GoW.st (fun t k => castTop (ef18_rm18_20 m a1c) k) ?_
  show GoW p e below s (Q18_20 Z a1c ka1c x1c x2c x3c x4c x5c x6c x7c x8c h0 n0) 0 0 (s₁.setTop (mkF m 0 #[.val (.ref a1c), .val (.int 2)] []))
  obtain ⟨T331, X331, e331, st331⟩ := getS (host := "") X0 hx hZ hown (ww hw 74 rfl) Via.refl e0 P1 (g := (mkF m 0 #[.val (.ref a1c), .val (.int 2)] [])) rfl (hb hby d18_0)
  refine GoW.sg (mkF m 3 #[.val (.ref a1c), .val (.int 2)] [(.int 1)]) (fun t k => st331 t k) ?_
  refine GoW.sg (mkF m 28 #[.val (.ref a1c), .val (.int 2)] []) (fun t k => XS.ifYes X331.here hx rfl (pc0 := 3) (pc' := 28) rfl (hb hby d18_3) rfl (by decide) (by decide) (by decide) k) ?_
  refine GoW.sg (mkF m 29 #[.val (.ref a1c), .val (.int 2)] [(.int 2)]) (fun t k => XS.iloadN X331.here hx rfl (hb hby d18_28) rfl k) ?_
  refine GoW.sg (mkF m 30 #[.val (.ref a1c), .val (.int 2)] [(.int 1), (.int 2)]) (fun t k => XS.iconst X331.here hx rfl (hb hby d18_29) k) ?_
  refine GoW.st (fun t k => XS.ishl X331.here hx rfl (hb hby d18_30) rfl k) ?_
  rw [show ((2 : Int32) <<< ((1 : Int32) &&& 31)) = (4 : Int32) from by decide]
  show GoW p e below s (Q18_20 Z a1c ka1c x1c x2c x3c x4c x5c x6c x7c x8c h0 n0) 0 0 (T331.setTop (mkF m 31 #[.val (.ref a1c), .val (.int 2)] [(.int 4)]))
  refine GoW.sg (mkF m 32 #[.val (.ref a1c), .val (.int 4)] []) (fun t k => XS.istoreN X331.here hx rfl (hb hby d18_31) rfl (l' := #[.val (.ref a1c), .val (.int 4)]) rfl k) ?_
  refine GoW.sg (mkF m 33 #[.val (.ref a1c), .val (.int 4)] [(.ref a1c)]) (fun t k => XS.aloadN X331.here hx rfl (hb hby d18_32) rfl rfl k) ?_
  refine GoW.sg (mkF m 34 #[.val (.ref a1c), .val (.int 4)] [(.int 4), (.ref a1c)]) (fun t k => XS.iloadN X331.here hx rfl (hb hby d18_33) rfl k) ?_
  refine GoW.sg (mkF m 37 #[.val (.ref a1c), .val (.int 5)] [(.int 4), (.ref a1c)]) (fun t k => XS.iinc X331.here hx rfl (hb hby d18_34) rfl (l' := #[.val (.ref a1c), .val (.int 5)]) rfl k) ?_
  obtain ⟨cl332, Ar332, q332, Sz332, Nn332, Hh332, Gg332⟩ := id P0
  have hin332 : ¬ ((4 : Int32) < 0 ∨ cl332.slots.size ≤ ((4 : Int32)).toNatClampNeg) := inb_of Sz332 ⟨by decide, by decide⟩
  refine GoW.sg (mkF m 38 #[.val (.ref a1c), .val (.int 5)] [(.int x5c)]) (fun t k => X331.baloadBytes hx (j := (4 : Int32)) (v := (.int x5c)) (hq_ e331 Ar332.1) (State.isArrayOf_alike hZ.alike Ar332.2.1) Ar332.2.2 hin332 (Hh332.at hin332 rfl) (g := (mkF m 37 #[.val (.ref a1c), .val (.int 5)] [(.int 4), (.ref a1c)])) rfl rfl (hb hby d18_37) t k) ?_
  refine GoW.sg (mkF m 41 #[.val (.ref a1c), .val (.int 5)] [(.int 255), (.int x5c)]) (fun t k => XS.sipush X331.here hx rfl (hb hby d18_38) k) ?_
  refine GoW.sg (mkF m 42 #[.val (.ref a1c), .val (.int 5)] [(.int (x5c &&& (255 : Int32)))]) (fun t k => XS.iand X331.here hx rfl (hb hby d18_41) rfl k) ?_
  obtain ⟨T333, X333, e333, st333⟩ := getS (host := "") X331 hx hZ hown (ww hw 75 rfl) Via.refl e331 P2 (g := (mkF m 42 #[.val (.ref a1c), .val (.int 5)] [(.int (x5c &&& (255 : Int32)))])) rfl (hb hby d18_42)
  refine GoW.sg (mkF m 45 #[.val (.ref a1c), .val (.int 5)] [(.int 0), (.int (x5c &&& (255 : Int32)))]) (fun t k => st333 t k) ?_
  refine GoW.sg (mkF m 46 #[.val (.ref a1c), .val (.int 5)] [(.int ((x5c &&& (255 : Int32)) <<< ((0 : Int32) &&& 31)))]) (fun t k => XS.ishl X333.here hx rfl (hb hby d18_45) rfl k) ?_
  refine GoW.sg (mkF m 47 #[.val (.ref a1c), .val (.int 5)] [(.ref a1c), (.int ((x5c &&& (255 : Int32)) <<< ((0 : Int32) &&& 31)))]) (fun t k => XS.aloadN X333.here hx rfl (hb hby d18_46) rfl rfl k) ?_
  refine GoW.sg (mkF m 48 #[.val (.ref a1c), .val (.int 5)] [(.int 5), (.ref a1c), (.int ((x5c &&& (255 : Int32)) <<< ((0 : Int32) &&& 31)))]) (fun t k => XS.iloadN X333.here hx rfl (hb hby d18_47) rfl k) ?_
  obtain ⟨cl334, Ar334, q334, Sz334, Nn334, Hh334, Gg334⟩ := id P0
  have hin334 : ¬ ((5 : Int32) < 0 ∨ cl334.slots.size ≤ ((5 : Int32)).toNatClampNeg) := inb_of Sz334 ⟨by decide, by decide⟩
  refine GoW.sg (mkF m 49 #[.val (.ref a1c), .val (.int 5)] [(.int x6c), (.int ((x5c &&& (255 : Int32)) <<< ((0 : Int32) &&& 31)))]) (fun t k => X333.baloadBytes hx (j := (5 : Int32)) (v := (.int x6c)) (hq_ e333 Ar334.1) (State.isArrayOf_alike hZ.alike Ar334.2.1) Ar334.2.2 hin334 (Hh334.at hin334 rfl) (g := (mkF m 48 #[.val (.ref a1c), .val (.int 5)] [(.int 5), (.ref a1c), (.int ((x5c &&& (255 : Int32)) <<< ((0 : Int32) &&& 31)))])) rfl rfl (hb hby d18_48) t k) ?_
  refine GoW.sg (mkF m 52 #[.val (.ref a1c), .val (.int 5)] [(.int 255), (.int x6c), (.int ((x5c &&& (255 : Int32)) <<< ((0 : Int32) &&& 31)))]) (fun t k => XS.sipush X333.here hx rfl (hb hby d18_49) k) ?_
  refine GoW.sg (mkF m 53 #[.val (.ref a1c), .val (.int 5)] [(.int (x6c &&& (255 : Int32))), (.int ((x5c &&& (255 : Int32)) <<< ((0 : Int32) &&& 31)))]) (fun t k => XS.iand X333.here hx rfl (hb hby d18_52) rfl k) ?_
  obtain ⟨T335, X335, e335, st335⟩ := getS (host := "") X333 hx hZ hown (ww hw 76 rfl) Via.refl e333 P3 (g := (mkF m 53 #[.val (.ref a1c), .val (.int 5)] [(.int (x6c &&& (255 : Int32))), (.int ((x5c &&& (255 : Int32)) <<< ((0 : Int32) &&& 31)))])) rfl (hb hby d18_53)
  refine GoW.sg (mkF m 56 #[.val (.ref a1c), .val (.int 5)] [(.int 8), (.int (x6c &&& (255 : Int32))), (.int ((x5c &&& (255 : Int32)) <<< ((0 : Int32) &&& 31)))]) (fun t k => st335 t k) ?_
  refine GoW.sg (mkF m 57 #[.val (.ref a1c), .val (.int 5)] [(.int ((x6c &&& (255 : Int32)) <<< ((8 : Int32) &&& 31))), (.int ((x5c &&& (255 : Int32)) <<< ((0 : Int32) &&& 31)))]) (fun t k => XS.ishl X335.here hx rfl (hb hby d18_56) rfl k) ?_
  refine GoW.sg (mkF m 58 #[.val (.ref a1c), .val (.int 5)] [(.int (((x5c &&& (255 : Int32)) <<< ((0 : Int32) &&& 31)) ||| ((x6c &&& (255 : Int32)) <<< ((8 : Int32) &&& 31))))]) (fun t k => XS.ior X335.here hx rfl (hb hby d18_57) rfl k) ?_
  refine GoW.sg (mkF m 59 #[.val (.ref a1c), .val (.int 5)] [(.int (((x5c &&& (255 : Int32)) <<< ((0 : Int32) &&& 31)) ||| ((x6c &&& (255 : Int32)) <<< ((8 : Int32) &&& 31))).toUInt32.toUInt16.toUInt32.toInt32)]) (fun t k => XS.i2c X335.here hx rfl (hb hby d18_58) rfl k) ?_
  refine GoW.retN X335 hx (t := .char) Bd.returns (by simp) (hb hby d18_59) Bd.notSynchronized ?_ (by decide) (by decide)
  rw [e335]
  exact ⟨rfl, N0, rfl⟩
def Q4_21 (Z : State) (a1c : Addr) (ka1c : ClassId) (x1c : Int32) (x2c : Int32) (x3c : Int32) (x4c : Int32) (x5c : Int32) (h0 : Heap) (n0 : Nat) (v : Option Value) (h : Heap) (L : List Loc) : Prop := ∃ e0 : Addr, ∃ ke0 : ClassId, v = some (.ref e0) ∧ Fr n0 L ∧ (Keep h0 h []) ∧ (Arv Z h e0 ke0 .byte (8 : Int32) [(.int (lo8 x1c)), (.int (hi8 x1c)), (.int (lo8 x2c)), (.int (hi8 x2c)), (.int (lo8 x3c)), (.int (hi8 x3c)), (.int (lo8 x4c)), (.int (hi8 x4c))] (.int (0 : Int32))) ∧ (h0.size ≤ e0)
theorem ef4_rm4_21 (m : MethodId) (a1c : Addr) : entryFrame m #[(.ref a1c), (.int (0 : Int32)), (.int (4 : Int32))] 6 = (mkF m 0 #[.val (.ref a1c), .val (.int 0), .val (.int 4), .unset, .unset, .unset] []) := by first | (simp [entryFrame, mkF, argsToLocals, Value.category, maxLocals]; done) | rfl
set_option maxRecDepth 65536 in
set_option maxHeartbeats 40000000 in
theorem rm4_21 (l : Launch) (Z : State) (a0 : Array Value) (hw : ∀ d ∈ tables_1, d.before a0 Z = true) (ws : List Jvm.Cond) (a1c : Addr) (ka1c : ClassId) (x1c : Int32) (x2c : Int32) (x3c : Int32) (x4c : Int32) (x5c : Int32) (h0 : Heap) (n0 : Nat) (Z0 : n0 ≤ h0.size) (P0 : Arv Z h0 a1c ka1c .char (4 : Int32) [(.int x1c), (.int x2c), (.int x3c), (.int x4c)] (.int (0 : Int32))) (P1 : Sta Z h0 "java/lang/String" "COMPACT_STRINGS" "Z" (.int x5c)) (P2 : Sta Z h0 "java/lang/StringUTF16" "$assertionsDisabled" "Z" (.int (1 : Int32))) (P3 : Sta Z h0 "java/lang/StringUTF16" "HI_BYTE_SHIFT" "I" (.int (0 : Int32))) (P4 : Sta Z h0 "java/lang/StringUTF16" "LO_BYTE_SHIFT" "I" (.int (8 : Int32)))   (u0 : ¬ (x3c < (0 : Int32))) (u1 : ¬ ((65535 : Int32) < x3c)) (u2 : ¬ ((255 : Int32) < x1c)) (u3 : ¬ ((255 : Int32) < x2c)) (u4 : (255 : Int32) < x3c)   :
    MetFree l Y4 (head1 (Jvm.Cond.code Y4 jdk_52_method_16_code 6 (some (.array .byte)) :: ws) ({ frames := 3, cells := 2, slots := 12, locals := 40 } : Room)) (fun a U => a = #[(.ref a1c), (.int (0 : Int32)), (.int (4 : Int32))] ∧ Z.Warmed39 U.vm ∧ U.heap = h0) (fun _ _ _ _ _ => True) (fun _ U o U' => ∃ v L, o = .returned v ∧ (Q4_21 Z a1c ka1c x1c x2c x3c x4c x5c h0 n0) v U'.heap L ∧ FrameEnd U o U' L 2 12) := by
  refine MetFree.of_bodySF (plainFor_of_name pn_java_lang_StringUTF16) hisR ?_
  intro p e s m args below meth c s₁ Bd hml0 hP hK
  obtain ⟨rfl, hZ, hh⟩ := hP
  have hx := Bd.exec
  have hby := Bd.bytes
  have hml : c.maxLocals = 6 := hml0
  have hown : s.vm.findClass "java/lang/StringUTF16" = some m.cls := findClass_of_methodNamed Bd.named
  have hnm := (name_of_methodNamed Bd.named Bd.method).1
  have X0 : Stand p l e ({ frames := 3, cells := 2, slots := 12, locals := 40 } : Room) s m #[(.ref a1c), (.int (0 : Int32)), (.int (4 : Int32))] below meth c s₁ [] 0 0 := Stand.of_body Bd
  have e0 : s₁.heap = h0 := by rw [← hh, Bd.state]; rfl
  have N0 := Fr.nil n0
  refine GoW.mk ?_
  refine GoW.st (fun t k => castTop (ef4_rm4_21 m a1c) k) ?_
  show GoW p e below s (Q4_21 Z a1c ka1c x1c x2c x3c x4c x5c h0 n0) 2 12 (s₁.setTop (mkF m 0 (Sh1 a1c 0 4) []))
  refine GoW.sg (mkF m 1 (Sh1 a1c 0 4) [(.int 4)]) (fun t k => XS.iloadN X0.here hx rfl (hb hby d4_0) rfl k) ?_
  obtain ⟨T337, h337, k337, X337, e337, E337, A337, st337⟩ := newP X0 hx hZ (ww hw 19 rfl) e0 (g := (mkF m 1 (Sh1 a1c 0 4) [(.int 4)])) rfl (hb hby d4_1) rfl (by decide) (cap := 4) (by decide) (by decide) (by decide) (by decide)
  obtain ⟨b337, g337⟩ : ∃ z, z = h0.size := ⟨_, rfl⟩
  rw [← g337] at A337 st337
  have g_b337 : n0 ≤ b337 := Nat.le_trans Z0 (Nat.le_of_eq g337.symm)
  have sz_b337 : h0.size ≤ b337 := Nat.le_trans (Keep.refl h0 []).1 (Nat.le_of_eq g337.symm)
  have ne_a1c_b337 : a1c ≠ b337 := Nat.ne_of_lt (Nat.lt_of_lt_of_eq P0.lt g337.symm)
  have f337_1 := P0.ext E337
  have f337_2 := P1.ext E337
  have f337_3 := P2.ext E337
  have f337_4 := P3.ext E337
  have f337_5 := P4.ext E337
  have f337_6 := (Keep.refl h0 []).ext E337
  have f337_7 := Nat.le_trans Z0 E337.1
  have V337 : Arv Z h337 b337 k337 .byte (4 : Int32) [(.int (0 : Int32)), (.int (0 : Int32)), (.int (0 : Int32)), (.int (0 : Int32))] (.int (0 : Int32)) := (Arv.new A337 (by decide)).pad (pad_rep [] (.int (0 : Int32)) 4)
  refine GoW.sg (mkF m 3 (Sh1 a1c 0 4) [(.ref b337)]) (fun t k => st337 t k) ?_
  refine GoW.sg (mkF m 4 (Sh2 a1c 0 4 b337) []) (fun t k => XS.astoreN X337.here hx rfl (hb hby d4_3) rfl rfl (l' := (Sh2 a1c 0 4 b337)) rfl k) ?_
  refine GoW.sg (mkF m 5 (Sh2 a1c 0 4 b337) [(.ref a1c)]) (fun t k => XS.aloadN X337.here hx rfl (hb hby d4_4) rfl rfl k) ?_
  refine GoW.sg (mkF m 6 (Sh2 a1c 0 4 b337) [(.int 0), (.ref a1c)]) (fun t k => XS.iloadN X337.here hx rfl (hb hby d4_5) rfl k) ?_
  refine GoW.sg (mkF m 7 (Sh2 a1c 0 4 b337) [(.ref b337), (.int 0), (.ref a1c)]) (fun t k => XS.aloadN X337.here hx rfl (hb hby d4_6) rfl rfl k) ?_
  refine GoW.sg (mkF m 8 (Sh2 a1c 0 4 b337) [(.int 0), (.ref b337), (.int 0), (.ref a1c)]) (fun t k => XS.iconst X337.here hx rfl (hb hby d4_7) k) ?_
  refine GoW.sg (mkF m 9 (Sh2 a1c 0 4 b337) [(.int 4), (.int 0), (.ref b337), (.int 0), (.ref a1c)]) (fun t k => XS.iloadN X337.here hx rfl (hb hby d4_8) rfl k) ?_
  obtain ⟨_, T343, L343, X343, hQ343, st343⟩ := own_callS X337 hx hZ hown (y := Y5) (ww hw 20 rfl) (ww hw 21 rfl) (ww hw 17 rfl) (ww hw 22 rfl) (by decide) 0 (rm5_19 l Z a0 hw [] a1c b337 k337 ka1c x1c x2c x3c x4c x5c h337 n0  V337 f337_1 f337_2 f337_3 f337_4 f337_5 g_b337 ne_a1c_b337 u2 u3 u4 ) (by decide) (by decide) e337 (by decide) (by decide) (g := (mkF m 9 (Sh2 a1c 0 4 b337) [(.int 4), (.int 0), (.ref b337), (.int 0), (.ref a1c)])) rfl (by rw [hml]; rfl) (argsL := [(.ref a1c), (.int (0 : Int32)), (.ref b337), (.int (0 : Int32)), (.int (4 : Int32))]) (rest := []) (lenOf pd_285bCI5bBII29I rfl) rfl (by show 2 * 0 + _ ≤ _; exact Nat.le_of_eq rfl) (hb hby d4_9)
  obtain ⟨rfl, N343q, K343, p343_0⟩ := hQ343
  have N343 := Fr.app N0 N343q
  have f343_8 := f337_1.keep K343 (ninS ne_a1c_b337 nin0)
  have f343_9 := own_staK f337_2 K343 (allS (own_nsA V337) all0)
  have f343_10 := own_staK f337_3 K343 (allS (own_nsA V337) all0)
  have f343_11 := own_staK f337_4 K343 (allS (own_nsA V337) all0)
  have f343_12 := own_staK f337_5 K343 (allS (own_nsA V337) all0)
  have f343_13 := f337_6.trans K343 (allS (Or.inr sz_b337) all0)
  have f343_14 := Nat.le_trans f337_7 K343.1
  refine GoW.sg (mkF m 12 (Sh2 a1c 0 4 b337) [(.int 2)]) (fun t k => st343 t k) ?_
  refine GoW.sg (mkF m 14 (Sh6 a1c 0 4 b337 2) []) (fun t k => XS.istore X343.here hx rfl (hb hby d4_12) rfl (l' := (Sh6 a1c 0 4 b337 2)) rfl k) ?_
  refine GoW.sg (mkF m 16 (Sh6 a1c 0 4 b337 2) [(.int 2)]) (fun t k => XS.iload X343.here hx rfl (hb hby d4_14) rfl k) ?_
  refine GoW.sg (mkF m 17 (Sh6 a1c 0 4 b337 2) [(.int 4), (.int 2)]) (fun t k => XS.iloadN X343.here hx rfl (hb hby d4_16) rfl k) ?_
  refine GoW.sg (mkF m 20 (Sh6 a1c 0 4 b337 2) []) (fun t k => XS.icmpNo X343.here hx rfl (hb hby d4_17) rfl (by decide) k) ?_
  refine GoW.sg (mkF m 21 (Sh6 a1c 0 4 b337 2) [(.ref a1c)]) (fun t k => XS.aloadN X343.here hx rfl (hb hby d4_20) rfl rfl k) ?_
  refine GoW.sg (mkF m 22 (Sh6 a1c 0 4 b337 2) [(.int 0), (.ref a1c)]) (fun t k => XS.iloadN X343.here hx rfl (hb hby d4_21) rfl k) ?_
  refine GoW.sg (mkF m 23 (Sh6 a1c 0 4 b337 2) [(.int 4), (.int 0), (.ref a1c)]) (fun t k => XS.iloadN X343.here hx rfl (hb hby d4_22) rfl k) ?_
  obtain ⟨_, T363, L363, X363, hQ363, st363⟩ := own_callS X343 hx hZ hown (y := Y14) (ww hw 61 rfl) (ww hw 62 rfl) (ww hw 17 rfl) (ww hw 63 rfl) (by decide) 0 (rm14_8 l Z a0 hw [] a1c ka1c x1c x2c x3c x4c x5c T343.heap n0 f343_14 f343_8 f343_9 f343_10 f343_11 f343_12    ) (by decide) (by decide) rfl (by decide) (by decide) (g := (mkF m 23 (Sh6 a1c 0 4 b337 2) [(.int 4), (.int 0), (.ref a1c)])) rfl (by rw [hml]; rfl) (argsL := [(.ref a1c), (.int (0 : Int32)), (.int (4 : Int32))]) (rest := []) (lenOf pd_285bCII295bB rfl) rfl (by show 2 * 0 + _ ≤ _; exact Nat.le_of_eq rfl) (hb hby d4_23)
  obtain ⟨b363_e0, k363_ke0, rfl, N363q, K363, p363_0, hz_b363_e0⟩ := hQ363
  have g_b363_e0 : n0 ≤ b363_e0 := Nat.le_trans f343_14 hz_b363_e0
  have sz_b363_e0 : h0.size ≤ b363_e0 := Nat.le_trans f343_13.1 hz_b363_e0
  have ne_a1c_b363_e0 : a1c ≠ b363_e0 := Nat.ne_of_lt (Nat.lt_of_lt_of_le f343_8.lt hz_b363_e0)
  have ne_b337_b363_e0 : b337 ≠ b363_e0 := Nat.ne_of_lt (Nat.lt_of_lt_of_le p343_0.lt hz_b363_e0)
  have N363 := Fr.app N343 N363q
  have f363_15 := f343_8.keep K363 nin0
  have f363_16 := own_staK0 f343_9 K363
  have f363_17 := own_staK0 f343_10 K363
  have f363_18 := own_staK0 f343_11 K363
  have f363_19 := own_staK0 f343_12 K363
  have f363_20 := f343_13.trans K363 all0
  have f363_21 := Nat.le_trans f343_14 K363.1
  have f363_22 := p343_0.keep K363 nin0
  refine GoW.sg (mkF m 26 (Sh6 a1c 0 4 b337 2) [(.ref b363_e0)]) (fun t k => st363 t k) ?_
  refine GoW.sg (mkF m 28 (Sh11 a1c 0 4 b337 2 b363_e0) []) (fun t k => XS.astore X363.here hx rfl (hb hby d4_26) rfl rfl (l' := (Sh11 a1c 0 4 b337 2 b363_e0)) rfl k) ?_
  refine GoW.sg (mkF m 30 (Sh11 a1c 0 4 b337 2 b363_e0) [(.ref b363_e0)]) (fun t k => XS.aload X363.here hx rfl (hb hby d4_28) rfl rfl k) ?_
  refine GoW.sg (mkF m 32 (Sh11 a1c 0 4 b337 2 b363_e0) [(.int 2), (.ref b363_e0)]) (fun t k => XS.iload X363.here hx rfl (hb hby d4_30) rfl k) ?_
  obtain ⟨_, T369, L369, X369, hQ369, st369⟩ := own_callS X363 hx hZ hown (y := Y18) (ww hw 77 rfl) (ww hw 78 rfl) (ww hw 17 rfl) (ww hw 79 rfl) (by decide) 0 (rm18_20 l Z a0 hw [] b363_e0 k363_ke0 (lo8 x1c) (hi8 x1c) (lo8 x2c) (hi8 x2c) (lo8 x3c) (hi8 x3c) (lo8 x4c) (hi8 x4c) T363.heap n0  p363_0 f363_17 f363_18 f363_19    ) (by decide) (by decide) rfl (by decide) (by decide) (g := (mkF m 32 (Sh11 a1c 0 4 b337 2 b363_e0) [(.int 2), (.ref b363_e0)])) rfl (by rw [hml]; rfl) (argsL := [(.ref b363_e0), (.int (2 : Int32))]) (rest := []) (lenOf pd_285bBI29C rfl) rfl (by show 2 * 0 + _ ≤ _; exact Nat.le_of_eq rfl) (hb hby d4_32)
  obtain ⟨rfl, N369q, e369⟩ := hQ369
  have N369 := Fr.app N363 N369q
  refine GoW.sg (mkF m 35 (Sh11 a1c 0 4 b337 2 b363_e0) [(.int (nar .char ((((lo8 x3c) &&& (255 : Int32)) <<< ((0 : Int32) &&& 31)) ||| (((hi8 x3c) &&& (255 : Int32)) <<< ((8 : Int32) &&& 31))).toUInt32.toUInt16.toUInt32.toInt32))]) (fun t k => st369 t k) ?_
  rw [show (nar .char ((((lo8 x3c) &&& (255 : Int32)) <<< ((0 : Int32) &&& 31)) ||| (((hi8 x3c) &&& (255 : Int32)) <<< ((8 : Int32) &&& 31))).toUInt32.toUInt16.toUInt32.toInt32) = x3c from (own_join _ u0 u1)]
  refine GoW.sg (mkF m 38 (Sh11 a1c 0 4 b337 2 b363_e0) [(.int 255), (.int x3c)]) (fun t k => XS.sipush X369.here hx rfl (hb hby d4_35) k) ?_
  refine GoW.sg (mkF m 54 (Sh11 a1c 0 4 b337 2 b363_e0) []) (fun t k => XS.icmpYes X369.here hx rfl (pc0 := 38) (pc' := 54) rfl (hb hby d4_38) rfl (tlt u4).2.2.1 (by decide) (by decide) k) ?_
  refine GoW.sg (mkF m 56 (Sh11 a1c 0 4 b337 2 b363_e0) [(.ref b363_e0)]) (fun t k => XS.aload X369.here hx rfl (hb hby d4_54) rfl rfl k) ?_
  refine GoW.retA X369 hx Bd.returns rfl rfl rfl (hb hby d4_56) Bd.notSynchronized ?_ (by decide) (by decide)
  rw [e369]
  exact ⟨b363_e0, k363_ke0, rfl, N369, f363_20, p363_0, sz_b363_e0⟩
def Q2_22 (Z : State) (a1c : Addr) (a2c : Addr) (ka2c : ClassId) (x1c : Int32) (x2c : Int32) (x3c : Int32) (x4c : Int32) (x5c : Int32) (h0 : Heap) (n0 : Nat) (v : Option Value) (h : Heap) (L : List Loc) : Prop := ∃ e0 : Addr, ∃ ke0 : ClassId, v = none ∧ Fr n0 L ∧ (Keep h0 h [a1c]) ∧ (Exa Z h a1c "java/lang/String") ∧ (Fld Z h a1c "java/lang/String" "coder" "B" (.int (1 : Int32))) ∧ (Fld Z h a1c "java/lang/String" "value" "[B" (.ref e0)) ∧ (Arv Z h e0 ke0 .byte (8 : Int32) [(.int (lo8 x1c)), (.int (hi8 x1c)), (.int (lo8 x2c)), (.int (hi8 x2c)), (.int (lo8 x3c)), (.int (hi8 x3c)), (.int (lo8 x4c)), (.int (hi8 x4c))] (.int (0 : Int32))) ∧ (h0.size ≤ e0)
theorem ef2_rm2_22 (m : MethodId) (a1c : Addr) (a2c : Addr) : entryFrame m #[(.ref a1c), (.ref a2c), (.int (0 : Int32)), (.int (4 : Int32)), .null] 6 = (mkF m 0 #[.val (.ref a1c), .val (.ref a2c), .val (.int 0), .val (.int 4), .val .null, .unset] []) := by first | (simp [entryFrame, mkF, argsToLocals, Value.category, maxLocals]; done) | rfl
set_option maxRecDepth 65536 in
set_option maxHeartbeats 40000000 in
theorem rm2_22 (l : Launch) (Z : State) (a0 : Array Value) (hw : ∀ d ∈ tables_1, d.before a0 Z = true) (ws : List Jvm.Cond) (a1c : Addr) (a2c : Addr) (ka2c : ClassId) (x1c : Int32) (x2c : Int32) (x3c : Int32) (x4c : Int32) (x5c : Int32) (h0 : Heap) (n0 : Nat) (Z0 : n0 ≤ h0.size) (P0 : Exa Z h0 a1c "java/lang/String") (P1 : Fld Z h0 a1c "java/lang/String" "coder" "B" (.int (0 : Int32))) (P2 : Fld Z h0 a1c "java/lang/String" "value" "[B" .null) (P3 : Arv Z h0 a2c ka2c .char (4 : Int32) [(.int x1c), (.int x2c), (.int x3c), (.int x4c)] (.int (0 : Int32))) (P4 : Sta Z h0 "java/lang/String" "COMPACT_STRINGS" "Z" (.int x5c)) (P5 : Sta Z h0 "java/lang/StringUTF16" "$assertionsDisabled" "Z" (.int (1 : Int32))) (P6 : Sta Z h0 "java/lang/StringUTF16" "HI_BYTE_SHIFT" "I" (.int (0 : Int32))) (P7 : Sta Z h0 "java/lang/StringUTF16" "LO_BYTE_SHIFT" "I" (.int (8 : Int32))) (g_a1c : n0 ≤ a1c) (ne_a1c_a2c : a1c ≠ a2c) (u0 : ¬ (x3c < (0 : Int32))) (u1 : ¬ ((65535 : Int32) < x3c)) (u2 : ¬ (x5c = (0 : Int32))) (u3 : ¬ ((255 : Int32) < x1c)) (u4 : ¬ ((255 : Int32) < x2c)) (u5 : (255 : Int32) < x3c)   :
    MetFree l Y2 (head1 (Jvm.Cond.code Y2 jdk_42_method_149_code 6 none :: ws) ({ frames := 4, cells := 2, slots := 12, locals := 57 } : Room)) (fun a U => a = #[(.ref a1c), (.ref a2c), (.int (0 : Int32)), (.int (4 : Int32)), .null] ∧ Z.Warmed39 U.vm ∧ U.heap = h0) (fun _ _ _ _ _ => True) (fun _ U o U' => ∃ v L, o = .returned v ∧ (Q2_22 Z a1c a2c ka2c x1c x2c x3c x4c x5c h0 n0) v U'.heap L ∧ FrameEnd U o U' L 2 12) := by
  refine MetFree.of_bodySF (plainFor_of_name pn_java_lang_String) hisR ?_
  intro p e s m args below meth c s₁ Bd hml0 hP hK
  obtain ⟨rfl, hZ, hh⟩ := hP
  have hx := Bd.exec
  have hby := Bd.bytes
  have hml : c.maxLocals = 6 := hml0
  have hown : s.vm.findClass "java/lang/String" = some m.cls := findClass_of_methodNamed Bd.named
  have hnm := (name_of_methodNamed Bd.named Bd.method).1
  have X0 : Stand p l e ({ frames := 4, cells := 2, slots := 12, locals := 57 } : Room) s m #[(.ref a1c), (.ref a2c), (.int (0 : Int32)), (.int (4 : Int32)), .null] below meth c s₁ [] 0 0 := Stand.of_body Bd
  have e0 : s₁.heap = h0 := by rw [← hh, Bd.state]; rfl
  have N0 := Fr.nil n0
  refine GoW.mk ?_
  refine GoW.st (fun t k => castTop (ef2_rm2_22 m a1c a2c) k) ?_
  show GoW p e below s (Q2_22 Z a1c a2c ka2c x1c x2c x3c x4c x5c h0 n0) 2 12 (s₁.setTop (mkF m 0 (Sh0 a1c a2c 0 4) []))
  refine GoW.sg (mkF m 1 (Sh0 a1c a2c 0 4) [(.ref a1c)]) (fun t k => XS.aloadN X0.here hx rfl (hb hby d2_0) rfl rfl k) ?_
  obtain ⟨T374, X374, e374, st374⟩ := initO X0 hx hZ hown (ww hw 11 rfl) (ww hw 12 rfl) (ww hw 13 rfl) e0 (g := (mkF m 1 (Sh0 a1c a2c 0 4) [(.ref a1c)])) rfl (by rw [hml]; rfl) rfl (hb hby d2_1) (by decide) (W := 0) (by show 2 * 0 + _ ≤ _; exact Nat.le_of_eq rfl) (by decide)
  refine GoW.sg (mkF m 4 (Sh0 a1c a2c 0 4) []) (fun t k => st374 t k) ?_
  refine GoW.sg (mkF m 5 (Sh0 a1c a2c 0 4) [(.int 4)]) (fun t k => XS.iloadN X374.here hx rfl (hb hby d2_4) rfl k) ?_
  refine GoW.sg (mkF m 27 (Sh0 a1c a2c 0 4) []) (fun t k => XS.ifYes X374.here hx rfl (pc0 := 5) (pc' := 27) rfl (hb hby d2_5) rfl (by decide) (by decide) (by decide) k) ?_
  obtain ⟨T375, X375, e375, st375⟩ := getS (host := "") X374 hx hZ hown (ww hw 14 rfl) Via.refl e374 P4 (g := (mkF m 27 (Sh0 a1c a2c 0 4) [])) rfl (hb hby d2_27)
  refine GoW.sg (mkF m 30 (Sh0 a1c a2c 0 4) [(.int x5c)]) (fun t k => st375 t k) ?_
  refine GoW.sg (mkF m 33 (Sh0 a1c a2c 0 4) []) (fun t k => XS.ifNo X375.here hx rfl (hb hby d2_30) rfl ((if0 _ _).trans (feq u2).1) k) ?_
  refine GoW.sg (mkF m 34 (Sh0 a1c a2c 0 4) [(.ref a2c)]) (fun t k => XS.aloadN X375.here hx rfl (hb hby d2_33) rfl rfl k) ?_
  refine GoW.sg (mkF m 35 (Sh0 a1c a2c 0 4) [(.int 0), (.ref a2c)]) (fun t k => XS.iloadN X375.here hx rfl (hb hby d2_34) rfl k) ?_
  refine GoW.sg (mkF m 36 (Sh0 a1c a2c 0 4) [(.int 4), (.int 0), (.ref a2c)]) (fun t k => XS.iloadN X375.here hx rfl (hb hby d2_35) rfl k) ?_
  obtain ⟨_, T399, L399, X399, hQ399, st399⟩ := own_callS X375 hx hZ hown (y := Y4) (ww hw 15 rfl) (ww hw 16 rfl) (ww hw 17 rfl) (ww hw 18 rfl) (by decide) 0 (rm4_21 l Z a0 hw [] a2c ka2c x1c x2c x3c x4c x5c h0 n0 Z0 P3 P4 P5 P6 P7   u0 u1 u3 u4 u5 ) (by decide) (by decide) e375 (by decide) (by decide) (g := (mkF m 36 (Sh0 a1c a2c 0 4) [(.int 4), (.int 0), (.ref a2c)])) rfl (by rw [hml]; rfl) (argsL := [(.ref a2c), (.int (0 : Int32)), (.int (4 : Int32))]) (rest := []) (lenOf pd_285bCII295bB rfl) rfl (by show 2 * 0 + _ ≤ _; exact Nat.le_of_eq rfl) (hb hby d2_36)
  obtain ⟨b399_e0, k399_ke0, rfl, N399q, K399, p399_0, hz_b399_e0⟩ := hQ399
  have g_b399_e0 : n0 ≤ b399_e0 := Nat.le_trans Z0 hz_b399_e0
  have sz_b399_e0 : h0.size ≤ b399_e0 := Nat.le_trans (Keep.refl h0 [a1c]).1 hz_b399_e0
  have ne_a1c_b399_e0 : a1c ≠ b399_e0 := Nat.ne_of_lt (Nat.lt_of_lt_of_le P0.lt hz_b399_e0)
  have ne_a2c_b399_e0 : a2c ≠ b399_e0 := Nat.ne_of_lt (Nat.lt_of_lt_of_le P3.lt hz_b399_e0)
  have N399 := Fr.app N0 N399q
  have f399_1 := P0.keep K399
  have f399_2 := P1.keep K399 nin0
  have f399_3 := P2.keep K399 nin0
  have f399_4 := P3.keep K399 nin0
  have f399_5 := own_staK0 P4 K399
  have f399_6 := own_staK0 P5 K399
  have f399_7 := own_staK0 P6 K399
  have f399_8 := own_staK0 P7 K399
  have f399_9 := (Keep.refl h0 [a1c]).trans K399 all0
  have f399_10 := Nat.le_trans Z0 K399.1
  refine GoW.sg (mkF m 39 (Sh0 a1c a2c 0 4) [(.ref b399_e0)]) (fun t k => st399 t k) ?_
  refine GoW.sg (mkF m 41 (Sh12 a1c a2c 0 4 b399_e0) []) (fun t k => XS.astore X399.here hx rfl (hb hby d2_39) rfl rfl (l' := (Sh12 a1c a2c 0 4 b399_e0)) rfl k) ?_
  refine GoW.sg (mkF m 42 (Sh12 a1c a2c 0 4 b399_e0) [(.ref a1c)]) (fun t k => XS.aloadN X399.here hx rfl (hb hby d2_41) rfl rfl k) ?_
  refine GoW.sg (mkF m 44 (Sh12 a1c a2c 0 4 b399_e0) [(.ref b399_e0), (.ref a1c)]) (fun t k => XS.aload X399.here hx rfl (hb hby d2_42) rfl rfl k) ?_
  refine GoW.sg (mkF m 45 (Sh12 a1c a2c 0 4 b399_e0) [(.int 4), (.ref b399_e0), (.ref a1c)]) (fun t k => XS.iloadN X399.here hx rfl (hb hby d2_44) rfl k) ?_
  obtain ⟨_, T400, L400, X400, hQ400, st400⟩ := own_callS X399 hx hZ hown (y := Y6) (ww hw 23 rfl) (ww hw 24 rfl) (ww hw 17 rfl) (ww hw 25 rfl) (by decide) 1 (rm6_11 l Z a0 hw [] b399_e0 k399_ke0 (lo8 x1c) (hi8 x1c) (lo8 x2c) (hi8 x2c) (lo8 x3c) (hi8 x3c) (lo8 x4c) (hi8 x4c) T399.heap n0  p399_0    ) (by decide) (by decide) rfl (by decide) (by decide) (g := (mkF m 45 (Sh12 a1c a2c 0 4 b399_e0) [(.int 4), (.ref b399_e0), (.ref a1c)])) rfl (by rw [hml]; rfl) (argsL := [(.ref b399_e0), (.int (4 : Int32))]) (rest := [(.ref a1c)]) (lenOf pd_285bBI29B rfl) rfl (by show 2 * 0 + _ ≤ _; exact Nat.le_of_eq rfl) (hb hby d2_45)
  obtain ⟨rfl, N400q, e400⟩ := hQ400
  have N400 := Fr.app N399 N400q
  refine GoW.sg (mkF m 48 (Sh12 a1c a2c 0 4 b399_e0) [(.int 1), (.ref a1c)]) (fun t k => st400 t k) ?_
  obtain ⟨T401, h401, X401, e401, W401, st401⟩ := putF X400 hx hZ hown (host := "") (Or.inl (ww hw 26 rfl)) Via.refl e400 f399_2 f399_1 (Or.inr ⟨(ww hw 27 rfl), rfl, hnm⟩) (ww hw 2 rfl) (ty := .byte) (by decide) rfl rfl (g := (mkF m 48 (Sh12 a1c a2c 0 4 b399_e0) [(.int 1), (.ref a1c)])) rfl rfl (hb hby d2_48)
  have N401 := Fr.snoc X401 N400 g_a1c
  have f401_11 := f399_1.wr W401
  have f401_12 := f399_3.other W401 (Or.inr (slot_ne (t := (.array .byte)) (t' := .byte) (Or.inr (ww hw 29 rfl)) (Or.inr (ww hw 27 rfl)) (by decide) (by decide) (by decide)))
  have f401_13 := f399_4.other W401 (Ne.symm ne_a1c_a2c)
  have f401_14 := f399_5.wr W401
  have f401_15 := f399_6.wr W401
  have f401_16 := f399_7.wr W401
  have f401_17 := f399_8.wr W401
  have f401_18 := f399_9.wr W401 (Or.inl (List.mem_of_getElem? (i := 0) rfl))
  have f401_19 := Nat.le_trans f399_10 (Nat.le_of_eq W401.size.symm)
  have f401_20 := p399_0.other W401 (Ne.symm ne_a1c_b399_e0)
  have F401coder : Fld Z h401 a1c "java/lang/String" "coder" "B" (.int (1 : Int32)) := f399_2.same W401
  refine GoW.sg (mkF m 51 (Sh12 a1c a2c 0 4 b399_e0) []) (fun t k => st401 t k) ?_
  refine GoW.sg (mkF m 52 (Sh12 a1c a2c 0 4 b399_e0) [(.ref a1c)]) (fun t k => XS.aloadN X401.here hx rfl (hb hby d2_51) rfl rfl k) ?_
  refine GoW.sg (mkF m 54 (Sh12 a1c a2c 0 4 b399_e0) [(.ref b399_e0), (.ref a1c)]) (fun t k => XS.aload X401.here hx rfl (hb hby d2_52) rfl rfl k) ?_
  obtain ⟨T402, h402, X402, e402, W402, st402⟩ := putF X401 hx hZ hown (host := "") (Or.inl (ww hw 28 rfl)) Via.refl e401 f401_12 f401_11 (Or.inr ⟨(ww hw 29 rfl), rfl, hnm⟩) (ww hw 2 rfl) (ty := (.array .byte)) (by decide) rfl rfl (g := (mkF m 54 (Sh12 a1c a2c 0 4 b399_e0) [(.ref b399_e0), (.ref a1c)])) rfl rfl (hb hby d2_54)
  have N402 := Fr.snoc X402 N401 g_a1c
  have f402_21 := f401_11.wr W402
  have f402_22 := F401coder.other W402 (Or.inr (slot_ne (t := .byte) (t' := (.array .byte)) (Or.inr (ww hw 27 rfl)) (Or.inr (ww hw 29 rfl)) (by decide) (by decide) (by decide)))
  have f402_23 := f401_13.other W402 (Ne.symm ne_a1c_a2c)
  have f402_24 := f401_14.wr W402
  have f402_25 := f401_15.wr W402
  have f402_26 := f401_16.wr W402
  have f402_27 := f401_17.wr W402
  have f402_28 := f401_18.wr W402 (Or.inl (List.mem_of_getElem? (i := 0) rfl))
  have f402_29 := Nat.le_trans f401_19 (Nat.le_of_eq W402.size.symm)
  have f402_30 := f401_20.other W402 (Ne.symm ne_a1c_b399_e0)
  have F402value : Fld Z h402 a1c "java/lang/String" "value" "[B" (.ref b399_e0) := f401_12.same W402
  refine GoW.sg (mkF m 57 (Sh12 a1c a2c 0 4 b399_e0) []) (fun t k => st402 t k) ?_
  refine GoW.retV X402 hx Bd.returns (hb hby d2_57) Bd.notSynchronized ?_ (by decide) (by decide)
  rw [e402]
  exact ⟨b399_e0, k399_ke0, rfl, N402, f402_28, f402_21, f402_22, F402value, f402_30, sz_b399_e0⟩
def Q5_24 (Z : State) (a1c : Addr) (a2c : Addr) (ka2c : ClassId) (ka1c : ClassId) (x1c : Int32) (x2c : Int32) (x3c : Int32) (x4c : Int32) (x5c : Int32) (h0 : Heap) (n0 : Nat) (v : Option Value) (h : Heap) (L : List Loc) : Prop := v = some (.int (3 : Int32)) ∧ Fr n0 L ∧ (Keep h0 h [a2c]) ∧ (Arv Z h a2c ka2c .byte (4 : Int32) [(.int (lat8 x1c)), (.int (lat8 x2c)), (.int (lat8 x3c)), (.int (0 : Int32))] (.int (0 : Int32)))
theorem ef5_rm5_24 (m : MethodId) (a1c : Addr) (a2c : Addr) : entryFrame m #[(.ref a1c), (.int (0 : Int32)), (.ref a2c), (.int (0 : Int32)), (.int (4 : Int32))] 7 = (mkF m 0 #[.val (.ref a1c), .val (.int 0), .val (.ref a2c), .val (.int 0), .val (.int 4), .unset, .unset] []) := by first | (simp [entryFrame, mkF, argsToLocals, Value.category, maxLocals]; done) | rfl
set_option maxRecDepth 65536 in
set_option maxHeartbeats 40000000 in
theorem rm5_24 (l : Launch) (Z : State) (a0 : Array Value) (hw : ∀ d ∈ tables_1, d.before a0 Z = true) (ws : List Jvm.Cond) (a1c : Addr) (a2c : Addr) (ka2c : ClassId) (ka1c : ClassId) (x1c : Int32) (x2c : Int32) (x3c : Int32) (x4c : Int32) (x5c : Int32) (h0 : Heap) (n0 : Nat) (P0 : Arv Z h0 a2c ka2c .byte (4 : Int32) [(.int (0 : Int32)), (.int (0 : Int32)), (.int (0 : Int32)), (.int (0 : Int32))] (.int (0 : Int32))) (P1 : Arv Z h0 a1c ka1c .char (4 : Int32) [(.int x1c), (.int x2c), (.int x3c), (.int x4c)] (.int (0 : Int32))) (P2 : Sta Z h0 "java/lang/String" "COMPACT_STRINGS" "Z" (.int x5c)) (P3 : Sta Z h0 "java/lang/StringUTF16" "$assertionsDisabled" "Z" (.int (1 : Int32))) (P4 : Sta Z h0 "java/lang/StringUTF16" "HI_BYTE_SHIFT" "I" (.int (0 : Int32))) (P5 : Sta Z h0 "java/lang/StringUTF16" "LO_BYTE_SHIFT" "I" (.int (8 : Int32))) (g_a2c : n0 ≤ a2c) (ne_a1c_a2c : a1c ≠ a2c) (u0 : ¬ ((255 : Int32) < x1c)) (u1 : ¬ ((255 : Int32) < x2c)) (u2 : ¬ ((255 : Int32) < x3c)) (u3 : (255 : Int32) < x4c)   :
    MetFree l Y5 (head1 (Jvm.Cond.code Y5 jdk_52_method_21_code 7 (some .int) :: ws) ({ frames := 0, cells := 0, slots := 0, locals := 0 } : Room)) (fun a U => a = #[(.ref a1c), (.int (0 : Int32)), (.ref a2c), (.int (0 : Int32)), (.int (4 : Int32))] ∧ Z.Warmed39 U.vm ∧ U.heap = h0) (fun _ _ _ _ _ => True) (fun _ U o U' => ∃ v L, o = .returned v ∧ (Q5_24 Z a1c a2c ka2c ka1c x1c x2c x3c x4c x5c h0 n0) v U'.heap L ∧ FrameEnd U o U' L 0 0) := by
  refine MetFree.of_bodySF (plainFor_of_name pn_java_lang_StringUTF16) hisR ?_
  intro p e s m args below meth c s₁ Bd hml0 hP hK
  obtain ⟨rfl, hZ, hh⟩ := hP
  have hx := Bd.exec
  have hby := Bd.bytes
  have hml : c.maxLocals = 7 := hml0
  have hown : s.vm.findClass "java/lang/StringUTF16" = some m.cls := findClass_of_methodNamed Bd.named
  have hnm := (name_of_methodNamed Bd.named Bd.method).1
  have X0 : Stand p l e ({ frames := 0, cells := 0, slots := 0, locals := 0 } : Room) s m #[(.ref a1c), (.int (0 : Int32)), (.ref a2c), (.int (0 : Int32)), (.int (4 : Int32))] below meth c s₁ [] 0 0 := Stand.of_body Bd
  have e0 : s₁.heap = h0 := by rw [← hh, Bd.state]; rfl
  have N0 := Fr.nil n0
  refine GoW.mk ?_
  refine GoW.st (fun t k => castTop (ef5_rm5_24 m a1c a2c) k) ?_
  show GoW p e below s (Q5_24 Z a1c a2c ka2c ka1c x1c x2c x3c x4c x5c h0 n0) 0 0 (s₁.setTop (mkF m 0 (Sh3 a1c 0 a2c 0 4) []))
  refine GoW.sg (mkF m 1 (Sh3 a1c 0 a2c 0 4) [(.int 0)]) (fun t k => XS.iconst X0.here hx rfl (hb hby d5_0) k) ?_
  refine GoW.sg (mkF m 3 (Sh4 a1c 0 a2c 0 4 0) []) (fun t k => XS.istore X0.here hx rfl (hb hby d5_1) rfl (l' := (Sh4 a1c 0 a2c 0 4 0)) rfl k) ?_
  refine GoW.sg (mkF m 5 (Sh4 a1c 0 a2c 0 4 0) [(.int 0)]) (fun t k => XS.iload X0.here hx rfl (hb hby d5_3) rfl k) ?_
  refine GoW.sg (mkF m 7 (Sh4 a1c 0 a2c 0 4 0) [(.int 4), (.int 0)]) (fun t k => XS.iload X0.here hx rfl (hb hby d5_5) rfl k) ?_
  refine GoW.sg (mkF m 10 (Sh4 a1c 0 a2c 0 4 0) []) (fun t k => XS.icmpNo X0.here hx rfl (hb hby d5_7) rfl (by decide) k) ?_
  refine GoW.sg (mkF m 11 (Sh4 a1c 0 a2c 0 4 0) [(.ref a1c)]) (fun t k => XS.aloadN X0.here hx rfl (hb hby d5_10) rfl rfl k) ?_
  refine GoW.sg (mkF m 12 (Sh4 a1c 0 a2c 0 4 0) [(.int 0), (.ref a1c)]) (fun t k => XS.iloadN X0.here hx rfl (hb hby d5_11) rfl k) ?_
  obtain ⟨cl423, Ar423, q423, Sz423, Nn423, Hh423, Gg423⟩ := id P1
  have hin423 : ¬ ((0 : Int32) < 0 ∨ cl423.slots.size ≤ ((0 : Int32)).toNatClampNeg) := inb_of Sz423 ⟨by decide, by decide⟩
  refine GoW.sg (mkF m 13 (Sh4 a1c 0 a2c 0 4 0) [(.int x1c)]) (fun t k => X0.caload hx (j := (0 : Int32)) (v := (.int x1c)) (hq_ e0 Ar423.1) (State.isArrayOf_alike hZ.alike Ar423.2.1) Ar423.2.2 hin423 (Hh423.at hin423 rfl) (g := (mkF m 12 (Sh4 a1c 0 a2c 0 4 0) [(.int 0), (.ref a1c)])) rfl rfl (hb hby d5_12) t k) ?_
  refine GoW.sg (mkF m 15 (Sh5 a1c 0 a2c 0 4 0 x1c) []) (fun t k => XS.istore X0.here hx rfl (hb hby d5_13) rfl (l' := (Sh5 a1c 0 a2c 0 4 0 x1c)) rfl k) ?_
  refine GoW.sg (mkF m 17 (Sh5 a1c 0 a2c 0 4 0 x1c) [(.int x1c)]) (fun t k => XS.iload X0.here hx rfl (hb hby d5_15) rfl k) ?_
  refine GoW.sg (mkF m 20 (Sh5 a1c 0 a2c 0 4 0 x1c) [(.int 255), (.int x1c)]) (fun t k => XS.sipush X0.here hx rfl (hb hby d5_17) k) ?_
  refine GoW.sg (mkF m 26 (Sh5 a1c 0 a2c 0 4 0 x1c) []) (fun t k => XS.icmpYes X0.here hx rfl (pc0 := 20) (pc' := 26) rfl (hb hby d5_20) rfl (flt u0).2.2.2 (by decide) (by decide) k) ?_
  refine GoW.sg (mkF m 27 (Sh5 a1c 0 a2c 0 4 0 x1c) [(.ref a2c)]) (fun t k => XS.aloadN X0.here hx rfl (hb hby d5_26) rfl rfl k) ?_
  refine GoW.sg (mkF m 28 (Sh5 a1c 0 a2c 0 4 0 x1c) [(.int 0), (.ref a2c)]) (fun t k => XS.iloadN X0.here hx rfl (hb hby d5_27) rfl k) ?_
  refine GoW.sg (mkF m 30 (Sh5 a1c 0 a2c 0 4 0 x1c) [(.int x1c), (.int 0), (.ref a2c)]) (fun t k => XS.iload X0.here hx rfl (hb hby d5_28) rfl k) ?_
  refine GoW.sg (mkF m 31 (Sh5 a1c 0 a2c 0 4 0 x1c) [(.int x1c.toInt8.toInt32), (.int 0), (.ref a2c)]) (fun t k => XS.i2b X0.here hx rfl (hb hby d5_30) rfl k) ?_
  obtain ⟨cl424, Ar424, q424, Sz424, Nn424, Hh424, Gg424⟩ := P0
  have hin424 : ¬ ((0 : Int32) < 0 ∨ cl424.slots.size ≤ ((0 : Int32)).toNatClampNeg) := inb_of Sz424 ⟨by decide, by decide⟩
  obtain ⟨T424, h424, X424, e424, W424, st424⟩ := stB X0 hx hZ e0 Ar424 (j := (0 : Int32)) hin424 (g := (mkF m 31 (Sh5 a1c 0 a2c 0 4 0 x1c) [(.int x1c.toInt8.toInt32), (.int 0), (.ref a2c)])) rfl rfl (hb hby d5_31)
  have f424_1 := P1.other W424 ne_a1c_a2c
  have f424_2 := P2.wr W424
  have f424_3 := P3.wr W424
  have f424_4 := P4.wr W424
  have f424_5 := P5.wr W424
  have f424_6 := (Keep.refl h0 [a2c]).wr W424 (Or.inl (List.mem_of_getElem? (i := 0) rfl))
  have V424 : Arv Z h424 a2c ka2c .byte (4 : Int32) [(.int (lat8 x1c)), (.int (0 : Int32)), (.int (0 : Int32)), (.int (0 : Int32))] (.int (0 : Int32)) := Arv.set Ar424 q424 Sz424 Nn424 Hh424 Gg424 (fits_nar_byte _) W424 0 rfl (Nat.le_of_ble_eq_true rfl)
  have N424 := Fr.snoc X424 N0 g_a2c
  refine GoW.sg (mkF m 32 (Sh5 a1c 0 a2c 0 4 0 x1c) []) (fun t k => st424 t k) ?_
  refine GoW.sg (mkF m 35 (Sh5 a1c 1 a2c 0 4 0 x1c) []) (fun t k => XS.iinc X424.here hx rfl (hb hby d5_32) rfl (l' := (Sh5 a1c 1 a2c 0 4 0 x1c)) rfl k) ?_
  refine GoW.sg (mkF m 38 (Sh5 a1c 1 a2c 1 4 0 x1c) []) (fun t k => XS.iinc X424.here hx rfl (hb hby d5_35) rfl (l' := (Sh5 a1c 1 a2c 1 4 0 x1c)) rfl k) ?_
  refine GoW.sg (mkF m 41 (Sh5 a1c 1 a2c 1 4 1 x1c) []) (fun t k => XS.iinc X424.here hx rfl (hb hby d5_38) rfl (l' := (Sh5 a1c 1 a2c 1 4 1 x1c)) rfl k) ?_
  refine GoW.sg (mkF m 3 (Sh5 a1c 1 a2c 1 4 1 x1c) []) (fun t k => XS.goto X424.here hx rfl (pc0 := 41) (pc' := 3) rfl (hb hby d5_41) (by decide) (by decide) k) ?_
  refine GoW.sg (mkF m 5 (Sh5 a1c 1 a2c 1 4 1 x1c) [(.int 1)]) (fun t k => XS.iload X424.here hx rfl (hb hby d5_3) rfl k) ?_
  refine GoW.sg (mkF m 7 (Sh5 a1c 1 a2c 1 4 1 x1c) [(.int 4), (.int 1)]) (fun t k => XS.iload X424.here hx rfl (hb hby d5_5) rfl k) ?_
  refine GoW.sg (mkF m 10 (Sh5 a1c 1 a2c 1 4 1 x1c) []) (fun t k => XS.icmpNo X424.here hx rfl (hb hby d5_7) rfl (by decide) k) ?_
  refine GoW.sg (mkF m 11 (Sh5 a1c 1 a2c 1 4 1 x1c) [(.ref a1c)]) (fun t k => XS.aloadN X424.here hx rfl (hb hby d5_10) rfl rfl k) ?_
  refine GoW.sg (mkF m 12 (Sh5 a1c 1 a2c 1 4 1 x1c) [(.int 1), (.ref a1c)]) (fun t k => XS.iloadN X424.here hx rfl (hb hby d5_11) rfl k) ?_
  obtain ⟨cl425, Ar425, q425, Sz425, Nn425, Hh425, Gg425⟩ := id f424_1
  have hin425 : ¬ ((1 : Int32) < 0 ∨ cl425.slots.size ≤ ((1 : Int32)).toNatClampNeg) := inb_of Sz425 ⟨by decide, by decide⟩
  refine GoW.sg (mkF m 13 (Sh5 a1c 1 a2c 1 4 1 x1c) [(.int x2c)]) (fun t k => X424.caload hx (j := (1 : Int32)) (v := (.int x2c)) (hq_ e424 Ar425.1) (State.isArrayOf_alike hZ.alike Ar425.2.1) Ar425.2.2 hin425 (Hh425.at hin425 rfl) (g := (mkF m 12 (Sh5 a1c 1 a2c 1 4 1 x1c) [(.int 1), (.ref a1c)])) rfl rfl (hb hby d5_12) t k) ?_
  refine GoW.sg (mkF m 15 (Sh5 a1c 1 a2c 1 4 1 x2c) []) (fun t k => XS.istore X424.here hx rfl (hb hby d5_13) rfl (l' := (Sh5 a1c 1 a2c 1 4 1 x2c)) rfl k) ?_
  refine GoW.sg (mkF m 17 (Sh5 a1c 1 a2c 1 4 1 x2c) [(.int x2c)]) (fun t k => XS.iload X424.here hx rfl (hb hby d5_15) rfl k) ?_
  refine GoW.sg (mkF m 20 (Sh5 a1c 1 a2c 1 4 1 x2c) [(.int 255), (.int x2c)]) (fun t k => XS.sipush X424.here hx rfl (hb hby d5_17) k) ?_
  refine GoW.sg (mkF m 26 (Sh5 a1c 1 a2c 1 4 1 x2c) []) (fun t k => XS.icmpYes X424.here hx rfl (pc0 := 20) (pc' := 26) rfl (hb hby d5_20) rfl (flt u1).2.2.2 (by decide) (by decide) k) ?_
  refine GoW.sg (mkF m 27 (Sh5 a1c 1 a2c 1 4 1 x2c) [(.ref a2c)]) (fun t k => XS.aloadN X424.here hx rfl (hb hby d5_26) rfl rfl k) ?_
  refine GoW.sg (mkF m 28 (Sh5 a1c 1 a2c 1 4 1 x2c) [(.int 1), (.ref a2c)]) (fun t k => XS.iloadN X424.here hx rfl (hb hby d5_27) rfl k) ?_
  refine GoW.sg (mkF m 30 (Sh5 a1c 1 a2c 1 4 1 x2c) [(.int x2c), (.int 1), (.ref a2c)]) (fun t k => XS.iload X424.here hx rfl (hb hby d5_28) rfl k) ?_
  refine GoW.sg (mkF m 31 (Sh5 a1c 1 a2c 1 4 1 x2c) [(.int x2c.toInt8.toInt32), (.int 1), (.ref a2c)]) (fun t k => XS.i2b X424.here hx rfl (hb hby d5_30) rfl k) ?_
  obtain ⟨cl426, Ar426, q426, Sz426, Nn426, Hh426, Gg426⟩ := V424
  have hin426 : ¬ ((1 : Int32) < 0 ∨ cl426.slots.size ≤ ((1 : Int32)).toNatClampNeg) := inb_of Sz426 ⟨by decide, by decide⟩
  obtain ⟨T426, h426, X426, e426, W426, st426⟩ := stB X424 hx hZ e424 Ar426 (j := (1 : Int32)) hin426 (g := (mkF m 31 (Sh5 a1c 1 a2c 1 4 1 x2c) [(.int x2c.toInt8.toInt32), (.int 1), (.ref a2c)])) rfl rfl (hb hby d5_31)
  have f426_7 := f424_1.other W426 ne_a1c_a2c
  have f426_8 := f424_2.wr W426
  have f426_9 := f424_3.wr W426
  have f426_10 := f424_4.wr W426
  have f426_11 := f424_5.wr W426
  have f426_12 := f424_6.wr W426 (Or.inl (List.mem_of_getElem? (i := 0) rfl))
  have V426 : Arv Z h426 a2c ka2c .byte (4 : Int32) [(.int (lat8 x1c)), (.int (lat8 x2c)), (.int (0 : Int32)), (.int (0 : Int32))] (.int (0 : Int32)) := Arv.set Ar426 q426 Sz426 Nn426 Hh426 Gg426 (fits_nar_byte _) W426 1 rfl (Nat.le_of_ble_eq_true rfl)
  have N426 := Fr.snoc X426 N424 g_a2c
  refine GoW.sg (mkF m 32 (Sh5 a1c 1 a2c 1 4 1 x2c) []) (fun t k => st426 t k) ?_
  refine GoW.sg (mkF m 35 (Sh5 a1c 2 a2c 1 4 1 x2c) []) (fun t k => XS.iinc X426.here hx rfl (hb hby d5_32) rfl (l' := (Sh5 a1c 2 a2c 1 4 1 x2c)) rfl k) ?_
  refine GoW.sg (mkF m 38 (Sh5 a1c 2 a2c 2 4 1 x2c) []) (fun t k => XS.iinc X426.here hx rfl (hb hby d5_35) rfl (l' := (Sh5 a1c 2 a2c 2 4 1 x2c)) rfl k) ?_
  refine GoW.sg (mkF m 41 (Sh5 a1c 2 a2c 2 4 2 x2c) []) (fun t k => XS.iinc X426.here hx rfl (hb hby d5_38) rfl (l' := (Sh5 a1c 2 a2c 2 4 2 x2c)) rfl k) ?_
  refine GoW.sg (mkF m 3 (Sh5 a1c 2 a2c 2 4 2 x2c) []) (fun t k => XS.goto X426.here hx rfl (pc0 := 41) (pc' := 3) rfl (hb hby d5_41) (by decide) (by decide) k) ?_
  refine GoW.sg (mkF m 5 (Sh5 a1c 2 a2c 2 4 2 x2c) [(.int 2)]) (fun t k => XS.iload X426.here hx rfl (hb hby d5_3) rfl k) ?_
  refine GoW.sg (mkF m 7 (Sh5 a1c 2 a2c 2 4 2 x2c) [(.int 4), (.int 2)]) (fun t k => XS.iload X426.here hx rfl (hb hby d5_5) rfl k) ?_
  refine GoW.sg (mkF m 10 (Sh5 a1c 2 a2c 2 4 2 x2c) []) (fun t k => XS.icmpNo X426.here hx rfl (hb hby d5_7) rfl (by decide) k) ?_
  refine GoW.sg (mkF m 11 (Sh5 a1c 2 a2c 2 4 2 x2c) [(.ref a1c)]) (fun t k => XS.aloadN X426.here hx rfl (hb hby d5_10) rfl rfl k) ?_
  refine GoW.sg (mkF m 12 (Sh5 a1c 2 a2c 2 4 2 x2c) [(.int 2), (.ref a1c)]) (fun t k => XS.iloadN X426.here hx rfl (hb hby d5_11) rfl k) ?_
  obtain ⟨cl427, Ar427, q427, Sz427, Nn427, Hh427, Gg427⟩ := id f426_7
  have hin427 : ¬ ((2 : Int32) < 0 ∨ cl427.slots.size ≤ ((2 : Int32)).toNatClampNeg) := inb_of Sz427 ⟨by decide, by decide⟩
  refine GoW.sg (mkF m 13 (Sh5 a1c 2 a2c 2 4 2 x2c) [(.int x3c)]) (fun t k => X426.caload hx (j := (2 : Int32)) (v := (.int x3c)) (hq_ e426 Ar427.1) (State.isArrayOf_alike hZ.alike Ar427.2.1) Ar427.2.2 hin427 (Hh427.at hin427 rfl) (g := (mkF m 12 (Sh5 a1c 2 a2c 2 4 2 x2c) [(.int 2), (.ref a1c)])) rfl rfl (hb hby d5_12) t k) ?_
  refine GoW.sg (mkF m 15 (Sh5 a1c 2 a2c 2 4 2 x3c) []) (fun t k => XS.istore X426.here hx rfl (hb hby d5_13) rfl (l' := (Sh5 a1c 2 a2c 2 4 2 x3c)) rfl k) ?_
  refine GoW.sg (mkF m 17 (Sh5 a1c 2 a2c 2 4 2 x3c) [(.int x3c)]) (fun t k => XS.iload X426.here hx rfl (hb hby d5_15) rfl k) ?_
  refine GoW.sg (mkF m 20 (Sh5 a1c 2 a2c 2 4 2 x3c) [(.int 255), (.int x3c)]) (fun t k => XS.sipush X426.here hx rfl (hb hby d5_17) k) ?_
  refine GoW.sg (mkF m 26 (Sh5 a1c 2 a2c 2 4 2 x3c) []) (fun t k => XS.icmpYes X426.here hx rfl (pc0 := 20) (pc' := 26) rfl (hb hby d5_20) rfl (flt u2).2.2.2 (by decide) (by decide) k) ?_
  refine GoW.sg (mkF m 27 (Sh5 a1c 2 a2c 2 4 2 x3c) [(.ref a2c)]) (fun t k => XS.aloadN X426.here hx rfl (hb hby d5_26) rfl rfl k) ?_
  refine GoW.sg (mkF m 28 (Sh5 a1c 2 a2c 2 4 2 x3c) [(.int 2), (.ref a2c)]) (fun t k => XS.iloadN X426.here hx rfl (hb hby d5_27) rfl k) ?_
  refine GoW.sg (mkF m 30 (Sh5 a1c 2 a2c 2 4 2 x3c) [(.int x3c), (.int 2), (.ref a2c)]) (fun t k => XS.iload X426.here hx rfl (hb hby d5_28) rfl k) ?_
  refine GoW.sg (mkF m 31 (Sh5 a1c 2 a2c 2 4 2 x3c) [(.int x3c.toInt8.toInt32), (.int 2), (.ref a2c)]) (fun t k => XS.i2b X426.here hx rfl (hb hby d5_30) rfl k) ?_
  obtain ⟨cl428, Ar428, q428, Sz428, Nn428, Hh428, Gg428⟩ := V426
  have hin428 : ¬ ((2 : Int32) < 0 ∨ cl428.slots.size ≤ ((2 : Int32)).toNatClampNeg) := inb_of Sz428 ⟨by decide, by decide⟩
  obtain ⟨T428, h428, X428, e428, W428, st428⟩ := stB X426 hx hZ e426 Ar428 (j := (2 : Int32)) hin428 (g := (mkF m 31 (Sh5 a1c 2 a2c 2 4 2 x3c) [(.int x3c.toInt8.toInt32), (.int 2), (.ref a2c)])) rfl rfl (hb hby d5_31)
  have f428_13 := f426_7.other W428 ne_a1c_a2c
  have f428_14 := f426_8.wr W428
  have f428_15 := f426_9.wr W428
  have f428_16 := f426_10.wr W428
  have f428_17 := f426_11.wr W428
  have f428_18 := f426_12.wr W428 (Or.inl (List.mem_of_getElem? (i := 0) rfl))
  have V428 : Arv Z h428 a2c ka2c .byte (4 : Int32) [(.int (lat8 x1c)), (.int (lat8 x2c)), (.int (lat8 x3c)), (.int (0 : Int32))] (.int (0 : Int32)) := Arv.set Ar428 q428 Sz428 Nn428 Hh428 Gg428 (fits_nar_byte _) W428 2 rfl (Nat.le_of_ble_eq_true rfl)
  have N428 := Fr.snoc X428 N426 g_a2c
  refine GoW.sg (mkF m 32 (Sh5 a1c 2 a2c 2 4 2 x3c) []) (fun t k => st428 t k) ?_
  refine GoW.sg (mkF m 35 (Sh5 a1c 3 a2c 2 4 2 x3c) []) (fun t k => XS.iinc X428.here hx rfl (hb hby d5_32) rfl (l' := (Sh5 a1c 3 a2c 2 4 2 x3c)) rfl k) ?_
  refine GoW.sg (mkF m 38 (Sh5 a1c 3 a2c 3 4 2 x3c) []) (fun t k => XS.iinc X428.here hx rfl (hb hby d5_35) rfl (l' := (Sh5 a1c 3 a2c 3 4 2 x3c)) rfl k) ?_
  refine GoW.sg (mkF m 41 (Sh5 a1c 3 a2c 3 4 3 x3c) []) (fun t k => XS.iinc X428.here hx rfl (hb hby d5_38) rfl (l' := (Sh5 a1c 3 a2c 3 4 3 x3c)) rfl k) ?_
  refine GoW.sg (mkF m 3 (Sh5 a1c 3 a2c 3 4 3 x3c) []) (fun t k => XS.goto X428.here hx rfl (pc0 := 41) (pc' := 3) rfl (hb hby d5_41) (by decide) (by decide) k) ?_
  refine GoW.sg (mkF m 5 (Sh5 a1c 3 a2c 3 4 3 x3c) [(.int 3)]) (fun t k => XS.iload X428.here hx rfl (hb hby d5_3) rfl k) ?_
  refine GoW.sg (mkF m 7 (Sh5 a1c 3 a2c 3 4 3 x3c) [(.int 4), (.int 3)]) (fun t k => XS.iload X428.here hx rfl (hb hby d5_5) rfl k) ?_
  refine GoW.sg (mkF m 10 (Sh5 a1c 3 a2c 3 4 3 x3c) []) (fun t k => XS.icmpNo X428.here hx rfl (hb hby d5_7) rfl (by decide) k) ?_
  refine GoW.sg (mkF m 11 (Sh5 a1c 3 a2c 3 4 3 x3c) [(.ref a1c)]) (fun t k => XS.aloadN X428.here hx rfl (hb hby d5_10) rfl rfl k) ?_
  refine GoW.sg (mkF m 12 (Sh5 a1c 3 a2c 3 4 3 x3c) [(.int 3), (.ref a1c)]) (fun t k => XS.iloadN X428.here hx rfl (hb hby d5_11) rfl k) ?_
  obtain ⟨cl429, Ar429, q429, Sz429, Nn429, Hh429, Gg429⟩ := id f428_13
  have hin429 : ¬ ((3 : Int32) < 0 ∨ cl429.slots.size ≤ ((3 : Int32)).toNatClampNeg) := inb_of Sz429 ⟨by decide, by decide⟩
  refine GoW.sg (mkF m 13 (Sh5 a1c 3 a2c 3 4 3 x3c) [(.int x4c)]) (fun t k => X428.caload hx (j := (3 : Int32)) (v := (.int x4c)) (hq_ e428 Ar429.1) (State.isArrayOf_alike hZ.alike Ar429.2.1) Ar429.2.2 hin429 (Hh429.at hin429 rfl) (g := (mkF m 12 (Sh5 a1c 3 a2c 3 4 3 x3c) [(.int 3), (.ref a1c)])) rfl rfl (hb hby d5_12) t k) ?_
  refine GoW.sg (mkF m 15 (Sh5 a1c 3 a2c 3 4 3 x4c) []) (fun t k => XS.istore X428.here hx rfl (hb hby d5_13) rfl (l' := (Sh5 a1c 3 a2c 3 4 3 x4c)) rfl k) ?_
  refine GoW.sg (mkF m 17 (Sh5 a1c 3 a2c 3 4 3 x4c) [(.int x4c)]) (fun t k => XS.iload X428.here hx rfl (hb hby d5_15) rfl k) ?_
  refine GoW.sg (mkF m 20 (Sh5 a1c 3 a2c 3 4 3 x4c) [(.int 255), (.int x4c)]) (fun t k => XS.sipush X428.here hx rfl (hb hby d5_17) k) ?_
  refine GoW.sg (mkF m 23 (Sh5 a1c 3 a2c 3 4 3 x4c) []) (fun t k => XS.icmpNo X428.here hx rfl (hb hby d5_20) rfl (tlt u3).2.2.2 k) ?_
  refine GoW.sg (mkF m 25 (Sh5 a1c 3 a2c 3 4 3 x4c) [(.int 3)]) (fun t k => XS.iload X428.here hx rfl (hb hby d5_23) rfl k) ?_
  refine GoW.retI X428 hx Bd.returns (hb hby d5_25) Bd.notSynchronized ?_ (by decide) (by decide)
  rw [e428]
  exact ⟨rfl, N428, f428_18, V428⟩
def Q18_25 (Z : State) (a1c : Addr) (ka1c : ClassId) (x1c : Int32) (x2c : Int32) (x3c : Int32) (x4c : Int32) (x5c : Int32) (x6c : Int32) (x7c : Int32) (x8c : Int32) (h0 : Heap) (n0 : Nat) (v : Option Value) (h : Heap) (L : List Loc) : Prop := v = some (.int (nar .char (((x7c &&& (255 : Int32)) <<< ((0 : Int32) &&& 31)) ||| ((x8c &&& (255 : Int32)) <<< ((8 : Int32) &&& 31))).toUInt32.toUInt16.toUInt32.toInt32)) ∧ Fr n0 L ∧ (h = h0)
theorem ef18_rm18_25 (m : MethodId) (a1c : Addr) : entryFrame m #[(.ref a1c), (.int (3 : Int32))] 2 = (mkF m 0 #[.val (.ref a1c), .val (.int 3)] []) := by first | (simp [entryFrame, mkF, argsToLocals, Value.category, maxLocals]; done) | rfl
set_option maxRecDepth 65536 in
set_option maxHeartbeats 40000000 in
theorem rm18_25 (l : Launch) (Z : State) (a0 : Array Value) (hw : ∀ d ∈ tables_1, d.before a0 Z = true) (ws : List Jvm.Cond) (a1c : Addr) (ka1c : ClassId) (x1c : Int32) (x2c : Int32) (x3c : Int32) (x4c : Int32) (x5c : Int32) (x6c : Int32) (x7c : Int32) (x8c : Int32) (h0 : Heap) (n0 : Nat) (P0 : Arv Z h0 a1c ka1c .byte (8 : Int32) [(.int x1c), (.int x2c), (.int x3c), (.int x4c), (.int x5c), (.int x6c), (.int x7c), (.int x8c)] (.int (0 : Int32))) (P1 : Sta Z h0 "java/lang/StringUTF16" "$assertionsDisabled" "Z" (.int (1 : Int32))) (P2 : Sta Z h0 "java/lang/StringUTF16" "HI_BYTE_SHIFT" "I" (.int (0 : Int32))) (P3 : Sta Z h0 "java/lang/StringUTF16" "LO_BYTE_SHIFT" "I" (.int (8 : Int32)))      :
    MetFree l Y18 (head1 (Jvm.Cond.code Y18 jdk_52_method_5_code 2 (some .char) :: ws) ({ frames := 0, cells := 0, slots := 0, locals := 0 } : Room)) (fun a U => a = #[(.ref a1c), (.int (3 : Int32))] ∧ Z.Warmed39 U.vm ∧ U.heap = h0) (fun _ _ _ _ _ => True) (fun _ U o U' => ∃ v L, o = .returned v ∧ (Q18_25 Z a1c ka1c x1c x2c x3c x4c x5c x6c x7c x8c h0 n0) v U'.heap L ∧ FrameEnd U o U' L 0 0) := by
  refine MetFree.of_bodySF (plainFor_of_name pn_java_lang_StringUTF16) hisR ?_
  intro p e s m args below meth c s₁ Bd hml0 hP hK
  obtain ⟨rfl, hZ, hh⟩ := hP
  have hx := Bd.exec
  have hby := Bd.bytes
  have hml : c.maxLocals = 2 := hml0
  have hown : s.vm.findClass "java/lang/StringUTF16" = some m.cls := findClass_of_methodNamed Bd.named
  have hnm := (name_of_methodNamed Bd.named Bd.method).1
  have X0 : Stand p l e ({ frames := 0, cells := 0, slots := 0, locals := 0 } : Room) s m #[(.ref a1c), (.int (3 : Int32))] below meth c s₁ [] 0 0 := Stand.of_body Bd
  have e0 : s₁.heap = h0 := by rw [← hh, Bd.state]; rfl
  have N0 := Fr.nil n0
  refine GoW.mk ?_
  refine GoW.st (fun t k => castTop (ef18_rm18_25 m a1c) k) ?_
  show GoW p e below s (Q18_25 Z a1c ka1c x1c x2c x3c x4c x5c x6c x7c x8c h0 n0) 0 0 (s₁.setTop (mkF m 0 #[.val (.ref a1c), .val (.int 3)] []))
  obtain ⟨T456, X456, e456, st456⟩ := getS (host := "") X0 hx hZ hown (ww hw 74 rfl) Via.refl e0 P1 (g := (mkF m 0 #[.val (.ref a1c), .val (.int 3)] [])) rfl (hb hby d18_0)
  refine GoW.sg (mkF m 3 #[.val (.ref a1c), .val (.int 3)] [(.int 1)]) (fun t k => st456 t k) ?_
  refine GoW.sg (mkF m 28 #[.val (.ref a1c), .val (.int 3)] []) (fun t k => XS.ifYes X456.here hx rfl (pc0 := 3) (pc' := 28) rfl (hb hby d18_3) rfl (by decide) (by decide) (by decide) k) ?_
  refine GoW.sg (mkF m 29 #[.val (.ref a1c), .val (.int 3)] [(.int 3)]) (fun t k => XS.iloadN X456.here hx rfl (hb hby d18_28) rfl k) ?_
  refine GoW.sg (mkF m 30 #[.val (.ref a1c), .val (.int 3)] [(.int 1), (.int 3)]) (fun t k => XS.iconst X456.here hx rfl (hb hby d18_29) k) ?_
  refine GoW.st (fun t k => XS.ishl X456.here hx rfl (hb hby d18_30) rfl k) ?_
  rw [show ((3 : Int32) <<< ((1 : Int32) &&& 31)) = (6 : Int32) from by decide]
  show GoW p e below s (Q18_25 Z a1c ka1c x1c x2c x3c x4c x5c x6c x7c x8c h0 n0) 0 0 (T456.setTop (mkF m 31 #[.val (.ref a1c), .val (.int 3)] [(.int 6)]))
  refine GoW.sg (mkF m 32 #[.val (.ref a1c), .val (.int 6)] []) (fun t k => XS.istoreN X456.here hx rfl (hb hby d18_31) rfl (l' := #[.val (.ref a1c), .val (.int 6)]) rfl k) ?_
  refine GoW.sg (mkF m 33 #[.val (.ref a1c), .val (.int 6)] [(.ref a1c)]) (fun t k => XS.aloadN X456.here hx rfl (hb hby d18_32) rfl rfl k) ?_
  refine GoW.sg (mkF m 34 #[.val (.ref a1c), .val (.int 6)] [(.int 6), (.ref a1c)]) (fun t k => XS.iloadN X456.here hx rfl (hb hby d18_33) rfl k) ?_
  refine GoW.sg (mkF m 37 #[.val (.ref a1c), .val (.int 7)] [(.int 6), (.ref a1c)]) (fun t k => XS.iinc X456.here hx rfl (hb hby d18_34) rfl (l' := #[.val (.ref a1c), .val (.int 7)]) rfl k) ?_
  obtain ⟨cl457, Ar457, q457, Sz457, Nn457, Hh457, Gg457⟩ := id P0
  have hin457 : ¬ ((6 : Int32) < 0 ∨ cl457.slots.size ≤ ((6 : Int32)).toNatClampNeg) := inb_of Sz457 ⟨by decide, by decide⟩
  refine GoW.sg (mkF m 38 #[.val (.ref a1c), .val (.int 7)] [(.int x7c)]) (fun t k => X456.baloadBytes hx (j := (6 : Int32)) (v := (.int x7c)) (hq_ e456 Ar457.1) (State.isArrayOf_alike hZ.alike Ar457.2.1) Ar457.2.2 hin457 (Hh457.at hin457 rfl) (g := (mkF m 37 #[.val (.ref a1c), .val (.int 7)] [(.int 6), (.ref a1c)])) rfl rfl (hb hby d18_37) t k) ?_
  refine GoW.sg (mkF m 41 #[.val (.ref a1c), .val (.int 7)] [(.int 255), (.int x7c)]) (fun t k => XS.sipush X456.here hx rfl (hb hby d18_38) k) ?_
  refine GoW.sg (mkF m 42 #[.val (.ref a1c), .val (.int 7)] [(.int (x7c &&& (255 : Int32)))]) (fun t k => XS.iand X456.here hx rfl (hb hby d18_41) rfl k) ?_
  obtain ⟨T458, X458, e458, st458⟩ := getS (host := "") X456 hx hZ hown (ww hw 75 rfl) Via.refl e456 P2 (g := (mkF m 42 #[.val (.ref a1c), .val (.int 7)] [(.int (x7c &&& (255 : Int32)))])) rfl (hb hby d18_42)
  refine GoW.sg (mkF m 45 #[.val (.ref a1c), .val (.int 7)] [(.int 0), (.int (x7c &&& (255 : Int32)))]) (fun t k => st458 t k) ?_
  refine GoW.sg (mkF m 46 #[.val (.ref a1c), .val (.int 7)] [(.int ((x7c &&& (255 : Int32)) <<< ((0 : Int32) &&& 31)))]) (fun t k => XS.ishl X458.here hx rfl (hb hby d18_45) rfl k) ?_
  refine GoW.sg (mkF m 47 #[.val (.ref a1c), .val (.int 7)] [(.ref a1c), (.int ((x7c &&& (255 : Int32)) <<< ((0 : Int32) &&& 31)))]) (fun t k => XS.aloadN X458.here hx rfl (hb hby d18_46) rfl rfl k) ?_
  refine GoW.sg (mkF m 48 #[.val (.ref a1c), .val (.int 7)] [(.int 7), (.ref a1c), (.int ((x7c &&& (255 : Int32)) <<< ((0 : Int32) &&& 31)))]) (fun t k => XS.iloadN X458.here hx rfl (hb hby d18_47) rfl k) ?_
  obtain ⟨cl459, Ar459, q459, Sz459, Nn459, Hh459, Gg459⟩ := id P0
  have hin459 : ¬ ((7 : Int32) < 0 ∨ cl459.slots.size ≤ ((7 : Int32)).toNatClampNeg) := inb_of Sz459 ⟨by decide, by decide⟩
  refine GoW.sg (mkF m 49 #[.val (.ref a1c), .val (.int 7)] [(.int x8c), (.int ((x7c &&& (255 : Int32)) <<< ((0 : Int32) &&& 31)))]) (fun t k => X458.baloadBytes hx (j := (7 : Int32)) (v := (.int x8c)) (hq_ e458 Ar459.1) (State.isArrayOf_alike hZ.alike Ar459.2.1) Ar459.2.2 hin459 (Hh459.at hin459 rfl) (g := (mkF m 48 #[.val (.ref a1c), .val (.int 7)] [(.int 7), (.ref a1c), (.int ((x7c &&& (255 : Int32)) <<< ((0 : Int32) &&& 31)))])) rfl rfl (hb hby d18_48) t k) ?_
  refine GoW.sg (mkF m 52 #[.val (.ref a1c), .val (.int 7)] [(.int 255), (.int x8c), (.int ((x7c &&& (255 : Int32)) <<< ((0 : Int32) &&& 31)))]) (fun t k => XS.sipush X458.here hx rfl (hb hby d18_49) k) ?_
  refine GoW.sg (mkF m 53 #[.val (.ref a1c), .val (.int 7)] [(.int (x8c &&& (255 : Int32))), (.int ((x7c &&& (255 : Int32)) <<< ((0 : Int32) &&& 31)))]) (fun t k => XS.iand X458.here hx rfl (hb hby d18_52) rfl k) ?_
  obtain ⟨T460, X460, e460, st460⟩ := getS (host := "") X458 hx hZ hown (ww hw 76 rfl) Via.refl e458 P3 (g := (mkF m 53 #[.val (.ref a1c), .val (.int 7)] [(.int (x8c &&& (255 : Int32))), (.int ((x7c &&& (255 : Int32)) <<< ((0 : Int32) &&& 31)))])) rfl (hb hby d18_53)
  refine GoW.sg (mkF m 56 #[.val (.ref a1c), .val (.int 7)] [(.int 8), (.int (x8c &&& (255 : Int32))), (.int ((x7c &&& (255 : Int32)) <<< ((0 : Int32) &&& 31)))]) (fun t k => st460 t k) ?_
  refine GoW.sg (mkF m 57 #[.val (.ref a1c), .val (.int 7)] [(.int ((x8c &&& (255 : Int32)) <<< ((8 : Int32) &&& 31))), (.int ((x7c &&& (255 : Int32)) <<< ((0 : Int32) &&& 31)))]) (fun t k => XS.ishl X460.here hx rfl (hb hby d18_56) rfl k) ?_
  refine GoW.sg (mkF m 58 #[.val (.ref a1c), .val (.int 7)] [(.int (((x7c &&& (255 : Int32)) <<< ((0 : Int32) &&& 31)) ||| ((x8c &&& (255 : Int32)) <<< ((8 : Int32) &&& 31))))]) (fun t k => XS.ior X460.here hx rfl (hb hby d18_57) rfl k) ?_
  refine GoW.sg (mkF m 59 #[.val (.ref a1c), .val (.int 7)] [(.int (((x7c &&& (255 : Int32)) <<< ((0 : Int32) &&& 31)) ||| ((x8c &&& (255 : Int32)) <<< ((8 : Int32) &&& 31))).toUInt32.toUInt16.toUInt32.toInt32)]) (fun t k => XS.i2c X460.here hx rfl (hb hby d18_58) rfl k) ?_
  refine GoW.retN X460 hx (t := .char) Bd.returns (by simp) (hb hby d18_59) Bd.notSynchronized ?_ (by decide) (by decide)
  rw [e460]
  exact ⟨rfl, N0, rfl⟩
def Q4_26 (Z : State) (a1c : Addr) (ka1c : ClassId) (x1c : Int32) (x2c : Int32) (x3c : Int32) (x4c : Int32) (x5c : Int32) (h0 : Heap) (n0 : Nat) (v : Option Value) (h : Heap) (L : List Loc) : Prop := ∃ e0 : Addr, ∃ ke0 : ClassId, v = some (.ref e0) ∧ Fr n0 L ∧ (Keep h0 h []) ∧ (Arv Z h e0 ke0 .byte (8 : Int32) [(.int (lo8 x1c)), (.int (hi8 x1c)), (.int (lo8 x2c)), (.int (hi8 x2c)), (.int (lo8 x3c)), (.int (hi8 x3c)), (.int (lo8 x4c)), (.int (hi8 x4c))] (.int (0 : Int32))) ∧ (h0.size ≤ e0)
theorem ef4_rm4_26 (m : MethodId) (a1c : Addr) : entryFrame m #[(.ref a1c), (.int (0 : Int32)), (.int (4 : Int32))] 6 = (mkF m 0 #[.val (.ref a1c), .val (.int 0), .val (.int 4), .unset, .unset, .unset] []) := by first | (simp [entryFrame, mkF, argsToLocals, Value.category, maxLocals]; done) | rfl
set_option maxRecDepth 65536 in
set_option maxHeartbeats 40000000 in
theorem rm4_26 (l : Launch) (Z : State) (a0 : Array Value) (hw : ∀ d ∈ tables_1, d.before a0 Z = true) (ws : List Jvm.Cond) (a1c : Addr) (ka1c : ClassId) (x1c : Int32) (x2c : Int32) (x3c : Int32) (x4c : Int32) (x5c : Int32) (h0 : Heap) (n0 : Nat) (Z0 : n0 ≤ h0.size) (P0 : Arv Z h0 a1c ka1c .char (4 : Int32) [(.int x1c), (.int x2c), (.int x3c), (.int x4c)] (.int (0 : Int32))) (P1 : Sta Z h0 "java/lang/String" "COMPACT_STRINGS" "Z" (.int x5c)) (P2 : Sta Z h0 "java/lang/StringUTF16" "$assertionsDisabled" "Z" (.int (1 : Int32))) (P3 : Sta Z h0 "java/lang/StringUTF16" "HI_BYTE_SHIFT" "I" (.int (0 : Int32))) (P4 : Sta Z h0 "java/lang/StringUTF16" "LO_BYTE_SHIFT" "I" (.int (8 : Int32)))   (u0 : ¬ (x4c < (0 : Int32))) (u1 : ¬ ((65535 : Int32) < x4c)) (u2 : ¬ ((255 : Int32) < x1c)) (u3 : ¬ ((255 : Int32) < x2c)) (u4 : ¬ ((255 : Int32) < x3c)) (u5 : (255 : Int32) < x4c)   :
    MetFree l Y4 (head1 (Jvm.Cond.code Y4 jdk_52_method_16_code 6 (some (.array .byte)) :: ws) ({ frames := 3, cells := 2, slots := 12, locals := 40 } : Room)) (fun a U => a = #[(.ref a1c), (.int (0 : Int32)), (.int (4 : Int32))] ∧ Z.Warmed39 U.vm ∧ U.heap = h0) (fun _ _ _ _ _ => True) (fun _ U o U' => ∃ v L, o = .returned v ∧ (Q4_26 Z a1c ka1c x1c x2c x3c x4c x5c h0 n0) v U'.heap L ∧ FrameEnd U o U' L 2 12) := by
  refine MetFree.of_bodySF (plainFor_of_name pn_java_lang_StringUTF16) hisR ?_
  intro p e s m args below meth c s₁ Bd hml0 hP hK
  obtain ⟨rfl, hZ, hh⟩ := hP
  have hx := Bd.exec
  have hby := Bd.bytes
  have hml : c.maxLocals = 6 := hml0
  have hown : s.vm.findClass "java/lang/StringUTF16" = some m.cls := findClass_of_methodNamed Bd.named
  have hnm := (name_of_methodNamed Bd.named Bd.method).1
  have X0 : Stand p l e ({ frames := 3, cells := 2, slots := 12, locals := 40 } : Room) s m #[(.ref a1c), (.int (0 : Int32)), (.int (4 : Int32))] below meth c s₁ [] 0 0 := Stand.of_body Bd
  have e0 : s₁.heap = h0 := by rw [← hh, Bd.state]; rfl
  have N0 := Fr.nil n0
  refine GoW.mk ?_
  refine GoW.st (fun t k => castTop (ef4_rm4_26 m a1c) k) ?_
  show GoW p e below s (Q4_26 Z a1c ka1c x1c x2c x3c x4c x5c h0 n0) 2 12 (s₁.setTop (mkF m 0 (Sh1 a1c 0 4) []))
  refine GoW.sg (mkF m 1 (Sh1 a1c 0 4) [(.int 4)]) (fun t k => XS.iloadN X0.here hx rfl (hb hby d4_0) rfl k) ?_
  obtain ⟨T462, h462, k462, X462, e462, E462, A462, st462⟩ := newP X0 hx hZ (ww hw 19 rfl) e0 (g := (mkF m 1 (Sh1 a1c 0 4) [(.int 4)])) rfl (hb hby d4_1) rfl (by decide) (cap := 4) (by decide) (by decide) (by decide) (by decide)
  obtain ⟨b462, g462⟩ : ∃ z, z = h0.size := ⟨_, rfl⟩
  rw [← g462] at A462 st462
  have g_b462 : n0 ≤ b462 := Nat.le_trans Z0 (Nat.le_of_eq g462.symm)
  have sz_b462 : h0.size ≤ b462 := Nat.le_trans (Keep.refl h0 []).1 (Nat.le_of_eq g462.symm)
  have ne_a1c_b462 : a1c ≠ b462 := Nat.ne_of_lt (Nat.lt_of_lt_of_eq P0.lt g462.symm)
  have f462_1 := P0.ext E462
  have f462_2 := P1.ext E462
  have f462_3 := P2.ext E462
  have f462_4 := P3.ext E462
  have f462_5 := P4.ext E462
  have f462_6 := (Keep.refl h0 []).ext E462
  have f462_7 := Nat.le_trans Z0 E462.1
  have V462 : Arv Z h462 b462 k462 .byte (4 : Int32) [(.int (0 : Int32)), (.int (0 : Int32)), (.int (0 : Int32)), (.int (0 : Int32))] (.int (0 : Int32)) := (Arv.new A462 (by decide)).pad (pad_rep [] (.int (0 : Int32)) 4)
  refine GoW.sg (mkF m 3 (Sh1 a1c 0 4) [(.ref b462)]) (fun t k => st462 t k) ?_
  refine GoW.sg (mkF m 4 (Sh2 a1c 0 4 b462) []) (fun t k => XS.astoreN X462.here hx rfl (hb hby d4_3) rfl rfl (l' := (Sh2 a1c 0 4 b462)) rfl k) ?_
  refine GoW.sg (mkF m 5 (Sh2 a1c 0 4 b462) [(.ref a1c)]) (fun t k => XS.aloadN X462.here hx rfl (hb hby d4_4) rfl rfl k) ?_
  refine GoW.sg (mkF m 6 (Sh2 a1c 0 4 b462) [(.int 0), (.ref a1c)]) (fun t k => XS.iloadN X462.here hx rfl (hb hby d4_5) rfl k) ?_
  refine GoW.sg (mkF m 7 (Sh2 a1c 0 4 b462) [(.ref b462), (.int 0), (.ref a1c)]) (fun t k => XS.aloadN X462.here hx rfl (hb hby d4_6) rfl rfl k) ?_
  refine GoW.sg (mkF m 8 (Sh2 a1c 0 4 b462) [(.int 0), (.ref b462), (.int 0), (.ref a1c)]) (fun t k => XS.iconst X462.here hx rfl (hb hby d4_7) k) ?_
  refine GoW.sg (mkF m 9 (Sh2 a1c 0 4 b462) [(.int 4), (.int 0), (.ref b462), (.int 0), (.ref a1c)]) (fun t k => XS.iloadN X462.here hx rfl (hb hby d4_8) rfl k) ?_
  obtain ⟨_, T470, L470, X470, hQ470, st470⟩ := own_callS X462 hx hZ hown (y := Y5) (ww hw 20 rfl) (ww hw 21 rfl) (ww hw 17 rfl) (ww hw 22 rfl) (by decide) 0 (rm5_24 l Z a0 hw [] a1c b462 k462 ka1c x1c x2c x3c x4c x5c h462 n0  V462 f462_1 f462_2 f462_3 f462_4 f462_5 g_b462 ne_a1c_b462 u2 u3 u4 u5 ) (by decide) (by decide) e462 (by decide) (by decide) (g := (mkF m 9 (Sh2 a1c 0 4 b462) [(.int 4), (.int 0), (.ref b462), (.int 0), (.ref a1c)])) rfl (by rw [hml]; rfl) (argsL := [(.ref a1c), (.int (0 : Int32)), (.ref b462), (.int (0 : Int32)), (.int (4 : Int32))]) (rest := []) (lenOf pd_285bCI5bBII29I rfl) rfl (by show 2 * 0 + _ ≤ _; exact Nat.le_of_eq rfl) (hb hby d4_9)
  obtain ⟨rfl, N470q, K470, p470_0⟩ := hQ470
  have N470 := Fr.app N0 N470q
  have f470_8 := f462_1.keep K470 (ninS ne_a1c_b462 nin0)
  have f470_9 := own_staK f462_2 K470 (allS (own_nsA V462) all0)
  have f470_10 := own_staK f462_3 K470 (allS (own_nsA V462) all0)
  have f470_11 := own_staK f462_4 K470 (allS (own_nsA V462) all0)
  have f470_12 := own_staK f462_5 K470 (allS (own_nsA V462) all0)
  have f470_13 := f462_6.trans K470 (allS (Or.inr sz_b462) all0)
  have f470_14 := Nat.le_trans f462_7 K470.1
  refine GoW.sg (mkF m 12 (Sh2 a1c 0 4 b462) [(.int 3)]) (fun t k => st470 t k) ?_
  refine GoW.sg (mkF m 14 (Sh6 a1c 0 4 b462 3) []) (fun t k => XS.istore X470.here hx rfl (hb hby d4_12) rfl (l' := (Sh6 a1c 0 4 b462 3)) rfl k) ?_
  refine GoW.sg (mkF m 16 (Sh6 a1c 0 4 b462 3) [(.int 3)]) (fun t k => XS.iload X470.here hx rfl (hb hby d4_14) rfl k) ?_
  refine GoW.sg (mkF m 17 (Sh6 a1c 0 4 b462 3) [(.int 4), (.int 3)]) (fun t k => XS.iloadN X470.here hx rfl (hb hby d4_16) rfl k) ?_
  refine GoW.sg (mkF m 20 (Sh6 a1c 0 4 b462 3) []) (fun t k => XS.icmpNo X470.here hx rfl (hb hby d4_17) rfl (by decide) k) ?_
  refine GoW.sg (mkF m 21 (Sh6 a1c 0 4 b462 3) [(.ref a1c)]) (fun t k => XS.aloadN X470.here hx rfl (hb hby d4_20) rfl rfl k) ?_
  refine GoW.sg (mkF m 22 (Sh6 a1c 0 4 b462 3) [(.int 0), (.ref a1c)]) (fun t k => XS.iloadN X470.here hx rfl (hb hby d4_21) rfl k) ?_
  refine GoW.sg (mkF m 23 (Sh6 a1c 0 4 b462 3) [(.int 4), (.int 0), (.ref a1c)]) (fun t k => XS.iloadN X470.here hx rfl (hb hby d4_22) rfl k) ?_
  obtain ⟨_, T490, L490, X490, hQ490, st490⟩ := own_callS X470 hx hZ hown (y := Y14) (ww hw 61 rfl) (ww hw 62 rfl) (ww hw 17 rfl) (ww hw 63 rfl) (by decide) 0 (rm14_8 l Z a0 hw [] a1c ka1c x1c x2c x3c x4c x5c T470.heap n0 f470_14 f470_8 f470_9 f470_10 f470_11 f470_12    ) (by decide) (by decide) rfl (by decide) (by decide) (g := (mkF m 23 (Sh6 a1c 0 4 b462 3) [(.int 4), (.int 0), (.ref a1c)])) rfl (by rw [hml]; rfl) (argsL := [(.ref a1c), (.int (0 : Int32)), (.int (4 : Int32))]) (rest := []) (lenOf pd_285bCII295bB rfl) rfl (by show 2 * 0 + _ ≤ _; exact Nat.le_of_eq rfl) (hb hby d4_23)
  obtain ⟨b490_e0, k490_ke0, rfl, N490q, K490, p490_0, hz_b490_e0⟩ := hQ490
  have g_b490_e0 : n0 ≤ b490_e0 := Nat.le_trans f470_14 hz_b490_e0
  have sz_b490_e0 : h0.size ≤ b490_e0 := Nat.le_trans f470_13.1 hz_b490_e0
  have ne_a1c_b490_e0 : a1c ≠ b490_e0 := Nat.ne_of_lt (Nat.lt_of_lt_of_le f470_8.lt hz_b490_e0)
  have ne_b462_b490_e0 : b462 ≠ b490_e0 := Nat.ne_of_lt (Nat.lt_of_lt_of_le p470_0.lt hz_b490_e0)
  have N490 := Fr.app N470 N490q
  have f490_15 := f470_8.keep K490 nin0
  have f490_16 := own_staK0 f470_9 K490
  have f490_17 := own_staK0 f470_10 K490
  have f490_18 := own_staK0 f470_11 K490
  have f490_19 := own_staK0 f470_12 K490
  have f490_20 := f470_13.trans K490 all0
  have f490_21 := Nat.le_trans f470_14 K490.1
  have f490_22 := p470_0.keep K490 nin0
  refine GoW.sg (mkF m 26 (Sh6 a1c 0 4 b462 3) [(.ref b490_e0)]) (fun t k => st490 t k) ?_
  refine GoW.sg (mkF m 28 (Sh11 a1c 0 4 b462 3 b490_e0) []) (fun t k => XS.astore X490.here hx rfl (hb hby d4_26) rfl rfl (l' := (Sh11 a1c 0 4 b462 3 b490_e0)) rfl k) ?_
  refine GoW.sg (mkF m 30 (Sh11 a1c 0 4 b462 3 b490_e0) [(.ref b490_e0)]) (fun t k => XS.aload X490.here hx rfl (hb hby d4_28) rfl rfl k) ?_
  refine GoW.sg (mkF m 32 (Sh11 a1c 0 4 b462 3 b490_e0) [(.int 3), (.ref b490_e0)]) (fun t k => XS.iload X490.here hx rfl (hb hby d4_30) rfl k) ?_
  obtain ⟨_, T496, L496, X496, hQ496, st496⟩ := own_callS X490 hx hZ hown (y := Y18) (ww hw 77 rfl) (ww hw 78 rfl) (ww hw 17 rfl) (ww hw 79 rfl) (by decide) 0 (rm18_25 l Z a0 hw [] b490_e0 k490_ke0 (lo8 x1c) (hi8 x1c) (lo8 x2c) (hi8 x2c) (lo8 x3c) (hi8 x3c) (lo8 x4c) (hi8 x4c) T490.heap n0  p490_0 f490_17 f490_18 f490_19    ) (by decide) (by decide) rfl (by decide) (by decide) (g := (mkF m 32 (Sh11 a1c 0 4 b462 3 b490_e0) [(.int 3), (.ref b490_e0)])) rfl (by rw [hml]; rfl) (argsL := [(.ref b490_e0), (.int (3 : Int32))]) (rest := []) (lenOf pd_285bBI29C rfl) rfl (by show 2 * 0 + _ ≤ _; exact Nat.le_of_eq rfl) (hb hby d4_32)
  obtain ⟨rfl, N496q, e496⟩ := hQ496
  have N496 := Fr.app N490 N496q
  refine GoW.sg (mkF m 35 (Sh11 a1c 0 4 b462 3 b490_e0) [(.int (nar .char ((((lo8 x4c) &&& (255 : Int32)) <<< ((0 : Int32) &&& 31)) ||| (((hi8 x4c) &&& (255 : Int32)) <<< ((8 : Int32) &&& 31))).toUInt32.toUInt16.toUInt32.toInt32))]) (fun t k => st496 t k) ?_
  rw [show (nar .char ((((lo8 x4c) &&& (255 : Int32)) <<< ((0 : Int32) &&& 31)) ||| (((hi8 x4c) &&& (255 : Int32)) <<< ((8 : Int32) &&& 31))).toUInt32.toUInt16.toUInt32.toInt32) = x4c from (own_join _ u0 u1)]
  refine GoW.sg (mkF m 38 (Sh11 a1c 0 4 b462 3 b490_e0) [(.int 255), (.int x4c)]) (fun t k => XS.sipush X496.here hx rfl (hb hby d4_35) k) ?_
  refine GoW.sg (mkF m 54 (Sh11 a1c 0 4 b462 3 b490_e0) []) (fun t k => XS.icmpYes X496.here hx rfl (pc0 := 38) (pc' := 54) rfl (hb hby d4_38) rfl (tlt u5).2.2.1 (by decide) (by decide) k) ?_
  refine GoW.sg (mkF m 56 (Sh11 a1c 0 4 b462 3 b490_e0) [(.ref b490_e0)]) (fun t k => XS.aload X496.here hx rfl (hb hby d4_54) rfl rfl k) ?_
  refine GoW.retA X496 hx Bd.returns rfl rfl rfl (hb hby d4_56) Bd.notSynchronized ?_ (by decide) (by decide)
  rw [e496]
  exact ⟨b490_e0, k490_ke0, rfl, N496, f490_20, p490_0, sz_b490_e0⟩
def Q2_27 (Z : State) (a1c : Addr) (a2c : Addr) (ka2c : ClassId) (x1c : Int32) (x2c : Int32) (x3c : Int32) (x4c : Int32) (x5c : Int32) (h0 : Heap) (n0 : Nat) (v : Option Value) (h : Heap) (L : List Loc) : Prop := ∃ e0 : Addr, ∃ ke0 : ClassId, v = none ∧ Fr n0 L ∧ (Keep h0 h [a1c]) ∧ (Exa Z h a1c "java/lang/String") ∧ (Fld Z h a1c "java/lang/String" "coder" "B" (.int (1 : Int32))) ∧ (Fld Z h a1c "java/lang/String" "value" "[B" (.ref e0)) ∧ (Arv Z h e0 ke0 .byte (8 : Int32) [(.int (lo8 x1c)), (.int (hi8 x1c)), (.int (lo8 x2c)), (.int (hi8 x2c)), (.int (lo8 x3c)), (.int (hi8 x3c)), (.int (lo8 x4c)), (.int (hi8 x4c))] (.int (0 : Int32))) ∧ (h0.size ≤ e0)
theorem ef2_rm2_27 (m : MethodId) (a1c : Addr) (a2c : Addr) : entryFrame m #[(.ref a1c), (.ref a2c), (.int (0 : Int32)), (.int (4 : Int32)), .null] 6 = (mkF m 0 #[.val (.ref a1c), .val (.ref a2c), .val (.int 0), .val (.int 4), .val .null, .unset] []) := by first | (simp [entryFrame, mkF, argsToLocals, Value.category, maxLocals]; done) | rfl
set_option maxRecDepth 65536 in
set_option maxHeartbeats 40000000 in
theorem rm2_27 (l : Launch) (Z : State) (a0 : Array Value) (hw : ∀ d ∈ tables_1, d.before a0 Z = true) (ws : List Jvm.Cond) (a1c : Addr) (a2c : Addr) (ka2c : ClassId) (x1c : Int32) (x2c : Int32) (x3c : Int32) (x4c : Int32) (x5c : Int32) (h0 : Heap) (n0 : Nat) (Z0 : n0 ≤ h0.size) (P0 : Exa Z h0 a1c "java/lang/String") (P1 : Fld Z h0 a1c "java/lang/String" "coder" "B" (.int (0 : Int32))) (P2 : Fld Z h0 a1c "java/lang/String" "value" "[B" .null) (P3 : Arv Z h0 a2c ka2c .char (4 : Int32) [(.int x1c), (.int x2c), (.int x3c), (.int x4c)] (.int (0 : Int32))) (P4 : Sta Z h0 "java/lang/String" "COMPACT_STRINGS" "Z" (.int x5c)) (P5 : Sta Z h0 "java/lang/StringUTF16" "$assertionsDisabled" "Z" (.int (1 : Int32))) (P6 : Sta Z h0 "java/lang/StringUTF16" "HI_BYTE_SHIFT" "I" (.int (0 : Int32))) (P7 : Sta Z h0 "java/lang/StringUTF16" "LO_BYTE_SHIFT" "I" (.int (8 : Int32))) (g_a1c : n0 ≤ a1c) (ne_a1c_a2c : a1c ≠ a2c) (u0 : ¬ (x4c < (0 : Int32))) (u1 : ¬ ((65535 : Int32) < x4c)) (u2 : ¬ (x5c = (0 : Int32))) (u3 : ¬ ((255 : Int32) < x1c)) (u4 : ¬ ((255 : Int32) < x2c)) (u5 : ¬ ((255 : Int32) < x3c)) (u6 : (255 : Int32) < x4c)   :
    MetFree l Y2 (head1 (Jvm.Cond.code Y2 jdk_42_method_149_code 6 none :: ws) ({ frames := 4, cells := 2, slots := 12, locals := 57 } : Room)) (fun a U => a = #[(.ref a1c), (.ref a2c), (.int (0 : Int32)), (.int (4 : Int32)), .null] ∧ Z.Warmed39 U.vm ∧ U.heap = h0) (fun _ _ _ _ _ => True) (fun _ U o U' => ∃ v L, o = .returned v ∧ (Q2_27 Z a1c a2c ka2c x1c x2c x3c x4c x5c h0 n0) v U'.heap L ∧ FrameEnd U o U' L 2 12) := by
  refine MetFree.of_bodySF (plainFor_of_name pn_java_lang_String) hisR ?_
  intro p e s m args below meth c s₁ Bd hml0 hP hK
  obtain ⟨rfl, hZ, hh⟩ := hP
  have hx := Bd.exec
  have hby := Bd.bytes
  have hml : c.maxLocals = 6 := hml0
  have hown : s.vm.findClass "java/lang/String" = some m.cls := findClass_of_methodNamed Bd.named
  have hnm := (name_of_methodNamed Bd.named Bd.method).1
  have X0 : Stand p l e ({ frames := 4, cells := 2, slots := 12, locals := 57 } : Room) s m #[(.ref a1c), (.ref a2c), (.int (0 : Int32)), (.int (4 : Int32)), .null] below meth c s₁ [] 0 0 := Stand.of_body Bd
  have e0 : s₁.heap = h0 := by rw [← hh, Bd.state]; rfl
  have N0 := Fr.nil n0
  refine GoW.mk ?_
  refine GoW.st (fun t k => castTop (ef2_rm2_27 m a1c a2c) k) ?_
  show GoW p e below s (Q2_27 Z a1c a2c ka2c x1c x2c x3c x4c x5c h0 n0) 2 12 (s₁.setTop (mkF m 0 (Sh0 a1c a2c 0 4) []))
  refine GoW.sg (mkF m 1 (Sh0 a1c a2c 0 4) [(.ref a1c)]) (fun t k => XS.aloadN X0.here hx rfl (hb hby d2_0) rfl rfl k) ?_
  obtain ⟨T501, X501, e501, st501⟩ := initO X0 hx hZ hown (ww hw 11 rfl) (ww hw 12 rfl) (ww hw 13 rfl) e0 (g := (mkF m 1 (Sh0 a1c a2c 0 4) [(.ref a1c)])) rfl (by rw [hml]; rfl) rfl (hb hby d2_1) (by decide) (W := 0) (by show 2 * 0 + _ ≤ _; exact Nat.le_of_eq rfl) (by decide)
  refine GoW.sg (mkF m 4 (Sh0 a1c a2c 0 4) []) (fun t k => st501 t k) ?_
  refine GoW.sg (mkF m 5 (Sh0 a1c a2c 0 4) [(.int 4)]) (fun t k => XS.iloadN X501.here hx rfl (hb hby d2_4) rfl k) ?_
  refine GoW.sg (mkF m 27 (Sh0 a1c a2c 0 4) []) (fun t k => XS.ifYes X501.here hx rfl (pc0 := 5) (pc' := 27) rfl (hb hby d2_5) rfl (by decide) (by decide) (by decide) k) ?_
  obtain ⟨T502, X502, e502, st502⟩ := getS (host := "") X501 hx hZ hown (ww hw 14 rfl) Via.refl e501 P4 (g := (mkF m 27 (Sh0 a1c a2c 0 4) [])) rfl (hb hby d2_27)
  refine GoW.sg (mkF m 30 (Sh0 a1c a2c 0 4) [(.int x5c)]) (fun t k => st502 t k) ?_
  refine GoW.sg (mkF m 33 (Sh0 a1c a2c 0 4) []) (fun t k => XS.ifNo X502.here hx rfl (hb hby d2_30) rfl ((if0 _ _).trans (feq u2).1) k) ?_
  refine GoW.sg (mkF m 34 (Sh0 a1c a2c 0 4) [(.ref a2c)]) (fun t k => XS.aloadN X502.here hx rfl (hb hby d2_33) rfl rfl k) ?_
  refine GoW.sg (mkF m 35 (Sh0 a1c a2c 0 4) [(.int 0), (.ref a2c)]) (fun t k => XS.iloadN X502.here hx rfl (hb hby d2_34) rfl k) ?_
  refine GoW.sg (mkF m 36 (Sh0 a1c a2c 0 4) [(.int 4), (.int 0), (.ref a2c)]) (fun t k => XS.iloadN X502.here hx rfl (hb hby d2_35) rfl k) ?_
  obtain ⟨_, T528, L528, X528, hQ528, st528⟩ := own_callS X502 hx hZ hown (y := Y4) (ww hw 15 rfl) (ww hw 16 rfl) (ww hw 17 rfl) (ww hw 18 rfl) (by decide) 0 (rm4_26 l Z a0 hw [] a2c ka2c x1c x2c x3c x4c x5c h0 n0 Z0 P3 P4 P5 P6 P7   u0 u1 u3 u4 u5 u6 ) (by decide) (by decide) e502 (by decide) (by decide) (g := (mkF m 36 (Sh0 a1c a2c 0 4) [(.int 4), (.int 0), (.ref a2c)])) rfl (by rw [hml]; rfl) (argsL := [(.ref a2c), (.int (0 : Int32)), (.int (4 : Int32))]) (rest := []) (lenOf pd_285bCII295bB rfl) rfl (by show 2 * 0 + _ ≤ _; exact Nat.le_of_eq rfl) (hb hby d2_36)
  obtain ⟨b528_e0, k528_ke0, rfl, N528q, K528, p528_0, hz_b528_e0⟩ := hQ528
  have g_b528_e0 : n0 ≤ b528_e0 := Nat.le_trans Z0 hz_b528_e0
  have sz_b528_e0 : h0.size ≤ b528_e0 := Nat.le_trans (Keep.refl h0 [a1c]).1 hz_b528_e0
  have ne_a1c_b528_e0 : a1c ≠ b528_e0 := Nat.ne_of_lt (Nat.lt_of_lt_of_le P0.lt hz_b528_e0)
  have ne_a2c_b528_e0 : a2c ≠ b528_e0 := Nat.ne_of_lt (Nat.lt_of_lt_of_le P3.lt hz_b528_e0)
  have N528 := Fr.app N0 N528q
  have f528_1 := P0.keep K528
  have f528_2 := P1.keep K528 nin0
  have f528_3 := P2.keep K528 nin0
  have f528_4 := P3.keep K528 nin0
  have f528_5 := own_staK0 P4 K528
  have f528_6 := own_staK0 P5 K528
  have f528_7 := own_staK0 P6 K528
  have f528_8 := own_staK0 P7 K528
  have f528_9 := (Keep.refl h0 [a1c]).trans K528 all0
  have f528_10 := Nat.le_trans Z0 K528.1
  refine GoW.sg (mkF m 39 (Sh0 a1c a2c 0 4) [(.ref b528_e0)]) (fun t k => st528 t k) ?_
  refine GoW.sg (mkF m 41 (Sh12 a1c a2c 0 4 b528_e0) []) (fun t k => XS.astore X528.here hx rfl (hb hby d2_39) rfl rfl (l' := (Sh12 a1c a2c 0 4 b528_e0)) rfl k) ?_
  refine GoW.sg (mkF m 42 (Sh12 a1c a2c 0 4 b528_e0) [(.ref a1c)]) (fun t k => XS.aloadN X528.here hx rfl (hb hby d2_41) rfl rfl k) ?_
  refine GoW.sg (mkF m 44 (Sh12 a1c a2c 0 4 b528_e0) [(.ref b528_e0), (.ref a1c)]) (fun t k => XS.aload X528.here hx rfl (hb hby d2_42) rfl rfl k) ?_
  refine GoW.sg (mkF m 45 (Sh12 a1c a2c 0 4 b528_e0) [(.int 4), (.ref b528_e0), (.ref a1c)]) (fun t k => XS.iloadN X528.here hx rfl (hb hby d2_44) rfl k) ?_
  obtain ⟨_, T529, L529, X529, hQ529, st529⟩ := own_callS X528 hx hZ hown (y := Y6) (ww hw 23 rfl) (ww hw 24 rfl) (ww hw 17 rfl) (ww hw 25 rfl) (by decide) 1 (rm6_11 l Z a0 hw [] b528_e0 k528_ke0 (lo8 x1c) (hi8 x1c) (lo8 x2c) (hi8 x2c) (lo8 x3c) (hi8 x3c) (lo8 x4c) (hi8 x4c) T528.heap n0  p528_0    ) (by decide) (by decide) rfl (by decide) (by decide) (g := (mkF m 45 (Sh12 a1c a2c 0 4 b528_e0) [(.int 4), (.ref b528_e0), (.ref a1c)])) rfl (by rw [hml]; rfl) (argsL := [(.ref b528_e0), (.int (4 : Int32))]) (rest := [(.ref a1c)]) (lenOf pd_285bBI29B rfl) rfl (by show 2 * 0 + _ ≤ _; exact Nat.le_of_eq rfl) (hb hby d2_45)
  obtain ⟨rfl, N529q, e529⟩ := hQ529
  have N529 := Fr.app N528 N529q
  refine GoW.sg (mkF m 48 (Sh12 a1c a2c 0 4 b528_e0) [(.int 1), (.ref a1c)]) (fun t k => st529 t k) ?_
  obtain ⟨T530, h530, X530, e530, W530, st530⟩ := putF X529 hx hZ hown (host := "") (Or.inl (ww hw 26 rfl)) Via.refl e529 f528_2 f528_1 (Or.inr ⟨(ww hw 27 rfl), rfl, hnm⟩) (ww hw 2 rfl) (ty := .byte) (by decide) rfl rfl (g := (mkF m 48 (Sh12 a1c a2c 0 4 b528_e0) [(.int 1), (.ref a1c)])) rfl rfl (hb hby d2_48)
  have N530 := Fr.snoc X530 N529 g_a1c
  have f530_11 := f528_1.wr W530
  have f530_12 := f528_3.other W530 (Or.inr (slot_ne (t := (.array .byte)) (t' := .byte) (Or.inr (ww hw 29 rfl)) (Or.inr (ww hw 27 rfl)) (by decide) (by decide) (by decide)))
  have f530_13 := f528_4.other W530 (Ne.symm ne_a1c_a2c)
  have f530_14 := f528_5.wr W530
  have f530_15 := f528_6.wr W530
  have f530_16 := f528_7.wr W530
  have f530_17 := f528_8.wr W530
  have f530_18 := f528_9.wr W530 (Or.inl (List.mem_of_getElem? (i := 0) rfl))
  have f530_19 := Nat.le_trans f528_10 (Nat.le_of_eq W530.size.symm)
  have f530_20 := p528_0.other W530 (Ne.symm ne_a1c_b528_e0)
  have F530coder : Fld Z h530 a1c "java/lang/String" "coder" "B" (.int (1 : Int32)) := f528_2.same W530
  refine GoW.sg (mkF m 51 (Sh12 a1c a2c 0 4 b528_e0) []) (fun t k => st530 t k) ?_
  refine GoW.sg (mkF m 52 (Sh12 a1c a2c 0 4 b528_e0) [(.ref a1c)]) (fun t k => XS.aloadN X530.here hx rfl (hb hby d2_51) rfl rfl k) ?_
  refine GoW.sg (mkF m 54 (Sh12 a1c a2c 0 4 b528_e0) [(.ref b528_e0), (.ref a1c)]) (fun t k => XS.aload X530.here hx rfl (hb hby d2_52) rfl rfl k) ?_
  obtain ⟨T531, h531, X531, e531, W531, st531⟩ := putF X530 hx hZ hown (host := "") (Or.inl (ww hw 28 rfl)) Via.refl e530 f530_12 f530_11 (Or.inr ⟨(ww hw 29 rfl), rfl, hnm⟩) (ww hw 2 rfl) (ty := (.array .byte)) (by decide) rfl rfl (g := (mkF m 54 (Sh12 a1c a2c 0 4 b528_e0) [(.ref b528_e0), (.ref a1c)])) rfl rfl (hb hby d2_54)
  have N531 := Fr.snoc X531 N530 g_a1c
  have f531_21 := f530_11.wr W531
  have f531_22 := F530coder.other W531 (Or.inr (slot_ne (t := .byte) (t' := (.array .byte)) (Or.inr (ww hw 27 rfl)) (Or.inr (ww hw 29 rfl)) (by decide) (by decide) (by decide)))
  have f531_23 := f530_13.other W531 (Ne.symm ne_a1c_a2c)
  have f531_24 := f530_14.wr W531
  have f531_25 := f530_15.wr W531
  have f531_26 := f530_16.wr W531
  have f531_27 := f530_17.wr W531
  have f531_28 := f530_18.wr W531 (Or.inl (List.mem_of_getElem? (i := 0) rfl))
  have f531_29 := Nat.le_trans f530_19 (Nat.le_of_eq W531.size.symm)
  have f531_30 := f530_20.other W531 (Ne.symm ne_a1c_b528_e0)
  have F531value : Fld Z h531 a1c "java/lang/String" "value" "[B" (.ref b528_e0) := f530_12.same W531
  refine GoW.sg (mkF m 57 (Sh12 a1c a2c 0 4 b528_e0) []) (fun t k => st531 t k) ?_
  refine GoW.retV X531 hx Bd.returns (hb hby d2_57) Bd.notSynchronized ?_ (by decide) (by decide)
  rw [e531]
  exact ⟨b528_e0, k528_ke0, rfl, N531, f531_28, f531_21, f531_22, F531value, f531_30, sz_b528_e0⟩
def Q5_29 (Z : State) (a1c : Addr) (a2c : Addr) (ka2c : ClassId) (ka1c : ClassId) (x1c : Int32) (x2c : Int32) (x3c : Int32) (x4c : Int32) (x5c : Int32) (h0 : Heap) (n0 : Nat) (v : Option Value) (h : Heap) (L : List Loc) : Prop := v = some (.int (4 : Int32)) ∧ Fr n0 L ∧ (Keep h0 h [a2c]) ∧ (Arv Z h a2c ka2c .byte (4 : Int32) [(.int (lat8 x1c)), (.int (lat8 x2c)), (.int (lat8 x3c)), (.int (lat8 x4c))] (.int (0 : Int32)))
theorem ef5_rm5_29 (m : MethodId) (a1c : Addr) (a2c : Addr) : entryFrame m #[(.ref a1c), (.int (0 : Int32)), (.ref a2c), (.int (0 : Int32)), (.int (4 : Int32))] 7 = (mkF m 0 #[.val (.ref a1c), .val (.int 0), .val (.ref a2c), .val (.int 0), .val (.int 4), .unset, .unset] []) := by first | (simp [entryFrame, mkF, argsToLocals, Value.category, maxLocals]; done) | rfl
set_option maxRecDepth 65536 in
set_option maxHeartbeats 40000000 in
theorem rm5_29 (l : Launch) (Z : State) (a0 : Array Value) (hw : ∀ d ∈ tables_1, d.before a0 Z = true) (ws : List Jvm.Cond) (a1c : Addr) (a2c : Addr) (ka2c : ClassId) (ka1c : ClassId) (x1c : Int32) (x2c : Int32) (x3c : Int32) (x4c : Int32) (x5c : Int32) (h0 : Heap) (n0 : Nat) (P0 : Arv Z h0 a2c ka2c .byte (4 : Int32) [(.int (0 : Int32)), (.int (0 : Int32)), (.int (0 : Int32)), (.int (0 : Int32))] (.int (0 : Int32))) (P1 : Arv Z h0 a1c ka1c .char (4 : Int32) [(.int x1c), (.int x2c), (.int x3c), (.int x4c)] (.int (0 : Int32))) (P2 : Sta Z h0 "java/lang/String" "COMPACT_STRINGS" "Z" (.int x5c)) (P3 : Sta Z h0 "java/lang/StringUTF16" "$assertionsDisabled" "Z" (.int (1 : Int32))) (P4 : Sta Z h0 "java/lang/StringUTF16" "HI_BYTE_SHIFT" "I" (.int (0 : Int32))) (P5 : Sta Z h0 "java/lang/StringUTF16" "LO_BYTE_SHIFT" "I" (.int (8 : Int32))) (g_a2c : n0 ≤ a2c) (ne_a1c_a2c : a1c ≠ a2c) (u0 : ¬ ((255 : Int32) < x1c)) (u1 : ¬ ((255 : Int32) < x2c)) (u2 : ¬ ((255 : Int32) < x3c)) (u3 : ¬ ((255 : Int32) < x4c))   :
    MetFree l Y5 (head1 (Jvm.Cond.code Y5 jdk_52_method_21_code 7 (some .int) :: ws) ({ frames := 0, cells := 0, slots := 0, locals := 0 } : Room)) (fun a U => a = #[(.ref a1c), (.int (0 : Int32)), (.ref a2c), (.int (0 : Int32)), (.int (4 : Int32))] ∧ Z.Warmed39 U.vm ∧ U.heap = h0) (fun _ _ _ _ _ => True) (fun _ U o U' => ∃ v L, o = .returned v ∧ (Q5_29 Z a1c a2c ka2c ka1c x1c x2c x3c x4c x5c h0 n0) v U'.heap L ∧ FrameEnd U o U' L 0 0) := by
  refine MetFree.of_bodySF (plainFor_of_name pn_java_lang_StringUTF16) hisR ?_
  intro p e s m args below meth c s₁ Bd hml0 hP hK
  obtain ⟨rfl, hZ, hh⟩ := hP
  have hx := Bd.exec
  have hby := Bd.bytes
  have hml : c.maxLocals = 7 := hml0
  have hown : s.vm.findClass "java/lang/StringUTF16" = some m.cls := findClass_of_methodNamed Bd.named
  have hnm := (name_of_methodNamed Bd.named Bd.method).1
  have X0 : Stand p l e ({ frames := 0, cells := 0, slots := 0, locals := 0 } : Room) s m #[(.ref a1c), (.int (0 : Int32)), (.ref a2c), (.int (0 : Int32)), (.int (4 : Int32))] below meth c s₁ [] 0 0 := Stand.of_body Bd
  have e0 : s₁.heap = h0 := by rw [← hh, Bd.state]; rfl
  have N0 := Fr.nil n0
  refine GoW.mk ?_
  refine GoW.st (fun t k => castTop (ef5_rm5_29 m a1c a2c) k) ?_
  show GoW p e below s (Q5_29 Z a1c a2c ka2c ka1c x1c x2c x3c x4c x5c h0 n0) 0 0 (s₁.setTop (mkF m 0 (Sh3 a1c 0 a2c 0 4) []))
  refine GoW.sg (mkF m 1 (Sh3 a1c 0 a2c 0 4) [(.int 0)]) (fun t k => XS.iconst X0.here hx rfl (hb hby d5_0) k) ?_
  refine GoW.sg (mkF m 3 (Sh4 a1c 0 a2c 0 4 0) []) (fun t k => XS.istore X0.here hx rfl (hb hby d5_1) rfl (l' := (Sh4 a1c 0 a2c 0 4 0)) rfl k) ?_
  refine GoW.sg (mkF m 5 (Sh4 a1c 0 a2c 0 4 0) [(.int 0)]) (fun t k => XS.iload X0.here hx rfl (hb hby d5_3) rfl k) ?_
  refine GoW.sg (mkF m 7 (Sh4 a1c 0 a2c 0 4 0) [(.int 4), (.int 0)]) (fun t k => XS.iload X0.here hx rfl (hb hby d5_5) rfl k) ?_
  refine GoW.sg (mkF m 10 (Sh4 a1c 0 a2c 0 4 0) []) (fun t k => XS.icmpNo X0.here hx rfl (hb hby d5_7) rfl (by decide) k) ?_
  refine GoW.sg (mkF m 11 (Sh4 a1c 0 a2c 0 4 0) [(.ref a1c)]) (fun t k => XS.aloadN X0.here hx rfl (hb hby d5_10) rfl rfl k) ?_
  refine GoW.sg (mkF m 12 (Sh4 a1c 0 a2c 0 4 0) [(.int 0), (.ref a1c)]) (fun t k => XS.iloadN X0.here hx rfl (hb hby d5_11) rfl k) ?_
  obtain ⟨cl553, Ar553, q553, Sz553, Nn553, Hh553, Gg553⟩ := id P1
  have hin553 : ¬ ((0 : Int32) < 0 ∨ cl553.slots.size ≤ ((0 : Int32)).toNatClampNeg) := inb_of Sz553 ⟨by decide, by decide⟩
  refine GoW.sg (mkF m 13 (Sh4 a1c 0 a2c 0 4 0) [(.int x1c)]) (fun t k => X0.caload hx (j := (0 : Int32)) (v := (.int x1c)) (hq_ e0 Ar553.1) (State.isArrayOf_alike hZ.alike Ar553.2.1) Ar553.2.2 hin553 (Hh553.at hin553 rfl) (g := (mkF m 12 (Sh4 a1c 0 a2c 0 4 0) [(.int 0), (.ref a1c)])) rfl rfl (hb hby d5_12) t k) ?_
  refine GoW.sg (mkF m 15 (Sh5 a1c 0 a2c 0 4 0 x1c) []) (fun t k => XS.istore X0.here hx rfl (hb hby d5_13) rfl (l' := (Sh5 a1c 0 a2c 0 4 0 x1c)) rfl k) ?_
  refine GoW.sg (mkF m 17 (Sh5 a1c 0 a2c 0 4 0 x1c) [(.int x1c)]) (fun t k => XS.iload X0.here hx rfl (hb hby d5_15) rfl k) ?_
  refine GoW.sg (mkF m 20 (Sh5 a1c 0 a2c 0 4 0 x1c) [(.int 255), (.int x1c)]) (fun t k => XS.sipush X0.here hx rfl (hb hby d5_17) k) ?_
  refine GoW.sg (mkF m 26 (Sh5 a1c 0 a2c 0 4 0 x1c) []) (fun t k => XS.icmpYes X0.here hx rfl (pc0 := 20) (pc' := 26) rfl (hb hby d5_20) rfl (flt u0).2.2.2 (by decide) (by decide) k) ?_
  refine GoW.sg (mkF m 27 (Sh5 a1c 0 a2c 0 4 0 x1c) [(.ref a2c)]) (fun t k => XS.aloadN X0.here hx rfl (hb hby d5_26) rfl rfl k) ?_
  refine GoW.sg (mkF m 28 (Sh5 a1c 0 a2c 0 4 0 x1c) [(.int 0), (.ref a2c)]) (fun t k => XS.iloadN X0.here hx rfl (hb hby d5_27) rfl k) ?_
  refine GoW.sg (mkF m 30 (Sh5 a1c 0 a2c 0 4 0 x1c) [(.int x1c), (.int 0), (.ref a2c)]) (fun t k => XS.iload X0.here hx rfl (hb hby d5_28) rfl k) ?_
  refine GoW.sg (mkF m 31 (Sh5 a1c 0 a2c 0 4 0 x1c) [(.int x1c.toInt8.toInt32), (.int 0), (.ref a2c)]) (fun t k => XS.i2b X0.here hx rfl (hb hby d5_30) rfl k) ?_
  obtain ⟨cl554, Ar554, q554, Sz554, Nn554, Hh554, Gg554⟩ := P0
  have hin554 : ¬ ((0 : Int32) < 0 ∨ cl554.slots.size ≤ ((0 : Int32)).toNatClampNeg) := inb_of Sz554 ⟨by decide, by decide⟩
  obtain ⟨T554, h554, X554, e554, W554, st554⟩ := stB X0 hx hZ e0 Ar554 (j := (0 : Int32)) hin554 (g := (mkF m 31 (Sh5 a1c 0 a2c 0 4 0 x1c) [(.int x1c.toInt8.toInt32), (.int 0), (.ref a2c)])) rfl rfl (hb hby d5_31)
  have f554_1 := P1.other W554 ne_a1c_a2c
  have f554_2 := P2.wr W554
  have f554_3 := P3.wr W554
  have f554_4 := P4.wr W554
  have f554_5 := P5.wr W554
  have f554_6 := (Keep.refl h0 [a2c]).wr W554 (Or.inl (List.mem_of_getElem? (i := 0) rfl))
  have V554 : Arv Z h554 a2c ka2c .byte (4 : Int32) [(.int (lat8 x1c)), (.int (0 : Int32)), (.int (0 : Int32)), (.int (0 : Int32))] (.int (0 : Int32)) := Arv.set Ar554 q554 Sz554 Nn554 Hh554 Gg554 (fits_nar_byte _) W554 0 rfl (Nat.le_of_ble_eq_true rfl)
  have N554 := Fr.snoc X554 N0 g_a2c
  refine GoW.sg (mkF m 32 (Sh5 a1c 0 a2c 0 4 0 x1c) []) (fun t k => st554 t k) ?_
  refine GoW.sg (mkF m 35 (Sh5 a1c 1 a2c 0 4 0 x1c) []) (fun t k => XS.iinc X554.here hx rfl (hb hby d5_32) rfl (l' := (Sh5 a1c 1 a2c 0 4 0 x1c)) rfl k) ?_
  refine GoW.sg (mkF m 38 (Sh5 a1c 1 a2c 1 4 0 x1c) []) (fun t k => XS.iinc X554.here hx rfl (hb hby d5_35) rfl (l' := (Sh5 a1c 1 a2c 1 4 0 x1c)) rfl k) ?_
  refine GoW.sg (mkF m 41 (Sh5 a1c 1 a2c 1 4 1 x1c) []) (fun t k => XS.iinc X554.here hx rfl (hb hby d5_38) rfl (l' := (Sh5 a1c 1 a2c 1 4 1 x1c)) rfl k) ?_
  refine GoW.sg (mkF m 3 (Sh5 a1c 1 a2c 1 4 1 x1c) []) (fun t k => XS.goto X554.here hx rfl (pc0 := 41) (pc' := 3) rfl (hb hby d5_41) (by decide) (by decide) k) ?_
  refine GoW.sg (mkF m 5 (Sh5 a1c 1 a2c 1 4 1 x1c) [(.int 1)]) (fun t k => XS.iload X554.here hx rfl (hb hby d5_3) rfl k) ?_
  refine GoW.sg (mkF m 7 (Sh5 a1c 1 a2c 1 4 1 x1c) [(.int 4), (.int 1)]) (fun t k => XS.iload X554.here hx rfl (hb hby d5_5) rfl k) ?_
  refine GoW.sg (mkF m 10 (Sh5 a1c 1 a2c 1 4 1 x1c) []) (fun t k => XS.icmpNo X554.here hx rfl (hb hby d5_7) rfl (by decide) k) ?_
  refine GoW.sg (mkF m 11 (Sh5 a1c 1 a2c 1 4 1 x1c) [(.ref a1c)]) (fun t k => XS.aloadN X554.here hx rfl (hb hby d5_10) rfl rfl k) ?_
  refine GoW.sg (mkF m 12 (Sh5 a1c 1 a2c 1 4 1 x1c) [(.int 1), (.ref a1c)]) (fun t k => XS.iloadN X554.here hx rfl (hb hby d5_11) rfl k) ?_
  obtain ⟨cl555, Ar555, q555, Sz555, Nn555, Hh555, Gg555⟩ := id f554_1
  have hin555 : ¬ ((1 : Int32) < 0 ∨ cl555.slots.size ≤ ((1 : Int32)).toNatClampNeg) := inb_of Sz555 ⟨by decide, by decide⟩
  refine GoW.sg (mkF m 13 (Sh5 a1c 1 a2c 1 4 1 x1c) [(.int x2c)]) (fun t k => X554.caload hx (j := (1 : Int32)) (v := (.int x2c)) (hq_ e554 Ar555.1) (State.isArrayOf_alike hZ.alike Ar555.2.1) Ar555.2.2 hin555 (Hh555.at hin555 rfl) (g := (mkF m 12 (Sh5 a1c 1 a2c 1 4 1 x1c) [(.int 1), (.ref a1c)])) rfl rfl (hb hby d5_12) t k) ?_
  refine GoW.sg (mkF m 15 (Sh5 a1c 1 a2c 1 4 1 x2c) []) (fun t k => XS.istore X554.here hx rfl (hb hby d5_13) rfl (l' := (Sh5 a1c 1 a2c 1 4 1 x2c)) rfl k) ?_
  refine GoW.sg (mkF m 17 (Sh5 a1c 1 a2c 1 4 1 x2c) [(.int x2c)]) (fun t k => XS.iload X554.here hx rfl (hb hby d5_15) rfl k) ?_
  refine GoW.sg (mkF m 20 (Sh5 a1c 1 a2c 1 4 1 x2c) [(.int 255), (.int x2c)]) (fun t k => XS.sipush X554.here hx rfl (hb hby d5_17) k) ?_
  refine GoW.sg (mkF m 26 (Sh5 a1c 1 a2c 1 4 1 x2c) []) (fun t k => XS.icmpYes X554.here hx rfl (pc0 := 20) (pc' := 26) rfl (hb hby d5_20) rfl (flt u1).2.2.2 (by decide) (by decide) k) ?_
  refine GoW.sg (mkF m 27 (Sh5 a1c 1 a2c 1 4 1 x2c) [(.ref a2c)]) (fun t k => XS.aloadN X554.here hx rfl (hb hby d5_26) rfl rfl k) ?_
  refine GoW.sg (mkF m 28 (Sh5 a1c 1 a2c 1 4 1 x2c) [(.int 1), (.ref a2c)]) (fun t k => XS.iloadN X554.here hx rfl (hb hby d5_27) rfl k) ?_
  refine GoW.sg (mkF m 30 (Sh5 a1c 1 a2c 1 4 1 x2c) [(.int x2c), (.int 1), (.ref a2c)]) (fun t k => XS.iload X554.here hx rfl (hb hby d5_28) rfl k) ?_
  refine GoW.sg (mkF m 31 (Sh5 a1c 1 a2c 1 4 1 x2c) [(.int x2c.toInt8.toInt32), (.int 1), (.ref a2c)]) (fun t k => XS.i2b X554.here hx rfl (hb hby d5_30) rfl k) ?_
  obtain ⟨cl556, Ar556, q556, Sz556, Nn556, Hh556, Gg556⟩ := V554
  have hin556 : ¬ ((1 : Int32) < 0 ∨ cl556.slots.size ≤ ((1 : Int32)).toNatClampNeg) := inb_of Sz556 ⟨by decide, by decide⟩
  obtain ⟨T556, h556, X556, e556, W556, st556⟩ := stB X554 hx hZ e554 Ar556 (j := (1 : Int32)) hin556 (g := (mkF m 31 (Sh5 a1c 1 a2c 1 4 1 x2c) [(.int x2c.toInt8.toInt32), (.int 1), (.ref a2c)])) rfl rfl (hb hby d5_31)
  have f556_7 := f554_1.other W556 ne_a1c_a2c
  have f556_8 := f554_2.wr W556
  have f556_9 := f554_3.wr W556
  have f556_10 := f554_4.wr W556
  have f556_11 := f554_5.wr W556
  have f556_12 := f554_6.wr W556 (Or.inl (List.mem_of_getElem? (i := 0) rfl))
  have V556 : Arv Z h556 a2c ka2c .byte (4 : Int32) [(.int (lat8 x1c)), (.int (lat8 x2c)), (.int (0 : Int32)), (.int (0 : Int32))] (.int (0 : Int32)) := Arv.set Ar556 q556 Sz556 Nn556 Hh556 Gg556 (fits_nar_byte _) W556 1 rfl (Nat.le_of_ble_eq_true rfl)
  have N556 := Fr.snoc X556 N554 g_a2c
  refine GoW.sg (mkF m 32 (Sh5 a1c 1 a2c 1 4 1 x2c) []) (fun t k => st556 t k) ?_
  refine GoW.sg (mkF m 35 (Sh5 a1c 2 a2c 1 4 1 x2c) []) (fun t k => XS.iinc X556.here hx rfl (hb hby d5_32) rfl (l' := (Sh5 a1c 2 a2c 1 4 1 x2c)) rfl k) ?_
  refine GoW.sg (mkF m 38 (Sh5 a1c 2 a2c 2 4 1 x2c) []) (fun t k => XS.iinc X556.here hx rfl (hb hby d5_35) rfl (l' := (Sh5 a1c 2 a2c 2 4 1 x2c)) rfl k) ?_
  refine GoW.sg (mkF m 41 (Sh5 a1c 2 a2c 2 4 2 x2c) []) (fun t k => XS.iinc X556.here hx rfl (hb hby d5_38) rfl (l' := (Sh5 a1c 2 a2c 2 4 2 x2c)) rfl k) ?_
  refine GoW.sg (mkF m 3 (Sh5 a1c 2 a2c 2 4 2 x2c) []) (fun t k => XS.goto X556.here hx rfl (pc0 := 41) (pc' := 3) rfl (hb hby d5_41) (by decide) (by decide) k) ?_
  refine GoW.sg (mkF m 5 (Sh5 a1c 2 a2c 2 4 2 x2c) [(.int 2)]) (fun t k => XS.iload X556.here hx rfl (hb hby d5_3) rfl k) ?_
  refine GoW.sg (mkF m 7 (Sh5 a1c 2 a2c 2 4 2 x2c) [(.int 4), (.int 2)]) (fun t k => XS.iload X556.here hx rfl (hb hby d5_5) rfl k) ?_
  refine GoW.sg (mkF m 10 (Sh5 a1c 2 a2c 2 4 2 x2c) []) (fun t k => XS.icmpNo X556.here hx rfl (hb hby d5_7) rfl (by decide) k) ?_
  refine GoW.sg (mkF m 11 (Sh5 a1c 2 a2c 2 4 2 x2c) [(.ref a1c)]) (fun t k => XS.aloadN X556.here hx rfl (hb hby d5_10) rfl rfl k) ?_
  refine GoW.sg (mkF m 12 (Sh5 a1c 2 a2c 2 4 2 x2c) [(.int 2), (.ref a1c)]) (fun t k => XS.iloadN X556.here hx rfl (hb hby d5_11) rfl k) ?_
  obtain ⟨cl557, Ar557, q557, Sz557, Nn557, Hh557, Gg557⟩ := id f556_7
  have hin557 : ¬ ((2 : Int32) < 0 ∨ cl557.slots.size ≤ ((2 : Int32)).toNatClampNeg) := inb_of Sz557 ⟨by decide, by decide⟩
  refine GoW.sg (mkF m 13 (Sh5 a1c 2 a2c 2 4 2 x2c) [(.int x3c)]) (fun t k => X556.caload hx (j := (2 : Int32)) (v := (.int x3c)) (hq_ e556 Ar557.1) (State.isArrayOf_alike hZ.alike Ar557.2.1) Ar557.2.2 hin557 (Hh557.at hin557 rfl) (g := (mkF m 12 (Sh5 a1c 2 a2c 2 4 2 x2c) [(.int 2), (.ref a1c)])) rfl rfl (hb hby d5_12) t k) ?_
  refine GoW.sg (mkF m 15 (Sh5 a1c 2 a2c 2 4 2 x3c) []) (fun t k => XS.istore X556.here hx rfl (hb hby d5_13) rfl (l' := (Sh5 a1c 2 a2c 2 4 2 x3c)) rfl k) ?_
  refine GoW.sg (mkF m 17 (Sh5 a1c 2 a2c 2 4 2 x3c) [(.int x3c)]) (fun t k => XS.iload X556.here hx rfl (hb hby d5_15) rfl k) ?_
  refine GoW.sg (mkF m 20 (Sh5 a1c 2 a2c 2 4 2 x3c) [(.int 255), (.int x3c)]) (fun t k => XS.sipush X556.here hx rfl (hb hby d5_17) k) ?_
  refine GoW.sg (mkF m 26 (Sh5 a1c 2 a2c 2 4 2 x3c) []) (fun t k => XS.icmpYes X556.here hx rfl (pc0 := 20) (pc' := 26) rfl (hb hby d5_20) rfl (flt u2).2.2.2 (by decide) (by decide) k) ?_
  refine GoW.sg (mkF m 27 (Sh5 a1c 2 a2c 2 4 2 x3c) [(.ref a2c)]) (fun t k => XS.aloadN X556.here hx rfl (hb hby d5_26) rfl rfl k) ?_
  refine GoW.sg (mkF m 28 (Sh5 a1c 2 a2c 2 4 2 x3c) [(.int 2), (.ref a2c)]) (fun t k => XS.iloadN X556.here hx rfl (hb hby d5_27) rfl k) ?_
  refine GoW.sg (mkF m 30 (Sh5 a1c 2 a2c 2 4 2 x3c) [(.int x3c), (.int 2), (.ref a2c)]) (fun t k => XS.iload X556.here hx rfl (hb hby d5_28) rfl k) ?_
  refine GoW.sg (mkF m 31 (Sh5 a1c 2 a2c 2 4 2 x3c) [(.int x3c.toInt8.toInt32), (.int 2), (.ref a2c)]) (fun t k => XS.i2b X556.here hx rfl (hb hby d5_30) rfl k) ?_
  obtain ⟨cl558, Ar558, q558, Sz558, Nn558, Hh558, Gg558⟩ := V556
  have hin558 : ¬ ((2 : Int32) < 0 ∨ cl558.slots.size ≤ ((2 : Int32)).toNatClampNeg) := inb_of Sz558 ⟨by decide, by decide⟩
  obtain ⟨T558, h558, X558, e558, W558, st558⟩ := stB X556 hx hZ e556 Ar558 (j := (2 : Int32)) hin558 (g := (mkF m 31 (Sh5 a1c 2 a2c 2 4 2 x3c) [(.int x3c.toInt8.toInt32), (.int 2), (.ref a2c)])) rfl rfl (hb hby d5_31)
  have f558_13 := f556_7.other W558 ne_a1c_a2c
  have f558_14 := f556_8.wr W558
  have f558_15 := f556_9.wr W558
  have f558_16 := f556_10.wr W558
  have f558_17 := f556_11.wr W558
  have f558_18 := f556_12.wr W558 (Or.inl (List.mem_of_getElem? (i := 0) rfl))
  have V558 : Arv Z h558 a2c ka2c .byte (4 : Int32) [(.int (lat8 x1c)), (.int (lat8 x2c)), (.int (lat8 x3c)), (.int (0 : Int32))] (.int (0 : Int32)) := Arv.set Ar558 q558 Sz558 Nn558 Hh558 Gg558 (fits_nar_byte _) W558 2 rfl (Nat.le_of_ble_eq_true rfl)
  have N558 := Fr.snoc X558 N556 g_a2c
  refine GoW.sg (mkF m 32 (Sh5 a1c 2 a2c 2 4 2 x3c) []) (fun t k => st558 t k) ?_
  refine GoW.sg (mkF m 35 (Sh5 a1c 3 a2c 2 4 2 x3c) []) (fun t k => XS.iinc X558.here hx rfl (hb hby d5_32) rfl (l' := (Sh5 a1c 3 a2c 2 4 2 x3c)) rfl k) ?_
  refine GoW.sg (mkF m 38 (Sh5 a1c 3 a2c 3 4 2 x3c) []) (fun t k => XS.iinc X558.here hx rfl (hb hby d5_35) rfl (l' := (Sh5 a1c 3 a2c 3 4 2 x3c)) rfl k) ?_
  refine GoW.sg (mkF m 41 (Sh5 a1c 3 a2c 3 4 3 x3c) []) (fun t k => XS.iinc X558.here hx rfl (hb hby d5_38) rfl (l' := (Sh5 a1c 3 a2c 3 4 3 x3c)) rfl k) ?_
  refine GoW.sg (mkF m 3 (Sh5 a1c 3 a2c 3 4 3 x3c) []) (fun t k => XS.goto X558.here hx rfl (pc0 := 41) (pc' := 3) rfl (hb hby d5_41) (by decide) (by decide) k) ?_
  refine GoW.sg (mkF m 5 (Sh5 a1c 3 a2c 3 4 3 x3c) [(.int 3)]) (fun t k => XS.iload X558.here hx rfl (hb hby d5_3) rfl k) ?_
  refine GoW.sg (mkF m 7 (Sh5 a1c 3 a2c 3 4 3 x3c) [(.int 4), (.int 3)]) (fun t k => XS.iload X558.here hx rfl (hb hby d5_5) rfl k) ?_
  refine GoW.sg (mkF m 10 (Sh5 a1c 3 a2c 3 4 3 x3c) []) (fun t k => XS.icmpNo X558.here hx rfl (hb hby d5_7) rfl (by decide) k) ?_
  refine GoW.sg (mkF m 11 (Sh5 a1c 3 a2c 3 4 3 x3c) [(.ref a1c)]) (fun t k => XS.aloadN X558.here hx rfl (hb hby d5_10) rfl rfl k) ?_
  refine GoW.sg (mkF m 12 (Sh5 a1c 3 a2c 3 4 3 x3c) [(.int 3), (.ref a1c)]) (fun t k => XS.iloadN X558.here hx rfl (hb hby d5_11) rfl k) ?_
  obtain ⟨cl559, Ar559, q559, Sz559, Nn559, Hh559, Gg559⟩ := id f558_13
  have hin559 : ¬ ((3 : Int32) < 0 ∨ cl559.slots.size ≤ ((3 : Int32)).toNatClampNeg) := inb_of Sz559 ⟨by decide, by decide⟩
  refine GoW.sg (mkF m 13 (Sh5 a1c 3 a2c 3 4 3 x3c) [(.int x4c)]) (fun t k => X558.caload hx (j := (3 : Int32)) (v := (.int x4c)) (hq_ e558 Ar559.1) (State.isArrayOf_alike hZ.alike Ar559.2.1) Ar559.2.2 hin559 (Hh559.at hin559 rfl) (g := (mkF m 12 (Sh5 a1c 3 a2c 3 4 3 x3c) [(.int 3), (.ref a1c)])) rfl rfl (hb hby d5_12) t k) ?_
  refine GoW.sg (mkF m 15 (Sh5 a1c 3 a2c 3 4 3 x4c) []) (fun t k => XS.istore X558.here hx rfl (hb hby d5_13) rfl (l' := (Sh5 a1c 3 a2c 3 4 3 x4c)) rfl k) ?_
  refine GoW.sg (mkF m 17 (Sh5 a1c 3 a2c 3 4 3 x4c) [(.int x4c)]) (fun t k => XS.iload X558.here hx rfl (hb hby d5_15) rfl k) ?_
  refine GoW.sg (mkF m 20 (Sh5 a1c 3 a2c 3 4 3 x4c) [(.int 255), (.int x4c)]) (fun t k => XS.sipush X558.here hx rfl (hb hby d5_17) k) ?_
  refine GoW.sg (mkF m 26 (Sh5 a1c 3 a2c 3 4 3 x4c) []) (fun t k => XS.icmpYes X558.here hx rfl (pc0 := 20) (pc' := 26) rfl (hb hby d5_20) rfl (flt u3).2.2.2 (by decide) (by decide) k) ?_
  refine GoW.sg (mkF m 27 (Sh5 a1c 3 a2c 3 4 3 x4c) [(.ref a2c)]) (fun t k => XS.aloadN X558.here hx rfl (hb hby d5_26) rfl rfl k) ?_
  refine GoW.sg (mkF m 28 (Sh5 a1c 3 a2c 3 4 3 x4c) [(.int 3), (.ref a2c)]) (fun t k => XS.iloadN X558.here hx rfl (hb hby d5_27) rfl k) ?_
  refine GoW.sg (mkF m 30 (Sh5 a1c 3 a2c 3 4 3 x4c) [(.int x4c), (.int 3), (.ref a2c)]) (fun t k => XS.iload X558.here hx rfl (hb hby d5_28) rfl k) ?_
  refine GoW.sg (mkF m 31 (Sh5 a1c 3 a2c 3 4 3 x4c) [(.int x4c.toInt8.toInt32), (.int 3), (.ref a2c)]) (fun t k => XS.i2b X558.here hx rfl (hb hby d5_30) rfl k) ?_
  obtain ⟨cl560, Ar560, q560, Sz560, Nn560, Hh560, Gg560⟩ := V558
  have hin560 : ¬ ((3 : Int32) < 0 ∨ cl560.slots.size ≤ ((3 : Int32)).toNatClampNeg) := inb_of Sz560 ⟨by decide, by decide⟩
  obtain ⟨T560, h560, X560, e560, W560, st560⟩ := stB X558 hx hZ e558 Ar560 (j := (3 : Int32)) hin560 (g := (mkF m 31 (Sh5 a1c 3 a2c 3 4 3 x4c) [(.int x4c.toInt8.toInt32), (.int 3), (.ref a2c)])) rfl rfl (hb hby d5_31)
  have f560_19 := f558_13.other W560 ne_a1c_a2c
  have f560_20 := f558_14.wr W560
  have f560_21 := f558_15.wr W560
  have f560_22 := f558_16.wr W560
  have f560_23 := f558_17.wr W560
  have f560_24 := f558_18.wr W560 (Or.inl (List.mem_of_getElem? (i := 0) rfl))
  have V560 : Arv Z h560 a2c ka2c .byte (4 : Int32) [(.int (lat8 x1c)), (.int (lat8 x2c)), (.int (lat8 x3c)), (.int (lat8 x4c))] (.int (0 : Int32)) := Arv.set Ar560 q560 Sz560 Nn560 Hh560 Gg560 (fits_nar_byte _) W560 3 rfl (Nat.le_of_ble_eq_true rfl)
  have N560 := Fr.snoc X560 N558 g_a2c
  refine GoW.sg (mkF m 32 (Sh5 a1c 3 a2c 3 4 3 x4c) []) (fun t k => st560 t k) ?_
  refine GoW.sg (mkF m 35 (Sh5 a1c 4 a2c 3 4 3 x4c) []) (fun t k => XS.iinc X560.here hx rfl (hb hby d5_32) rfl (l' := (Sh5 a1c 4 a2c 3 4 3 x4c)) rfl k) ?_
  refine GoW.sg (mkF m 38 (Sh5 a1c 4 a2c 4 4 3 x4c) []) (fun t k => XS.iinc X560.here hx rfl (hb hby d5_35) rfl (l' := (Sh5 a1c 4 a2c 4 4 3 x4c)) rfl k) ?_
  refine GoW.sg (mkF m 41 (Sh5 a1c 4 a2c 4 4 4 x4c) []) (fun t k => XS.iinc X560.here hx rfl (hb hby d5_38) rfl (l' := (Sh5 a1c 4 a2c 4 4 4 x4c)) rfl k) ?_
  refine GoW.sg (mkF m 3 (Sh5 a1c 4 a2c 4 4 4 x4c) []) (fun t k => XS.goto X560.here hx rfl (pc0 := 41) (pc' := 3) rfl (hb hby d5_41) (by decide) (by decide) k) ?_
  refine GoW.sg (mkF m 5 (Sh5 a1c 4 a2c 4 4 4 x4c) [(.int 4)]) (fun t k => XS.iload X560.here hx rfl (hb hby d5_3) rfl k) ?_
  refine GoW.sg (mkF m 7 (Sh5 a1c 4 a2c 4 4 4 x4c) [(.int 4), (.int 4)]) (fun t k => XS.iload X560.here hx rfl (hb hby d5_5) rfl k) ?_
  refine GoW.sg (mkF m 44 (Sh5 a1c 4 a2c 4 4 4 x4c) []) (fun t k => XS.icmpYes X560.here hx rfl (pc0 := 7) (pc' := 44) rfl (hb hby d5_7) rfl (by decide) (by decide) (by decide) k) ?_
  refine GoW.sg (mkF m 46 (Sh5 a1c 4 a2c 4 4 4 x4c) [(.int 4)]) (fun t k => XS.iload X560.here hx rfl (hb hby d5_44) rfl k) ?_
  refine GoW.retI X560 hx Bd.returns (hb hby d5_46) Bd.notSynchronized ?_ (by decide) (by decide)
  rw [e560]
  exact ⟨rfl, N560, f560_24, V560⟩
def Q4_30 (Z : State) (a1c : Addr) (ka1c : ClassId) (x1c : Int32) (x2c : Int32) (x3c : Int32) (x4c : Int32) (x5c : Int32) (h0 : Heap) (n0 : Nat) (v : Option Value) (h : Heap) (L : List Loc) : Prop := ∃ e0 : Addr, ∃ ke0 : ClassId, v = some (.ref e0) ∧ Fr n0 L ∧ (Keep h0 h []) ∧ (Arv Z h e0 ke0 .byte (4 : Int32) [(.int (lat8 x1c)), (.int (lat8 x2c)), (.int (lat8 x3c)), (.int (lat8 x4c))] (.int (0 : Int32))) ∧ (h0.size ≤ e0)
theorem ef4_rm4_30 (m : MethodId) (a1c : Addr) : entryFrame m #[(.ref a1c), (.int (0 : Int32)), (.int (4 : Int32))] 6 = (mkF m 0 #[.val (.ref a1c), .val (.int 0), .val (.int 4), .unset, .unset, .unset] []) := by first | (simp [entryFrame, mkF, argsToLocals, Value.category, maxLocals]; done) | rfl
set_option maxRecDepth 65536 in
set_option maxHeartbeats 40000000 in
theorem rm4_30 (l : Launch) (Z : State) (a0 : Array Value) (hw : ∀ d ∈ tables_1, d.before a0 Z = true) (ws : List Jvm.Cond) (a1c : Addr) (ka1c : ClassId) (x1c : Int32) (x2c : Int32) (x3c : Int32) (x4c : Int32) (x5c : Int32) (h0 : Heap) (n0 : Nat) (Z0 : n0 ≤ h0.size) (P0 : Arv Z h0 a1c ka1c .char (4 : Int32) [(.int x1c), (.int x2c), (.int x3c), (.int x4c)] (.int (0 : Int32))) (P1 : Sta Z h0 "java/lang/String" "COMPACT_STRINGS" "Z" (.int x5c)) (P2 : Sta Z h0 "java/lang/StringUTF16" "$assertionsDisabled" "Z" (.int (1 : Int32))) (P3 : Sta Z h0 "java/lang/StringUTF16" "HI_BYTE_SHIFT" "I" (.int (0 : Int32))) (P4 : Sta Z h0 "java/lang/StringUTF16" "LO_BYTE_SHIFT" "I" (.int (8 : Int32)))   (u0 : ¬ ((255 : Int32) < x1c)) (u1 : ¬ ((255 : Int32) < x2c)) (u2 : ¬ ((255 : Int32) < x3c)) (u3 : ¬ ((255 : Int32) < x4c))   :
    MetFree l Y4 (head1 (Jvm.Cond.code Y4 jdk_52_method_16_code 6 (some (.array .byte)) :: ws) ({ frames := 1, cells := 1, slots := 4, locals := 18 } : Room)) (fun a U => a = #[(.ref a1c), (.int (0 : Int32)), (.int (4 : Int32))] ∧ Z.Warmed39 U.vm ∧ U.heap = h0) (fun _ _ _ _ _ => True) (fun _ U o U' => ∃ v L, o = .returned v ∧ (Q4_30 Z a1c ka1c x1c x2c x3c x4c x5c h0 n0) v U'.heap L ∧ FrameEnd U o U' L 1 4) := by
  refine MetFree.of_bodySF (plainFor_of_name pn_java_lang_StringUTF16) hisR ?_
  intro p e s m args below meth c s₁ Bd hml0 hP hK
  obtain ⟨rfl, hZ, hh⟩ := hP
  have hx := Bd.exec
  have hby := Bd.bytes
  have hml : c.maxLocals = 6 := hml0
  have hown : s.vm.findClass "java/lang/StringUTF16" = some m.cls := findClass_of_methodNamed Bd.named
  have hnm := (name_of_methodNamed Bd.named Bd.method).1
  have X0 : Stand p l e ({ frames := 1, cells := 1, slots := 4, locals := 18 } : Room) s m #[(.ref a1c), (.int (0 : Int32)), (.int (4 : Int32))] below meth c s₁ [] 0 0 := Stand.of_body Bd
  have e0 : s₁.heap = h0 := by rw [← hh, Bd.state]; rfl
  have N0 := Fr.nil n0
  refine GoW.mk ?_
  refine GoW.st (fun t k => castTop (ef4_rm4_30 m a1c) k) ?_
  show GoW p e below s (Q4_30 Z a1c ka1c x1c x2c x3c x4c x5c h0 n0) 1 4 (s₁.setTop (mkF m 0 (Sh1 a1c 0 4) []))
  refine GoW.sg (mkF m 1 (Sh1 a1c 0 4) [(.int 4)]) (fun t k => XS.iloadN X0.here hx rfl (hb hby d4_0) rfl k) ?_
  obtain ⟨T562, h562, k562, X562, e562, E562, A562, st562⟩ := newP X0 hx hZ (ww hw 19 rfl) e0 (g := (mkF m 1 (Sh1 a1c 0 4) [(.int 4)])) rfl (hb hby d4_1) rfl (by decide) (cap := 4) (by decide) (by decide) (by decide) (by decide)
  obtain ⟨b562, g562⟩ : ∃ z, z = h0.size := ⟨_, rfl⟩
  rw [← g562] at A562 st562
  have g_b562 : n0 ≤ b562 := Nat.le_trans Z0 (Nat.le_of_eq g562.symm)
  have sz_b562 : h0.size ≤ b562 := Nat.le_trans (Keep.refl h0 []).1 (Nat.le_of_eq g562.symm)
  have ne_a1c_b562 : a1c ≠ b562 := Nat.ne_of_lt (Nat.lt_of_lt_of_eq P0.lt g562.symm)
  have f562_1 := P0.ext E562
  have f562_2 := P1.ext E562
  have f562_3 := P2.ext E562
  have f562_4 := P3.ext E562
  have f562_5 := P4.ext E562
  have f562_6 := (Keep.refl h0 []).ext E562
  have f562_7 := Nat.le_trans Z0 E562.1
  have V562 : Arv Z h562 b562 k562 .byte (4 : Int32) [(.int (0 : Int32)), (.int (0 : Int32)), (.int (0 : Int32)), (.int (0 : Int32))] (.int (0 : Int32)) := (Arv.new A562 (by decide)).pad (pad_rep [] (.int (0 : Int32)) 4)
  refine GoW.sg (mkF m 3 (Sh1 a1c 0 4) [(.ref b562)]) (fun t k => st562 t k) ?_
  refine GoW.sg (mkF m 4 (Sh2 a1c 0 4 b562) []) (fun t k => XS.astoreN X562.here hx rfl (hb hby d4_3) rfl rfl (l' := (Sh2 a1c 0 4 b562)) rfl k) ?_
  refine GoW.sg (mkF m 5 (Sh2 a1c 0 4 b562) [(.ref a1c)]) (fun t k => XS.aloadN X562.here hx rfl (hb hby d4_4) rfl rfl k) ?_
  refine GoW.sg (mkF m 6 (Sh2 a1c 0 4 b562) [(.int 0), (.ref a1c)]) (fun t k => XS.iloadN X562.here hx rfl (hb hby d4_5) rfl k) ?_
  refine GoW.sg (mkF m 7 (Sh2 a1c 0 4 b562) [(.ref b562), (.int 0), (.ref a1c)]) (fun t k => XS.aloadN X562.here hx rfl (hb hby d4_6) rfl rfl k) ?_
  refine GoW.sg (mkF m 8 (Sh2 a1c 0 4 b562) [(.int 0), (.ref b562), (.int 0), (.ref a1c)]) (fun t k => XS.iconst X562.here hx rfl (hb hby d4_7) k) ?_
  refine GoW.sg (mkF m 9 (Sh2 a1c 0 4 b562) [(.int 4), (.int 0), (.ref b562), (.int 0), (.ref a1c)]) (fun t k => XS.iloadN X562.here hx rfl (hb hby d4_8) rfl k) ?_
  obtain ⟨_, T571, L571, X571, hQ571, st571⟩ := own_callS X562 hx hZ hown (y := Y5) (ww hw 20 rfl) (ww hw 21 rfl) (ww hw 17 rfl) (ww hw 22 rfl) (by decide) 0 (rm5_29 l Z a0 hw [] a1c b562 k562 ka1c x1c x2c x3c x4c x5c h562 n0  V562 f562_1 f562_2 f562_3 f562_4 f562_5 g_b562 ne_a1c_b562 u0 u1 u2 u3 ) (by decide) (by decide) e562 (by decide) (by decide) (g := (mkF m 9 (Sh2 a1c 0 4 b562) [(.int 4), (.int 0), (.ref b562), (.int 0), (.ref a1c)])) rfl (by rw [hml]; rfl) (argsL := [(.ref a1c), (.int (0 : Int32)), (.ref b562), (.int (0 : Int32)), (.int (4 : Int32))]) (rest := []) (lenOf pd_285bCI5bBII29I rfl) rfl (by show 2 * 0 + _ ≤ _; exact Nat.le_of_eq rfl) (hb hby d4_9)
  obtain ⟨rfl, N571q, K571, p571_0⟩ := hQ571
  have N571 := Fr.app N0 N571q
  have f571_8 := f562_1.keep K571 (ninS ne_a1c_b562 nin0)
  have f571_9 := own_staK f562_2 K571 (allS (own_nsA V562) all0)
  have f571_10 := own_staK f562_3 K571 (allS (own_nsA V562) all0)
  have f571_11 := own_staK f562_4 K571 (allS (own_nsA V562) all0)
  have f571_12 := own_staK f562_5 K571 (allS (own_nsA V562) all0)
  have f571_13 := f562_6.trans K571 (allS (Or.inr sz_b562) all0)
  have f571_14 := Nat.le_trans f562_7 K571.1
  refine GoW.sg (mkF m 12 (Sh2 a1c 0 4 b562) [(.int 4)]) (fun t k => st571 t k) ?_
  refine GoW.sg (mkF m 14 (Sh6 a1c 0 4 b562 4) []) (fun t k => XS.istore X571.here hx rfl (hb hby d4_12) rfl (l' := (Sh6 a1c 0 4 b562 4)) rfl k) ?_
  refine GoW.sg (mkF m 16 (Sh6 a1c 0 4 b562 4) [(.int 4)]) (fun t k => XS.iload X571.here hx rfl (hb hby d4_14) rfl k) ?_
  refine GoW.sg (mkF m 17 (Sh6 a1c 0 4 b562 4) [(.int 4), (.int 4)]) (fun t k => XS.iloadN X571.here hx rfl (hb hby d4_16) rfl k) ?_
  refine GoW.sg (mkF m 57 (Sh6 a1c 0 4 b562 4) []) (fun t k => XS.icmpYes X571.here hx rfl (pc0 := 17) (pc' := 57) rfl (hb hby d4_17) rfl (by decide) (by decide) (by decide) k) ?_
  refine GoW.sg (mkF m 58 (Sh6 a1c 0 4 b562 4) [(.ref b562)]) (fun t k => XS.aloadN X571.here hx rfl (hb hby d4_57) rfl rfl k) ?_
  refine GoW.retA X571 hx Bd.returns rfl rfl rfl (hb hby d4_58) Bd.notSynchronized ?_ (by decide) (by decide)
  exact ⟨b562, k562, rfl, N571, f571_13, p571_0, sz_b562⟩
def Q6_31 (Z : State) (a1c : Addr) (ka1c : ClassId) (x1c : Int32) (x2c : Int32) (x3c : Int32) (x4c : Int32) (h0 : Heap) (n0 : Nat) (v : Option Value) (h : Heap) (L : List Loc) : Prop := v = some (.int (0 : Int32)) ∧ Fr n0 L ∧ (h = h0)
theorem ef6_rm6_31 (m : MethodId) (a1c : Addr) : entryFrame m #[(.ref a1c), (.int (4 : Int32))] 2 = (mkF m 0 #[.val (.ref a1c), .val (.int 4)] []) := by first | (simp [entryFrame, mkF, argsToLocals, Value.category, maxLocals]; done) | rfl
set_option maxRecDepth 65536 in
set_option maxHeartbeats 40000000 in
theorem rm6_31 (l : Launch) (Z : State) (a0 : Array Value) (hw : ∀ d ∈ tables_1, d.before a0 Z = true) (ws : List Jvm.Cond) (a1c : Addr) (ka1c : ClassId) (x1c : Int32) (x2c : Int32) (x3c : Int32) (x4c : Int32) (h0 : Heap) (n0 : Nat) (P0 : Arv Z h0 a1c ka1c .byte (4 : Int32) [(.int x1c), (.int x2c), (.int x3c), (.int x4c)] (.int (0 : Int32)))      :
    MetFree l Y6 (head1 (Jvm.Cond.code Y6 jdk_52_method_15_code 2 (some .byte) :: ws) ({ frames := 0, cells := 0, slots := 0, locals := 0 } : Room)) (fun a U => a = #[(.ref a1c), (.int (4 : Int32))] ∧ Z.Warmed39 U.vm ∧ U.heap = h0) (fun _ _ _ _ _ => True) (fun _ U o U' => ∃ v L, o = .returned v ∧ (Q6_31 Z a1c ka1c x1c x2c x3c x4c h0 n0) v U'.heap L ∧ FrameEnd U o U' L 0 0) := by
  refine MetFree.of_bodySF (plainFor_of_name pn_java_lang_StringUTF16) hisR ?_
  intro p e s m args below meth c s₁ Bd hml0 hP hK
  obtain ⟨rfl, hZ, hh⟩ := hP
  have hx := Bd.exec
  have hby := Bd.bytes
  have hml : c.maxLocals = 2 := hml0
  have hown : s.vm.findClass "java/lang/StringUTF16" = some m.cls := findClass_of_methodNamed Bd.named
  have hnm := (name_of_methodNamed Bd.named Bd.method).1
  have X0 : Stand p l e ({ frames := 0, cells := 0, slots := 0, locals := 0 } : Room) s m #[(.ref a1c), (.int (4 : Int32))] below meth c s₁ [] 0 0 := Stand.of_body Bd
  have e0 : s₁.heap = h0 := by rw [← hh, Bd.state]; rfl
  have N0 := Fr.nil n0
  refine GoW.mk ?_
  refine GoW.st (fun t k => castTop (ef6_rm6_31 m a1c) k) ?_
  show GoW p e below s (Q6_31 Z a1c ka1c x1c x2c x3c x4c h0 n0) 0 0 (s₁.setTop (mkF m 0 #[.val (.ref a1c), .val (.int 4)] []))
  refine GoW.sg (mkF m 1 #[.val (.ref a1c), .val (.int 4)] [(.int 4)]) (fun t k => XS.iloadN X0.here hx rfl (hb hby d6_0) rfl k) ?_
  refine GoW.sg (mkF m 2 #[.val (.ref a1c), .val (.int 4)] [(.ref a1c), (.int 4)]) (fun t k => XS.aloadN X0.here hx rfl (hb hby d6_1) rfl rfl k) ?_
  obtain ⟨cl574, Ar574, q574, Sz574, Nn574, Hh574, Gg574⟩ := id P0
  have st574 := X0.arraylength hx (hq_ e0 Ar574.1) (State.isArrayOf_alike hZ.alike Ar574.2.1) (g := (mkF m 2 #[.val (.ref a1c), .val (.int 4)] [(.ref a1c), (.int 4)])) rfl rfl (hb hby d6_2)
  rw [len_of Sz574 Nn574] at st574
  refine GoW.sg (mkF m 3 #[.val (.ref a1c), .val (.int 4)] [(.int 4), (.int 4)]) (fun t k => st574 t k) ?_
  refine GoW.st (fun t k => XS.isub X0.here hx rfl (hb hby d6_3) rfl k) ?_
  rw [show ((4 : Int32) - (4 : Int32)) = (0 : Int32) from by decide]
  show GoW p e below s (Q6_31 Z a1c ka1c x1c x2c x3c x4c h0 n0) 0 0 (s₁.setTop (mkF m 4 #[.val (.ref a1c), .val (.int 4)] [(.int 0)]))
  refine GoW.sg (mkF m 6 #[.val (.ref a1c), .val (.int 4)] [(.int 31), (.int 0)]) (fun t k => XS.bipush X0.here hx rfl (hb hby d6_4) k) ?_
  refine GoW.st (fun t k => XS.iushr X0.here hx rfl (hb hby d6_6) rfl k) ?_
  rw [show ((0 : Int32).toUInt32 >>> ((31 : Int32) &&& 31).toUInt32).toInt32 = (0 : Int32) from by decide]
  show GoW p e below s (Q6_31 Z a1c ka1c x1c x2c x3c x4c h0 n0) 0 0 (s₁.setTop (mkF m 7 #[.val (.ref a1c), .val (.int 4)] [(.int 0)]))
  refine GoW.st (fun t k => XS.i2b X0.here hx rfl (hb hby d6_7) rfl k) ?_
  rw [show (0 : Int32).toInt8.toInt32 = (0 : Int32) from by decide]
  show GoW p e below s (Q6_31 Z a1c ka1c x1c x2c x3c x4c h0 n0) 0 0 (s₁.setTop (mkF m 8 #[.val (.ref a1c), .val (.int 4)] [(.int 0)]))
  refine GoW.retN X0 hx (t := .byte) Bd.returns (by simp) (hb hby d6_8) Bd.notSynchronized ?_ (by decide) (by decide)
  rw [e0]
  exact ⟨rfl, N0, rfl⟩
def Q2_32 (Z : State) (a1c : Addr) (a2c : Addr) (ka2c : ClassId) (x1c : Int32) (x2c : Int32) (x3c : Int32) (x4c : Int32) (x5c : Int32) (h0 : Heap) (n0 : Nat) (v : Option Value) (h : Heap) (L : List Loc) : Prop := ∃ e0 : Addr, ∃ ke0 : ClassId, v = none ∧ Fr n0 L ∧ (Keep h0 h [a1c]) ∧ (Exa Z h a1c "java/lang/String") ∧ (Fld Z h a1c "java/lang/String" "coder" "B" (.int (0 : Int32))) ∧ (Fld Z h a1c "java/lang/String" "value" "[B" (.ref e0)) ∧ (Arv Z h e0 ke0 .byte (4 : Int32) [(.int (lat8 x1c)), (.int (lat8 x2c)), (.int (lat8 x3c)), (.int (lat8 x4c))] (.int (0 : Int32))) ∧ (h0.size ≤ e0)
theorem ef2_rm2_32 (m : MethodId) (a1c : Addr) (a2c : Addr) : entryFrame m #[(.ref a1c), (.ref a2c), (.int (0 : Int32)), (.int (4 : Int32)), .null] 6 = (mkF m 0 #[.val (.ref a1c), .val (.ref a2c), .val (.int 0), .val (.int 4), .val .null, .unset] []) := by first | (simp [entryFrame, mkF, argsToLocals, Value.category, maxLocals]; done) | rfl
set_option maxRecDepth 65536 in
set_option maxHeartbeats 40000000 in
theorem rm2_32 (l : Launch) (Z : State) (a0 : Array Value) (hw : ∀ d ∈ tables_1, d.before a0 Z = true) (ws : List Jvm.Cond) (a1c : Addr) (a2c : Addr) (ka2c : ClassId) (x1c : Int32) (x2c : Int32) (x3c : Int32) (x4c : Int32) (x5c : Int32) (h0 : Heap) (n0 : Nat) (Z0 : n0 ≤ h0.size) (P0 : Exa Z h0 a1c "java/lang/String") (P1 : Fld Z h0 a1c "java/lang/String" "coder" "B" (.int (0 : Int32))) (P2 : Fld Z h0 a1c "java/lang/String" "value" "[B" .null) (P3 : Arv Z h0 a2c ka2c .char (4 : Int32) [(.int x1c), (.int x2c), (.int x3c), (.int x4c)] (.int (0 : Int32))) (P4 : Sta Z h0 "java/lang/String" "COMPACT_STRINGS" "Z" (.int x5c)) (P5 : Sta Z h0 "java/lang/StringUTF16" "$assertionsDisabled" "Z" (.int (1 : Int32))) (P6 : Sta Z h0 "java/lang/StringUTF16" "HI_BYTE_SHIFT" "I" (.int (0 : Int32))) (P7 : Sta Z h0 "java/lang/StringUTF16" "LO_BYTE_SHIFT" "I" (.int (8 : Int32))) (g_a1c : n0 ≤ a1c) (ne_a1c_a2c : a1c ≠ a2c) (u0 : ¬ (x5c = (0 : Int32))) (u1 : ¬ ((255 : Int32) < x1c)) (u2 : ¬ ((255 : Int32) < x2c)) (u3 : ¬ ((255 : Int32) < x3c)) (u4 : ¬ ((255 : Int32) < x4c))   :
    MetFree l Y2 (head1 (Jvm.Cond.code Y2 jdk_42_method_149_code 6 none :: ws) ({ frames := 2, cells := 1, slots := 4, locals := 35 } : Room)) (fun a U => a = #[(.ref a1c), (.ref a2c), (.int (0 : Int32)), (.int (4 : Int32)), .null] ∧ Z.Warmed39 U.vm ∧ U.heap = h0) (fun _ _ _ _ _ => True) (fun _ U o U' => ∃ v L, o = .returned v ∧ (Q2_32 Z a1c a2c ka2c x1c x2c x3c x4c x5c h0 n0) v U'.heap L ∧ FrameEnd U o U' L 1 4) := by
  refine MetFree.of_bodySF (plainFor_of_name pn_java_lang_String) hisR ?_
  intro p e s m args below meth c s₁ Bd hml0 hP hK
  obtain ⟨rfl, hZ, hh⟩ := hP
  have hx := Bd.exec
  have hby := Bd.bytes
  have hml : c.maxLocals = 6 := hml0
  have hown : s.vm.findClass "java/lang/String" = some m.cls := findClass_of_methodNamed Bd.named
  have hnm := (name_of_methodNamed Bd.named Bd.method).1
  have X0 : Stand p l e ({ frames := 2, cells := 1, slots := 4, locals := 35 } : Room) s m #[(.ref a1c), (.ref a2c), (.int (0 : Int32)), (.int (4 : Int32)), .null] below meth c s₁ [] 0 0 := Stand.of_body Bd
  have e0 : s₁.heap = h0 := by rw [← hh, Bd.state]; rfl
  have N0 := Fr.nil n0
  refine GoW.mk ?_
  refine GoW.st (fun t k => castTop (ef2_rm2_32 m a1c a2c) k) ?_
  show GoW p e below s (Q2_32 Z a1c a2c ka2c x1c x2c x3c x4c x5c h0 n0) 1 4 (s₁.setTop (mkF m 0 (Sh0 a1c a2c 0 4) []))
  refine GoW.sg (mkF m 1 (Sh0 a1c a2c 0 4) [(.ref a1c)]) (fun t k => XS.aloadN X0.here hx rfl (hb hby d2_0) rfl rfl k) ?_
  obtain ⟨T578, X578, e578, st578⟩ := initO X0 hx hZ hown (ww hw 11 rfl) (ww hw 12 rfl) (ww hw 13 rfl) e0 (g := (mkF m 1 (Sh0 a1c a2c 0 4) [(.ref a1c)])) rfl (by rw [hml]; rfl) rfl (hb hby d2_1) (by decide) (W := 0) (by show 2 * 0 + _ ≤ _; exact Nat.le_of_eq rfl) (by decide)
  refine GoW.sg (mkF m 4 (Sh0 a1c a2c 0 4) []) (fun t k => st578 t k) ?_
  refine GoW.sg (mkF m 5 (Sh0 a1c a2c 0 4) [(.int 4)]) (fun t k => XS.iloadN X578.here hx rfl (hb hby d2_4) rfl k) ?_
  refine GoW.sg (mkF m 27 (Sh0 a1c a2c 0 4) []) (fun t k => XS.ifYes X578.here hx rfl (pc0 := 5) (pc' := 27) rfl (hb hby d2_5) rfl (by decide) (by decide) (by decide) k) ?_
  obtain ⟨T579, X579, e579, st579⟩ := getS (host := "") X578 hx hZ hown (ww hw 14 rfl) Via.refl e578 P4 (g := (mkF m 27 (Sh0 a1c a2c 0 4) [])) rfl (hb hby d2_27)
  refine GoW.sg (mkF m 30 (Sh0 a1c a2c 0 4) [(.int x5c)]) (fun t k => st579 t k) ?_
  refine GoW.sg (mkF m 33 (Sh0 a1c a2c 0 4) []) (fun t k => XS.ifNo X579.here hx rfl (hb hby d2_30) rfl ((if0 _ _).trans (feq u0).1) k) ?_
  refine GoW.sg (mkF m 34 (Sh0 a1c a2c 0 4) [(.ref a2c)]) (fun t k => XS.aloadN X579.here hx rfl (hb hby d2_33) rfl rfl k) ?_
  refine GoW.sg (mkF m 35 (Sh0 a1c a2c 0 4) [(.int 0), (.ref a2c)]) (fun t k => XS.iloadN X579.here hx rfl (hb hby d2_34) rfl k) ?_
  refine GoW.sg (mkF m 36 (Sh0 a1c a2c 0 4) [(.int 4), (.int 0), (.ref a2c)]) (fun t k => XS.iloadN X579.here hx rfl (hb hby d2_35) rfl k) ?_
  obtain ⟨_, T590, L590, X590, hQ590, st590⟩ := own_callS X579 hx hZ hown (y := Y4) (ww hw 15 rfl) (ww hw 16 rfl) (ww hw 17 rfl) (ww hw 18 rfl) (by decide) 0 (rm4_30 l Z a0 hw [] a2c ka2c x1c x2c x3c x4c x5c h0 n0 Z0 P3 P4 P5 P6 P7   u1 u2 u3 u4 ) (by decide) (by decide) e579 (by decide) (by decide) (g := (mkF m 36 (Sh0 a1c a2c 0 4) [(.int 4), (.int 0), (.ref a2c)])) rfl (by rw [hml]; rfl) (argsL := [(.ref a2c), (.int (0 : Int32)), (.int (4 : Int32))]) (rest := []) (lenOf pd_285bCII295bB rfl) rfl (by show 2 * 0 + _ ≤ _; exact Nat.le_of_eq rfl) (hb hby d2_36)
  obtain ⟨b590_e0, k590_ke0, rfl, N590q, K590, p590_0, hz_b590_e0⟩ := hQ590
  have g_b590_e0 : n0 ≤ b590_e0 := Nat.le_trans Z0 hz_b590_e0
  have sz_b590_e0 : h0.size ≤ b590_e0 := Nat.le_trans (Keep.refl h0 [a1c]).1 hz_b590_e0
  have ne_a1c_b590_e0 : a1c ≠ b590_e0 := Nat.ne_of_lt (Nat.lt_of_lt_of_le P0.lt hz_b590_e0)
  have ne_a2c_b590_e0 : a2c ≠ b590_e0 := Nat.ne_of_lt (Nat.lt_of_lt_of_le P3.lt hz_b590_e0)
  have N590 := Fr.app N0 N590q
  have f590_1 := P0.keep K590
  have f590_2 := P1.keep K590 nin0
  have f590_3 := P2.keep K590 nin0
  have f590_4 := P3.keep K590 nin0
  have f590_5 := own_staK0 P4 K590
  have f590_6 := own_staK0 P5 K590
  have f590_7 := own_staK0 P6 K590
  have f590_8 := own_staK0 P7 K590
  have f590_9 := (Keep.refl h0 [a1c]).trans K590 all0
  have f590_10 := Nat.le_trans Z0 K590.1
  refine GoW.sg (mkF m 39 (Sh0 a1c a2c 0 4) [(.ref b590_e0)]) (fun t k => st590 t k) ?_
  refine GoW.sg (mkF m 41 (Sh12 a1c a2c 0 4 b590_e0) []) (fun t k => XS.astore X590.here hx rfl (hb hby d2_39) rfl rfl (l' := (Sh12 a1c a2c 0 4 b590_e0)) rfl k) ?_
  refine GoW.sg (mkF m 42 (Sh12 a1c a2c 0 4 b590_e0) [(.ref a1c)]) (fun t k => XS.aloadN X590.here hx rfl (hb hby d2_41) rfl rfl k) ?_
  refine GoW.sg (mkF m 44 (Sh12 a1c a2c 0 4 b590_e0) [(.ref b590_e0), (.ref a1c)]) (fun t k => XS.aload X590.here hx rfl (hb hby d2_42) rfl rfl k) ?_
  refine GoW.sg (mkF m 45 (Sh12 a1c a2c 0 4 b590_e0) [(.int 4), (.ref b590_e0), (.ref a1c)]) (fun t k => XS.iloadN X590.here hx rfl (hb hby d2_44) rfl k) ?_
  obtain ⟨_, T591, L591, X591, hQ591, st591⟩ := own_callS X590 hx hZ hown (y := Y6) (ww hw 23 rfl) (ww hw 24 rfl) (ww hw 17 rfl) (ww hw 25 rfl) (by decide) 1 (rm6_31 l Z a0 hw [] b590_e0 k590_ke0 (lat8 x1c) (lat8 x2c) (lat8 x3c) (lat8 x4c) T590.heap n0  p590_0    ) (by decide) (by decide) rfl (by decide) (by decide) (g := (mkF m 45 (Sh12 a1c a2c 0 4 b590_e0) [(.int 4), (.ref b590_e0), (.ref a1c)])) rfl (by rw [hml]; rfl) (argsL := [(.ref b590_e0), (.int (4 : Int32))]) (rest := [(.ref a1c)]) (lenOf pd_285bBI29B rfl) rfl (by show 2 * 0 + _ ≤ _; exact Nat.le_of_eq rfl) (hb hby d2_45)
  obtain ⟨rfl, N591q, e591⟩ := hQ591
  have N591 := Fr.app N590 N591q
  refine GoW.sg (mkF m 48 (Sh12 a1c a2c 0 4 b590_e0) [(.int 0), (.ref a1c)]) (fun t k => st591 t k) ?_
  obtain ⟨T592, h592, X592, e592, W592, st592⟩ := putF X591 hx hZ hown (host := "") (Or.inl (ww hw 26 rfl)) Via.refl e591 f590_2 f590_1 (Or.inr ⟨(ww hw 27 rfl), rfl, hnm⟩) (ww hw 2 rfl) (ty := .byte) (by decide) rfl rfl (g := (mkF m 48 (Sh12 a1c a2c 0 4 b590_e0) [(.int 0), (.ref a1c)])) rfl rfl (hb hby d2_48)
  have N592 := Fr.snoc X592 N591 g_a1c
  have f592_11 := f590_1.wr W592
  have f592_12 := f590_3.other W592 (Or.inr (slot_ne (t := (.array .byte)) (t' := .byte) (Or.inr (ww hw 29 rfl)) (Or.inr (ww hw 27 rfl)) (by decide) (by decide) (by decide)))
  have f592_13 := f590_4.other W592 (Ne.symm ne_a1c_a2c)
  have f592_14 := f590_5.wr W592
  have f592_15 := f590_6.wr W592
  have f592_16 := f590_7.wr W592
  have f592_17 := f590_8.wr W592
  have f592_18 := f590_9.wr W592 (Or.inl (List.mem_of_getElem? (i := 0) rfl))
  have f592_19 := Nat.le_trans f590_10 (Nat.le_of_eq W592.size.symm)
  have f592_20 := p590_0.other W592 (Ne.symm ne_a1c_b590_e0)
  have F592coder : Fld Z h592 a1c "java/lang/String" "coder" "B" (.int (0 : Int32)) := f590_2.same W592
  refine GoW.sg (mkF m 51 (Sh12 a1c a2c 0 4 b590_e0) []) (fun t k => st592 t k) ?_
  refine GoW.sg (mkF m 52 (Sh12 a1c a2c 0 4 b590_e0) [(.ref a1c)]) (fun t k => XS.aloadN X592.here hx rfl (hb hby d2_51) rfl rfl k) ?_
  refine GoW.sg (mkF m 54 (Sh12 a1c a2c 0 4 b590_e0) [(.ref b590_e0), (.ref a1c)]) (fun t k => XS.aload X592.here hx rfl (hb hby d2_52) rfl rfl k) ?_
  obtain ⟨T593, h593, X593, e593, W593, st593⟩ := putF X592 hx hZ hown (host := "") (Or.inl (ww hw 28 rfl)) Via.refl e592 f592_12 f592_11 (Or.inr ⟨(ww hw 29 rfl), rfl, hnm⟩) (ww hw 2 rfl) (ty := (.array .byte)) (by decide) rfl rfl (g := (mkF m 54 (Sh12 a1c a2c 0 4 b590_e0) [(.ref b590_e0), (.ref a1c)])) rfl rfl (hb hby d2_54)
  have N593 := Fr.snoc X593 N592 g_a1c
  have f593_21 := f592_11.wr W593
  have f593_22 := F592coder.other W593 (Or.inr (slot_ne (t := .byte) (t' := (.array .byte)) (Or.inr (ww hw 27 rfl)) (Or.inr (ww hw 29 rfl)) (by decide) (by decide) (by decide)))
  have f593_23 := f592_13.other W593 (Ne.symm ne_a1c_a2c)
  have f593_24 := f592_14.wr W593
  have f593_25 := f592_15.wr W593
  have f593_26 := f592_16.wr W593
  have f593_27 := f592_17.wr W593
  have f593_28 := f592_18.wr W593 (Or.inl (List.mem_of_getElem? (i := 0) rfl))
  have f593_29 := Nat.le_trans f592_19 (Nat.le_of_eq W593.size.symm)
  have f593_30 := f592_20.other W593 (Ne.symm ne_a1c_b590_e0)
  have F593value : Fld Z h593 a1c "java/lang/String" "value" "[B" (.ref b590_e0) := f592_12.same W593
  refine GoW.sg (mkF m 57 (Sh12 a1c a2c 0 4 b590_e0) []) (fun t k => st593 t k) ?_
  refine GoW.retV X593 hx Bd.returns (hb hby d2_57) Bd.notSynchronized ?_ (by decide) (by decide)
  rw [e593]
  exact ⟨b590_e0, k590_ke0, rfl, N593, f593_28, f593_21, f593_22, F593value, f593_30, sz_b590_e0⟩
def Q1_34 (Z : State) (a1c : Addr) (a2c : Addr) (ka2c : ClassId) (x1c : Int32) (x2c : Int32) (x3c : Int32) (x4c : Int32) (x5c : Int32) (h0 : Heap) (n0 : Nat) (v : Option Value) (h : Heap) (L : List Loc) : Prop := ∃ e0 : Addr, ∃ ke0 : ClassId, v = none ∧ Fr n0 L ∧ (Keep h0 h [a1c]) ∧ (Exa Z h a1c "java/lang/String") ∧ (Fld Z h a1c "java/lang/String" "coder" "B" (.int (1 : Int32))) ∧ (Fld Z h a1c "java/lang/String" "value" "[B" (.ref e0)) ∧ (Arv Z h e0 ke0 .byte (8 : Int32) [(.int (lo8 x1c)), (.int (hi8 x1c)), (.int (lo8 x2c)), (.int (hi8 x2c)), (.int (lo8 x3c)), (.int (hi8 x3c)), (.int (lo8 x4c)), (.int (hi8 x4c))] (.int (0 : Int32))) ∧ (h0.size ≤ e0)
theorem ef1_rm1_34 (m : MethodId) (a1c : Addr) (a2c : Addr) : entryFrame m #[(.ref a1c), (.ref a2c)] 2 = (mkF m 0 #[.val (.ref a1c), .val (.ref a2c)] []) := by first | (simp [entryFrame, mkF, argsToLocals, Value.category, maxLocals]; done) | rfl
set_option maxRecDepth 65536 in
set_option maxHeartbeats 40000000 in
theorem rm1_34 (l : Launch) (Z : State) (a0 : Array Value) (hw : ∀ d ∈ tables_1, d.before a0 Z = true) (ws : List Jvm.Cond) (a1c : Addr) (a2c : Addr) (ka2c : ClassId) (x1c : Int32) (x2c : Int32) (x3c : Int32) (x4c : Int32) (x5c : Int32) (h0 : Heap) (n0 : Nat) (Z0 : n0 ≤ h0.size) (P0 : Exa Z h0 a1c "java/lang/String") (P1 : Fld Z h0 a1c "java/lang/String" "coder" "B" (.int (0 : Int32))) (P2 : Fld Z h0 a1c "java/lang/String" "value" "[B" .null) (P3 : Arv Z h0 a2c ka2c .char (4 : Int32) [(.int x1c), (.int x2c), (.int x3c), (.int x4c)] (.int (0 : Int32))) (P4 : Sta Z h0 "java/lang/String" "COMPACT_STRINGS" "Z" (.int x5c)) (P5 : Sta Z h0 "java/lang/StringUTF16" "$assertionsDisabled" "Z" (.int (1 : Int32))) (P6 : Sta Z h0 "java/lang/StringUTF16" "HI_BYTE_SHIFT" "I" (.int (0 : Int32))) (P7 : Sta Z h0 "java/lang/StringUTF16" "LO_BYTE_SHIFT" "I" (.int (8 : Int32))) (g_a1c : n0 ≤ a1c) (ne_a1c_a2c : a1c ≠ a2c) (u0 : ¬ (x1c < (0 : Int32))) (u1 : ¬ ((65535 : Int32) < x1c)) (u2 : ¬ (x5c = (0 : Int32))) (u3 : (255 : Int32) < x1c)   :
    MetFree l Y1 (head1 (Jvm.Cond.code Y1 jdk_42_method_3_code 2 none :: ws) ({ frames := 5, cells := 2, slots := 12, locals := 74 } : Room)) (fun a U => a = #[(.ref a1c), (.ref a2c)] ∧ Z.Warmed39 U.vm ∧ U.heap = h0) (fun _ _ _ _ _ => True) (fun _ U o U' => ∃ v L, o = .returned v ∧ (Q1_34 Z a1c a2c ka2c x1c x2c x3c x4c x5c h0 n0) v U'.heap L ∧ FrameEnd U o U' L 2 12) := by
  refine MetFree.of_bodySF (plainFor_of_name pn_java_lang_String) hisR ?_
  intro p e s m args below meth c s₁ Bd hml0 hP hK
  obtain ⟨rfl, hZ, hh⟩ := hP
  have hx := Bd.exec
  have hby := Bd.bytes
  have hml : c.maxLocals = 2 := hml0
  have hown : s.vm.findClass "java/lang/String" = some m.cls := findClass_of_methodNamed Bd.named
  have hnm := (name_of_methodNamed Bd.named Bd.method).1
  have X0 : Stand p l e ({ frames := 5, cells := 2, slots := 12, locals := 74 } : Room) s m #[(.ref a1c), (.ref a2c)] below meth c s₁ [] 0 0 := Stand.of_body Bd
  have e0 : s₁.heap = h0 := by rw [← hh, Bd.state]; rfl
  have N0 := Fr.nil n0
  refine GoW.mk ?_
  refine GoW.st (fun t k => castTop (ef1_rm1_34 m a1c a2c) k) ?_
  show GoW p e below s (Q1_34 Z a1c a2c ka2c x1c x2c x3c x4c x5c h0 n0) 2 12 (s₁.setTop (mkF m 0 #[.val (.ref a1c), .val (.ref a2c)] []))
  refine GoW.sg (mkF m 1 #[.val (.ref a1c), .val (.ref a2c)] [(.ref a1c)]) (fun t k => XS.aloadN X0.here hx rfl (hb hby d1_0) rfl rfl k) ?_
  refine GoW.sg (mkF m 2 #[.val (.ref a1c), .val (.ref a2c)] [(.ref a2c), (.ref a1c)]) (fun t k => XS.aloadN X0.here hx rfl (hb hby d1_1) rfl rfl k) ?_
  refine GoW.sg (mkF m 3 #[.val (.ref a1c), .val (.ref a2c)] [(.int 0), (.ref a2c), (.ref a1c)]) (fun t k => XS.iconst X0.here hx rfl (hb hby d1_2) k) ?_
  refine GoW.sg (mkF m 4 #[.val (.ref a1c), .val (.ref a2c)] [(.ref a2c), (.int 0), (.ref a2c), (.ref a1c)]) (fun t k => XS.aloadN X0.here hx rfl (hb hby d1_3) rfl rfl k) ?_
  obtain ⟨cl605, Ar605, q605, Sz605, Nn605, Hh605, Gg605⟩ := id P3
  have st605 := X0.arraylength hx (hq_ e0 Ar605.1) (State.isArrayOf_alike hZ.alike Ar605.2.1) (g := (mkF m 4 #[.val (.ref a1c), .val (.ref a2c)] [(.ref a2c), (.int 0), (.ref a2c), (.ref a1c)])) rfl rfl (hb hby d1_4)
  rw [len_of Sz605 Nn605] at st605
  refine GoW.sg (mkF m 5 #[.val (.ref a1c), .val (.ref a2c)] [(.int 4), (.int 0), (.ref a2c), (.ref a1c)]) (fun t k => st605 t k) ?_
  refine GoW.sg (mkF m 6 #[.val (.ref a1c), .val (.ref a2c)] [.null, (.int 4), (.int 0), (.ref a2c), (.ref a1c)]) (fun t k => XS.aconstNull X0.here hx rfl (hb hby d1_5) k) ?_
  obtain ⟨_, _, ⟨T606, L606, k606, n606⟩, -, X606, ⟨Lc606, hQ606, l606, y606, z606⟩, st606⟩ := X0.specialBack hx (y := Y2) rfl hown (mvT hZ (ww hw 7 rfl)) (mvT hZ (ww hw 8 rfl)) (mvT hZ (ww hw 10 rfl)) (by decide) (backOf (W := 0) (rm2_12 l Z a0 hw [] a1c a2c ka2c x1c x2c x3c x4c x5c h0 n0 Z0 P0 P1 P2 P3 P4 P5 P6 P7 g_a1c ne_a1c_a2c u0 u1 u2 u3 ) hZ (ww hw 10 rfl) (ww hw 3 rfl) (by decide) (by decide)) (g := (mkF m 6 #[.val (.ref a1c), .val (.ref a2c)] [.null, (.int 4), (.int 0), (.ref a2c), (.ref a1c)])) rfl (by rw [hml]; rfl) (Steps.refl _) (a := a1c) (argsL := [(.ref a2c), (.int (0 : Int32)), (.int (4 : Int32)), .null]) (rest := []) (lenOf pd_285bCIILjava2flang2fVoid3b29V rfl) rfl (by show 2 * 0 + _ ≤ _; exact Nat.le_of_eq rfl) (hb hby d1_6) (fun _ _ => ⟨rfl, e0, (by decide : 0 + 2 ≤ _), (by decide : 0 + 12 ≤ _)⟩)
  dsimp only [Pt.U, Pt.locs, Pt.cells, Pt.slots] at X606 l606 y606 z606 st606 hQ606
  subst l606 y606 z606
  obtain ⟨b606_e0, k606_ke0, rfl, N606q, K606, p606_0, p606_1, p606_2, p606_3, hz_b606_e0⟩ := hQ606
  have g_b606_e0 : n0 ≤ b606_e0 := Nat.le_trans Z0 hz_b606_e0
  have sz_b606_e0 : h0.size ≤ b606_e0 := Nat.le_trans (Keep.refl h0 [a1c]).1 hz_b606_e0
  have ne_a1c_b606_e0 : a1c ≠ b606_e0 := Nat.ne_of_lt (Nat.lt_of_lt_of_le P0.lt hz_b606_e0)
  have ne_a2c_b606_e0 : a2c ≠ b606_e0 := Nat.ne_of_lt (Nat.lt_of_lt_of_le P3.lt hz_b606_e0)
  have N606 := Fr.app N0 N606q
  have f606_1 := P3.keep K606 (ninS (Ne.symm ne_a1c_a2c) nin0)
  have f606_2 := own_staK P4 K606 (allS (own_nsE P0) all0)
  have f606_3 := own_staK P5 K606 (allS (own_nsE P0) all0)
  have f606_4 := own_staK P6 K606 (allS (own_nsE P0) all0)
  have f606_5 := own_staK P7 K606 (allS (own_nsE P0) all0)
  have f606_6 := (Keep.refl h0 [a1c]).trans K606 (allS (Or.inl (List.mem_of_getElem? (i := 0) rfl)) all0)
  have f606_7 := Nat.le_trans Z0 K606.1
  refine GoW.sg (mkF m 9 #[.val (.ref a1c), .val (.ref a2c)] []) (fun t k => st606.trans k) ?_
  refine GoW.retV X606 hx Bd.returns (hb hby d1_9) Bd.notSynchronized ?_ (by decide) (by decide)
  exact ⟨b606_e0, k606_ke0, rfl, N606, f606_6, p606_0, p606_1, p606_2, p606_3, sz_b606_e0⟩
def Q1_35 (Z : State) (a1c : Addr) (a2c : Addr) (ka2c : ClassId) (x1c : Int32) (x2c : Int32) (x3c : Int32) (x4c : Int32) (x5c : Int32) (h0 : Heap) (n0 : Nat) (v : Option Value) (h : Heap) (L : List Loc) : Prop := ∃ e0 : Addr, ∃ ke0 : ClassId, v = none ∧ Fr n0 L ∧ (Keep h0 h [a1c]) ∧ (Exa Z h a1c "java/lang/String") ∧ (Fld Z h a1c "java/lang/String" "coder" "B" (.int (1 : Int32))) ∧ (Fld Z h a1c "java/lang/String" "value" "[B" (.ref e0)) ∧ (Arv Z h e0 ke0 .byte (8 : Int32) [(.int (lo8 x1c)), (.int (hi8 x1c)), (.int (lo8 x2c)), (.int (hi8 x2c)), (.int (lo8 x3c)), (.int (hi8 x3c)), (.int (lo8 x4c)), (.int (hi8 x4c))] (.int (0 : Int32))) ∧ (h0.size ≤ e0)
theorem ef1_rm1_35 (m : MethodId) (a1c : Addr) (a2c : Addr) : entryFrame m #[(.ref a1c), (.ref a2c)] 2 = (mkF m 0 #[.val (.ref a1c), .val (.ref a2c)] []) := by first | (simp [entryFrame, mkF, argsToLocals, Value.category, maxLocals]; done) | rfl
set_option maxRecDepth 65536 in
set_option maxHeartbeats 40000000 in
theorem rm1_35 (l : Launch) (Z : State) (a0 : Array Value) (hw : ∀ d ∈ tables_1, d.before a0 Z = true) (ws : List Jvm.Cond) (a1c : Addr) (a2c : Addr) (ka2c : ClassId) (x1c : Int32) (x2c : Int32) (x3c : Int32) (x4c : Int32) (x5c : Int32) (h0 : Heap) (n0 : Nat) (Z0 : n0 ≤ h0.size) (P0 : Exa Z h0 a1c "java/lang/String") (P1 : Fld Z h0 a1c "java/lang/String" "coder" "B" (.int (0 : Int32))) (P2 : Fld Z h0 a1c "java/lang/String" "value" "[B" .null) (P3 : Arv Z h0 a2c ka2c .char (4 : Int32) [(.int x1c), (.int x2c), (.int x3c), (.int x4c)] (.int (0 : Int32))) (P4 : Sta Z h0 "java/lang/String" "COMPACT_STRINGS" "Z" (.int x5c)) (P5 : Sta Z h0 "java/lang/StringUTF16" "$assertionsDisabled" "Z" (.int (1 : Int32))) (P6 : Sta Z h0 "java/lang/StringUTF16" "HI_BYTE_SHIFT" "I" (.int (0 : Int32))) (P7 : Sta Z h0 "java/lang/StringUTF16" "LO_BYTE_SHIFT" "I" (.int (8 : Int32))) (g_a1c : n0 ≤ a1c) (ne_a1c_a2c : a1c ≠ a2c) (u0 : ¬ (x2c < (0 : Int32))) (u1 : ¬ ((65535 : Int32) < x2c)) (u2 : ¬ (x5c = (0 : Int32))) (u3 : ¬ ((255 : Int32) < x1c)) (u4 : (255 : Int32) < x2c)   :
    MetFree l Y1 (head1 (Jvm.Cond.code Y1 jdk_42_method_3_code 2 none :: ws) ({ frames := 5, cells := 2, slots := 12, locals := 74 } : Room)) (fun a U => a = #[(.ref a1c), (.ref a2c)] ∧ Z.Warmed39 U.vm ∧ U.heap = h0) (fun _ _ _ _ _ => True) (fun _ U o U' => ∃ v L, o = .returned v ∧ (Q1_35 Z a1c a2c ka2c x1c x2c x3c x4c x5c h0 n0) v U'.heap L ∧ FrameEnd U o U' L 2 12) := by
  refine MetFree.of_bodySF (plainFor_of_name pn_java_lang_String) hisR ?_
  intro p e s m args below meth c s₁ Bd hml0 hP hK
  obtain ⟨rfl, hZ, hh⟩ := hP
  have hx := Bd.exec
  have hby := Bd.bytes
  have hml : c.maxLocals = 2 := hml0
  have hown : s.vm.findClass "java/lang/String" = some m.cls := findClass_of_methodNamed Bd.named
  have hnm := (name_of_methodNamed Bd.named Bd.method).1
  have X0 : Stand p l e ({ frames := 5, cells := 2, slots := 12, locals := 74 } : Room) s m #[(.ref a1c), (.ref a2c)] below meth c s₁ [] 0 0 := Stand.of_body Bd
  have e0 : s₁.heap = h0 := by rw [← hh, Bd.state]; rfl
  have N0 := Fr.nil n0
  refine GoW.mk ?_
  refine GoW.st (fun t k => castTop (ef1_rm1_35 m a1c a2c) k) ?_
  show GoW p e below s (Q1_35 Z a1c a2c ka2c x1c x2c x3c x4c x5c h0 n0) 2 12 (s₁.setTop (mkF m 0 #[.val (.ref a1c), .val (.ref a2c)] []))
  refine GoW.sg (mkF m 1 #[.val (.ref a1c), .val (.ref a2c)] [(.ref a1c)]) (fun t k => XS.aloadN X0.here hx rfl (hb hby d1_0) rfl rfl k) ?_
  refine GoW.sg (mkF m 2 #[.val (.ref a1c), .val (.ref a2c)] [(.ref a2c), (.ref a1c)]) (fun t k => XS.aloadN X0.here hx rfl (hb hby d1_1) rfl rfl k) ?_
  refine GoW.sg (mkF m 3 #[.val (.ref a1c), .val (.ref a2c)] [(.int 0), (.ref a2c), (.ref a1c)]) (fun t k => XS.iconst X0.here hx rfl (hb hby d1_2) k) ?_
  refine GoW.sg (mkF m 4 #[.val (.ref a1c), .val (.ref a2c)] [(.ref a2c), (.int 0), (.ref a2c), (.ref a1c)]) (fun t k => XS.aloadN X0.here hx rfl (hb hby d1_3) rfl rfl k) ?_
  obtain ⟨cl609, Ar609, q609, Sz609, Nn609, Hh609, Gg609⟩ := id P3
  have st609 := X0.arraylength hx (hq_ e0 Ar609.1) (State.isArrayOf_alike hZ.alike Ar609.2.1) (g := (mkF m 4 #[.val (.ref a1c), .val (.ref a2c)] [(.ref a2c), (.int 0), (.ref a2c), (.ref a1c)])) rfl rfl (hb hby d1_4)
  rw [len_of Sz609 Nn609] at st609
  refine GoW.sg (mkF m 5 #[.val (.ref a1c), .val (.ref a2c)] [(.int 4), (.int 0), (.ref a2c), (.ref a1c)]) (fun t k => st609 t k) ?_
  refine GoW.sg (mkF m 6 #[.val (.ref a1c), .val (.ref a2c)] [.null, (.int 4), (.int 0), (.ref a2c), (.ref a1c)]) (fun t k => XS.aconstNull X0.here hx rfl (hb hby d1_5) k) ?_
  obtain ⟨_, _, ⟨T610, L610, k610, n610⟩, -, X610, ⟨Lc610, hQ610, l610, y610, z610⟩, st610⟩ := X0.specialBack hx (y := Y2) rfl hown (mvT hZ (ww hw 7 rfl)) (mvT hZ (ww hw 8 rfl)) (mvT hZ (ww hw 10 rfl)) (by decide) (backOf (W := 0) (rm2_17 l Z a0 hw [] a1c a2c ka2c x1c x2c x3c x4c x5c h0 n0 Z0 P0 P1 P2 P3 P4 P5 P6 P7 g_a1c ne_a1c_a2c u0 u1 u2 u3 u4 ) hZ (ww hw 10 rfl) (ww hw 3 rfl) (by decide) (by decide)) (g := (mkF m 6 #[.val (.ref a1c), .val (.ref a2c)] [.null, (.int 4), (.int 0), (.ref a2c), (.ref a1c)])) rfl (by rw [hml]; rfl) (Steps.refl _) (a := a1c) (argsL := [(.ref a2c), (.int (0 : Int32)), (.int (4 : Int32)), .null]) (rest := []) (lenOf pd_285bCIILjava2flang2fVoid3b29V rfl) rfl (by show 2 * 0 + _ ≤ _; exact Nat.le_of_eq rfl) (hb hby d1_6) (fun _ _ => ⟨rfl, e0, (by decide : 0 + 2 ≤ _), (by decide : 0 + 12 ≤ _)⟩)
  dsimp only [Pt.U, Pt.locs, Pt.cells, Pt.slots] at X610 l610 y610 z610 st610 hQ610
  subst l610 y610 z610
  obtain ⟨b610_e0, k610_ke0, rfl, N610q, K610, p610_0, p610_1, p610_2, p610_3, hz_b610_e0⟩ := hQ610
  have g_b610_e0 : n0 ≤ b610_e0 := Nat.le_trans Z0 hz_b610_e0
  have sz_b610_e0 : h0.size ≤ b610_e0 := Nat.le_trans (Keep.refl h0 [a1c]).1 hz_b610_e0
  have ne_a1c_b610_e0 : a1c ≠ b610_e0 := Nat.ne_of_lt (Nat.lt_of_lt_of_le P0.lt hz_b610_e0)
  have ne_a2c_b610_e0 : a2c ≠ b610_e0 := Nat.ne_of_lt (Nat.lt_of_lt_of_le P3.lt hz_b610_e0)
  have N610 := Fr.app N0 N610q
  have f610_1 := P3.keep K610 (ninS (Ne.symm ne_a1c_a2c) nin0)
  have f610_2 := own_staK P4 K610 (allS (own_nsE P0) all0)
  have f610_3 := own_staK P5 K610 (allS (own_nsE P0) all0)
  have f610_4 := own_staK P6 K610 (allS (own_nsE P0) all0)
  have f610_5 := own_staK P7 K610 (allS (own_nsE P0) all0)
  have f610_6 := (Keep.refl h0 [a1c]).trans K610 (allS (Or.inl (List.mem_of_getElem? (i := 0) rfl)) all0)
  have f610_7 := Nat.le_trans Z0 K610.1
  refine GoW.sg (mkF m 9 #[.val (.ref a1c), .val (.ref a2c)] []) (fun t k => st610.trans k) ?_
  refine GoW.retV X610 hx Bd.returns (hb hby d1_9) Bd.notSynchronized ?_ (by decide) (by decide)
  exact ⟨b610_e0, k610_ke0, rfl, N610, f610_6, p610_0, p610_1, p610_2, p610_3, sz_b610_e0⟩
def Q1_36 (Z : State) (a1c : Addr) (a2c : Addr) (ka2c : ClassId) (x1c : Int32) (x2c : Int32) (x3c : Int32) (x4c : Int32) (x5c : Int32) (h0 : Heap) (n0 : Nat) (v : Option Value) (h : Heap) (L : List Loc) : Prop := ∃ e0 : Addr, ∃ ke0 : ClassId, v = none ∧ Fr n0 L ∧ (Keep h0 h [a1c]) ∧ (Exa Z h a1c "java/lang/String") ∧ (Fld Z h a1c "java/lang/String" "coder" "B" (.int (1 : Int32))) ∧ (Fld Z h a1c "java/lang/String" "value" "[B" (.ref e0)) ∧ (Arv Z h e0 ke0 .byte (8 : Int32) [(.int (lo8 x1c)), (.int (hi8 x1c)), (.int (lo8 x2c)), (.int (hi8 x2c)), (.int (lo8 x3c)), (.int (hi8 x3c)), (.int (lo8 x4c)), (.int (hi8 x4c))] (.int (0 : Int32))) ∧ (h0.size ≤ e0)
theorem ef1_rm1_36 (m : MethodId) (a1c : Addr) (a2c : Addr) : entryFrame m #[(.ref a1c), (.ref a2c)] 2 = (mkF m 0 #[.val (.ref a1c), .val (.ref a2c)] []) := by first | (simp [entryFrame, mkF, argsToLocals, Value.category, maxLocals]; done) | rfl
set_option maxRecDepth 65536 in
set_option maxHeartbeats 40000000 in
theorem rm1_36 (l : Launch) (Z : State) (a0 : Array Value) (hw : ∀ d ∈ tables_1, d.before a0 Z = true) (ws : List Jvm.Cond) (a1c : Addr) (a2c : Addr) (ka2c : ClassId) (x1c : Int32) (x2c : Int32) (x3c : Int32) (x4c : Int32) (x5c : Int32) (h0 : Heap) (n0 : Nat) (Z0 : n0 ≤ h0.size) (P0 : Exa Z h0 a1c "java/lang/String") (P1 : Fld Z h0 a1c "java/lang/String" "coder" "B" (.int (0 : Int32))) (P2 : Fld Z h0 a1c "java/lang/String" "value" "[B" .null) (P3 : Arv Z h0 a2c ka2c .char (4 : Int32) [(.int x1c), (.int x2c), (.int x3c), (.int x4c)] (.int (0 : Int32))) (P4 : Sta Z h0 "java/lang/String" "COMPACT_STRINGS" "Z" (.int x5c)) (P5 : Sta Z h0 "java/lang/StringUTF16" "$assertionsDisabled" "Z" (.int (1 : Int32))) (P6 : Sta Z h0 "java/lang/StringUTF16" "HI_BYTE_SHIFT" "I" (.int (0 : Int32))) (P7 : Sta Z h0 "java/lang/StringUTF16" "LO_BYTE_SHIFT" "I" (.int (8 : Int32))) (g_a1c : n0 ≤ a1c) (ne_a1c_a2c : a1c ≠ a2c) (u0 : ¬ (x3c < (0 : Int32))) (u1 : ¬ ((65535 : Int32) < x3c)) (u2 : ¬ (x5c = (0 : Int32))) (u3 : ¬ ((255 : Int32) < x1c)) (u4 : ¬ ((255 : Int32) < x2c)) (u5 : (255 : Int32) < x3c)   :
    MetFree l Y1 (head1 (Jvm.Cond.code Y1 jdk_42_method_3_code 2 none :: ws) ({ frames := 5, cells := 2, slots := 12, locals := 74 } : Room)) (fun a U => a = #[(.ref a1c), (.ref a2c)] ∧ Z.Warmed39 U.vm ∧ U.heap = h0) (fun _ _ _ _ _ => True) (fun _ U o U' => ∃ v L, o = .returned v ∧ (Q1_36 Z a1c a2c ka2c x1c x2c x3c x4c x5c h0 n0) v U'.heap L ∧ FrameEnd U o U' L 2 12) := by
  refine MetFree.of_bodySF (plainFor_of_name pn_java_lang_String) hisR ?_
  intro p e s m args below meth c s₁ Bd hml0 hP hK
  obtain ⟨rfl, hZ, hh⟩ := hP
  have hx := Bd.exec
  have hby := Bd.bytes
  have hml : c.maxLocals = 2 := hml0
  have hown : s.vm.findClass "java/lang/String" = some m.cls := findClass_of_methodNamed Bd.named
  have hnm := (name_of_methodNamed Bd.named Bd.method).1
  have X0 : Stand p l e ({ frames := 5, cells := 2, slots := 12, locals := 74 } : Room) s m #[(.ref a1c), (.ref a2c)] below meth c s₁ [] 0 0 := Stand.of_body Bd
  have e0 : s₁.heap = h0 := by rw [← hh, Bd.state]; rfl
  have N0 := Fr.nil n0
  refine GoW.mk ?_
  refine GoW.st (fun t k => castTop (ef1_rm1_36 m a1c a2c) k) ?_
  show GoW p e below s (Q1_36 Z a1c a2c ka2c x1c x2c x3c x4c x5c h0 n0) 2 12 (s₁.setTop (mkF m 0 #[.val (.ref a1c), .val (.ref a2c)] []))
  refine GoW.sg (mkF m 1 #[.val (.ref a1c), .val (.ref a2c)] [(.ref a1c)]) (fun t k => XS.aloadN X0.here hx rfl (hb hby d1_0) rfl rfl k) ?_
  refine GoW.sg (mkF m 2 #[.val (.ref a1c), .val (.ref a2c)] [(.ref a2c), (.ref a1c)]) (fun t k => XS.aloadN X0.here hx rfl (hb hby d1_1) rfl rfl k) ?_
  refine GoW.sg (mkF m 3 #[.val (.ref a1c), .val (.ref a2c)] [(.int 0), (.ref a2c), (.ref a1c)]) (fun t k => XS.iconst X0.here hx rfl (hb hby d1_2) k) ?_
  refine GoW.sg (mkF m 4 #[.val (.ref a1c), .val (.ref a2c)] [(.ref a2c), (.int 0), (.ref a2c), (.ref a1c)]) (fun t k => XS.aloadN X0.here hx rfl (hb hby d1_3) rfl rfl k) ?_
  obtain ⟨cl613, Ar613, q613, Sz613, Nn613, Hh613, Gg613⟩ := id P3
  have st613 := X0.arraylength hx (hq_ e0 Ar613.1) (State.isArrayOf_alike hZ.alike Ar613.2.1) (g := (mkF m 4 #[.val (.ref a1c), .val (.ref a2c)] [(.ref a2c), (.int 0), (.ref a2c), (.ref a1c)])) rfl rfl (hb hby d1_4)
  rw [len_of Sz613 Nn613] at st613
  refine GoW.sg (mkF m 5 #[.val (.ref a1c), .val (.ref a2c)] [(.int 4), (.int 0), (.ref a2c), (.ref a1c)]) (fun t k => st613 t k) ?_
  refine GoW.sg (mkF m 6 #[.val (.ref a1c), .val (.ref a2c)] [.null, (.int 4), (.int 0), (.ref a2c), (.ref a1c)]) (fun t k => XS.aconstNull X0.here hx rfl (hb hby d1_5) k) ?_
  obtain ⟨_, _, ⟨T614, L614, k614, n614⟩, -, X614, ⟨Lc614, hQ614, l614, y614, z614⟩, st614⟩ := X0.specialBack hx (y := Y2) rfl hown (mvT hZ (ww hw 7 rfl)) (mvT hZ (ww hw 8 rfl)) (mvT hZ (ww hw 10 rfl)) (by decide) (backOf (W := 0) (rm2_22 l Z a0 hw [] a1c a2c ka2c x1c x2c x3c x4c x5c h0 n0 Z0 P0 P1 P2 P3 P4 P5 P6 P7 g_a1c ne_a1c_a2c u0 u1 u2 u3 u4 u5 ) hZ (ww hw 10 rfl) (ww hw 3 rfl) (by decide) (by decide)) (g := (mkF m 6 #[.val (.ref a1c), .val (.ref a2c)] [.null, (.int 4), (.int 0), (.ref a2c), (.ref a1c)])) rfl (by rw [hml]; rfl) (Steps.refl _) (a := a1c) (argsL := [(.ref a2c), (.int (0 : Int32)), (.int (4 : Int32)), .null]) (rest := []) (lenOf pd_285bCIILjava2flang2fVoid3b29V rfl) rfl (by show 2 * 0 + _ ≤ _; exact Nat.le_of_eq rfl) (hb hby d1_6) (fun _ _ => ⟨rfl, e0, (by decide : 0 + 2 ≤ _), (by decide : 0 + 12 ≤ _)⟩)
  dsimp only [Pt.U, Pt.locs, Pt.cells, Pt.slots] at X614 l614 y614 z614 st614 hQ614
  subst l614 y614 z614
  obtain ⟨b614_e0, k614_ke0, rfl, N614q, K614, p614_0, p614_1, p614_2, p614_3, hz_b614_e0⟩ := hQ614
  have g_b614_e0 : n0 ≤ b614_e0 := Nat.le_trans Z0 hz_b614_e0
  have sz_b614_e0 : h0.size ≤ b614_e0 := Nat.le_trans (Keep.refl h0 [a1c]).1 hz_b614_e0
  have ne_a1c_b614_e0 : a1c ≠ b614_e0 := Nat.ne_of_lt (Nat.lt_of_lt_of_le P0.lt hz_b614_e0)
  have ne_a2c_b614_e0 : a2c ≠ b614_e0 := Nat.ne_of_lt (Nat.lt_of_lt_of_le P3.lt hz_b614_e0)
  have N614 := Fr.app N0 N614q
  have f614_1 := P3.keep K614 (ninS (Ne.symm ne_a1c_a2c) nin0)
  have f614_2 := own_staK P4 K614 (allS (own_nsE P0) all0)
  have f614_3 := own_staK P5 K614 (allS (own_nsE P0) all0)
  have f614_4 := own_staK P6 K614 (allS (own_nsE P0) all0)
  have f614_5 := own_staK P7 K614 (allS (own_nsE P0) all0)
  have f614_6 := (Keep.refl h0 [a1c]).trans K614 (allS (Or.inl (List.mem_of_getElem? (i := 0) rfl)) all0)
  have f614_7 := Nat.le_trans Z0 K614.1
  refine GoW.sg (mkF m 9 #[.val (.ref a1c), .val (.ref a2c)] []) (fun t k => st614.trans k) ?_
  refine GoW.retV X614 hx Bd.returns (hb hby d1_9) Bd.notSynchronized ?_ (by decide) (by decide)
  exact ⟨b614_e0, k614_ke0, rfl, N614, f614_6, p614_0, p614_1, p614_2, p614_3, sz_b614_e0⟩
def Q1_37 (Z : State) (a1c : Addr) (a2c : Addr) (ka2c : ClassId) (x1c : Int32) (x2c : Int32) (x3c : Int32) (x4c : Int32) (x5c : Int32) (h0 : Heap) (n0 : Nat) (v : Option Value) (h : Heap) (L : List Loc) : Prop := ∃ e0 : Addr, ∃ ke0 : ClassId, v = none ∧ Fr n0 L ∧ (Keep h0 h [a1c]) ∧ (Exa Z h a1c "java/lang/String") ∧ (Fld Z h a1c "java/lang/String" "coder" "B" (.int (1 : Int32))) ∧ (Fld Z h a1c "java/lang/String" "value" "[B" (.ref e0)) ∧ (Arv Z h e0 ke0 .byte (8 : Int32) [(.int (lo8 x1c)), (.int (hi8 x1c)), (.int (lo8 x2c)), (.int (hi8 x2c)), (.int (lo8 x3c)), (.int (hi8 x3c)), (.int (lo8 x4c)), (.int (hi8 x4c))] (.int (0 : Int32))) ∧ (h0.size ≤ e0)
theorem ef1_rm1_37 (m : MethodId) (a1c : Addr) (a2c : Addr) : entryFrame m #[(.ref a1c), (.ref a2c)] 2 = (mkF m 0 #[.val (.ref a1c), .val (.ref a2c)] []) := by first | (simp [entryFrame, mkF, argsToLocals, Value.category, maxLocals]; done) | rfl
set_option maxRecDepth 65536 in
set_option maxHeartbeats 40000000 in
theorem rm1_37 (l : Launch) (Z : State) (a0 : Array Value) (hw : ∀ d ∈ tables_1, d.before a0 Z = true) (ws : List Jvm.Cond) (a1c : Addr) (a2c : Addr) (ka2c : ClassId) (x1c : Int32) (x2c : Int32) (x3c : Int32) (x4c : Int32) (x5c : Int32) (h0 : Heap) (n0 : Nat) (Z0 : n0 ≤ h0.size) (P0 : Exa Z h0 a1c "java/lang/String") (P1 : Fld Z h0 a1c "java/lang/String" "coder" "B" (.int (0 : Int32))) (P2 : Fld Z h0 a1c "java/lang/String" "value" "[B" .null) (P3 : Arv Z h0 a2c ka2c .char (4 : Int32) [(.int x1c), (.int x2c), (.int x3c), (.int x4c)] (.int (0 : Int32))) (P4 : Sta Z h0 "java/lang/String" "COMPACT_STRINGS" "Z" (.int x5c)) (P5 : Sta Z h0 "java/lang/StringUTF16" "$assertionsDisabled" "Z" (.int (1 : Int32))) (P6 : Sta Z h0 "java/lang/StringUTF16" "HI_BYTE_SHIFT" "I" (.int (0 : Int32))) (P7 : Sta Z h0 "java/lang/StringUTF16" "LO_BYTE_SHIFT" "I" (.int (8 : Int32))) (g_a1c : n0 ≤ a1c) (ne_a1c_a2c : a1c ≠ a2c) (u0 : ¬ (x4c < (0 : Int32))) (u1 : ¬ ((65535 : Int32) < x4c)) (u2 : ¬ (x5c = (0 : Int32))) (u3 : ¬ ((255 : Int32) < x1c)) (u4 : ¬ ((255 : Int32) < x2c)) (u5 : ¬ ((255 : Int32) < x3c)) (u6 : (255 : Int32) < x4c)   :
    MetFree l Y1 (head1 (Jvm.Cond.code Y1 jdk_42_method_3_code 2 none :: ws) ({ frames := 5, cells := 2, slots := 12, locals := 74 } : Room)) (fun a U => a = #[(.ref a1c), (.ref a2c)] ∧ Z.Warmed39 U.vm ∧ U.heap = h0) (fun _ _ _ _ _ => True) (fun _ U o U' => ∃ v L, o = .returned v ∧ (Q1_37 Z a1c a2c ka2c x1c x2c x3c x4c x5c h0 n0) v U'.heap L ∧ FrameEnd U o U' L 2 12) := by
  refine MetFree.of_bodySF (plainFor_of_name pn_java_lang_String) hisR ?_
  intro p e s m args below meth c s₁ Bd hml0 hP hK
  obtain ⟨rfl, hZ, hh⟩ := hP
  have hx := Bd.exec
  have hby := Bd.bytes
  have hml : c.maxLocals = 2 := hml0
  have hown : s.vm.findClass "java/lang/String" = some m.cls := findClass_of_methodNamed Bd.named
  have hnm := (name_of_methodNamed Bd.named Bd.method).1
  have X0 : Stand p l e ({ frames := 5, cells := 2, slots := 12, locals := 74 } : Room) s m #[(.ref a1c), (.ref a2c)] below meth c s₁ [] 0 0 := Stand.of_body Bd
  have e0 : s₁.heap = h0 := by rw [← hh, Bd.state]; rfl
  have N0 := Fr.nil n0
  refine GoW.mk ?_
  refine GoW.st (fun t k => castTop (ef1_rm1_37 m a1c a2c) k) ?_
  show GoW p e below s (Q1_37 Z a1c a2c ka2c x1c x2c x3c x4c x5c h0 n0) 2 12 (s₁.setTop (mkF m 0 #[.val (.ref a1c), .val (.ref a2c)] []))
  refine GoW.sg (mkF m 1 #[.val (.ref a1c), .val (.ref a2c)] [(.ref a1c)]) (fun t k => XS.aloadN X0.here hx rfl (hb hby d1_0) rfl rfl k) ?_
  refine GoW.sg (mkF m 2 #[.val (.ref a1c), .val (.ref a2c)] [(.ref a2c), (.ref a1c)]) (fun t k => XS.aloadN X0.here hx rfl (hb hby d1_1) rfl rfl k) ?_
  refine GoW.sg (mkF m 3 #[.val (.ref a1c), .val (.ref a2c)] [(.int 0), (.ref a2c), (.ref a1c)]) (fun t k => XS.iconst X0.here hx rfl (hb hby d1_2) k) ?_
  refine GoW.sg (mkF m 4 #[.val (.ref a1c), .val (.ref a2c)] [(.ref a2c), (.int 0), (.ref a2c), (.ref a1c)]) (fun t k => XS.aloadN X0.here hx rfl (hb hby d1_3) rfl rfl k) ?_
  obtain ⟨cl617, Ar617, q617, Sz617, Nn617, Hh617, Gg617⟩ := id P3
  have st617 := X0.arraylength hx (hq_ e0 Ar617.1) (State.isArrayOf_alike hZ.alike Ar617.2.1) (g := (mkF m 4 #[.val (.ref a1c), .val (.ref a2c)] [(.ref a2c), (.int 0), (.ref a2c), (.ref a1c)])) rfl rfl (hb hby d1_4)
  rw [len_of Sz617 Nn617] at st617
  refine GoW.sg (mkF m 5 #[.val (.ref a1c), .val (.ref a2c)] [(.int 4), (.int 0), (.ref a2c), (.ref a1c)]) (fun t k => st617 t k) ?_
  refine GoW.sg (mkF m 6 #[.val (.ref a1c), .val (.ref a2c)] [.null, (.int 4), (.int 0), (.ref a2c), (.ref a1c)]) (fun t k => XS.aconstNull X0.here hx rfl (hb hby d1_5) k) ?_
  obtain ⟨_, _, ⟨T618, L618, k618, n618⟩, -, X618, ⟨Lc618, hQ618, l618, y618, z618⟩, st618⟩ := X0.specialBack hx (y := Y2) rfl hown (mvT hZ (ww hw 7 rfl)) (mvT hZ (ww hw 8 rfl)) (mvT hZ (ww hw 10 rfl)) (by decide) (backOf (W := 0) (rm2_27 l Z a0 hw [] a1c a2c ka2c x1c x2c x3c x4c x5c h0 n0 Z0 P0 P1 P2 P3 P4 P5 P6 P7 g_a1c ne_a1c_a2c u0 u1 u2 u3 u4 u5 u6 ) hZ (ww hw 10 rfl) (ww hw 3 rfl) (by decide) (by decide)) (g := (mkF m 6 #[.val (.ref a1c), .val (.ref a2c)] [.null, (.int 4), (.int 0), (.ref a2c), (.ref a1c)])) rfl (by rw [hml]; rfl) (Steps.refl _) (a := a1c) (argsL := [(.ref a2c), (.int (0 : Int32)), (.int (4 : Int32)), .null]) (rest := []) (lenOf pd_285bCIILjava2flang2fVoid3b29V rfl) rfl (by show 2 * 0 + _ ≤ _; exact Nat.le_of_eq rfl) (hb hby d1_6) (fun _ _ => ⟨rfl, e0, (by decide : 0 + 2 ≤ _), (by decide : 0 + 12 ≤ _)⟩)
  dsimp only [Pt.U, Pt.locs, Pt.cells, Pt.slots] at X618 l618 y618 z618 st618 hQ618
  subst l618 y618 z618
  obtain ⟨b618_e0, k618_ke0, rfl, N618q, K618, p618_0, p618_1, p618_2, p618_3, hz_b618_e0⟩ := hQ618
  have g_b618_e0 : n0 ≤ b618_e0 := Nat.le_trans Z0 hz_b618_e0
  have sz_b618_e0 : h0.size ≤ b618_e0 := Nat.le_trans (Keep.refl h0 [a1c]).1 hz_b618_e0
  have ne_a1c_b618_e0 : a1c ≠ b618_e0 := Nat.ne_of_lt (Nat.lt_of_lt_of_le P0.lt hz_b618_e0)
  have ne_a2c_b618_e0 : a2c ≠ b618_e0 := Nat.ne_of_lt (Nat.lt_of_lt_of_le P3.lt hz_b618_e0)
  have N618 := Fr.app N0 N618q
  have f618_1 := P3.keep K618 (ninS (Ne.symm ne_a1c_a2c) nin0)
  have f618_2 := own_staK P4 K618 (allS (own_nsE P0) all0)
  have f618_3 := own_staK P5 K618 (allS (own_nsE P0) all0)
  have f618_4 := own_staK P6 K618 (allS (own_nsE P0) all0)
  have f618_5 := own_staK P7 K618 (allS (own_nsE P0) all0)
  have f618_6 := (Keep.refl h0 [a1c]).trans K618 (allS (Or.inl (List.mem_of_getElem? (i := 0) rfl)) all0)
  have f618_7 := Nat.le_trans Z0 K618.1
  refine GoW.sg (mkF m 9 #[.val (.ref a1c), .val (.ref a2c)] []) (fun t k => st618.trans k) ?_
  refine GoW.retV X618 hx Bd.returns (hb hby d1_9) Bd.notSynchronized ?_ (by decide) (by decide)
  exact ⟨b618_e0, k618_ke0, rfl, N618, f618_6, p618_0, p618_1, p618_2, p618_3, sz_b618_e0⟩
def Q1_38 (Z : State) (a1c : Addr) (a2c : Addr) (ka2c : ClassId) (x1c : Int32) (x2c : Int32) (x3c : Int32) (x4c : Int32) (x5c : Int32) (h0 : Heap) (n0 : Nat) (v : Option Value) (h : Heap) (L : List Loc) : Prop := ∃ e0 : Addr, ∃ ke0 : ClassId, v = none ∧ Fr n0 L ∧ (Keep h0 h [a1c]) ∧ (Exa Z h a1c "java/lang/String") ∧ (Fld Z h a1c "java/lang/String" "coder" "B" (.int (0 : Int32))) ∧ (Fld Z h a1c "java/lang/String" "value" "[B" (.ref e0)) ∧ (Arv Z h e0 ke0 .byte (4 : Int32) [(.int (lat8 x1c)), (.int (lat8 x2c)), (.int (lat8 x3c)), (.int (lat8 x4c))] (.int (0 : Int32))) ∧ (h0.size ≤ e0)
theorem ef1_rm1_38 (m : MethodId) (a1c : Addr) (a2c : Addr) : entryFrame m #[(.ref a1c), (.ref a2c)] 2 = (mkF m 0 #[.val (.ref a1c), .val (.ref a2c)] []) := by first | (simp [entryFrame, mkF, argsToLocals, Value.category, maxLocals]; done) | rfl
set_option maxRecDepth 65536 in
set_option maxHeartbeats 40000000 in
theorem rm1_38 (l : Launch) (Z : State) (a0 : Array Value) (hw : ∀ d ∈ tables_1, d.before a0 Z = true) (ws : List Jvm.Cond) (a1c : Addr) (a2c : Addr) (ka2c : ClassId) (x1c : Int32) (x2c : Int32) (x3c : Int32) (x4c : Int32) (x5c : Int32) (h0 : Heap) (n0 : Nat) (Z0 : n0 ≤ h0.size) (P0 : Exa Z h0 a1c "java/lang/String") (P1 : Fld Z h0 a1c "java/lang/String" "coder" "B" (.int (0 : Int32))) (P2 : Fld Z h0 a1c "java/lang/String" "value" "[B" .null) (P3 : Arv Z h0 a2c ka2c .char (4 : Int32) [(.int x1c), (.int x2c), (.int x3c), (.int x4c)] (.int (0 : Int32))) (P4 : Sta Z h0 "java/lang/String" "COMPACT_STRINGS" "Z" (.int x5c)) (P5 : Sta Z h0 "java/lang/StringUTF16" "$assertionsDisabled" "Z" (.int (1 : Int32))) (P6 : Sta Z h0 "java/lang/StringUTF16" "HI_BYTE_SHIFT" "I" (.int (0 : Int32))) (P7 : Sta Z h0 "java/lang/StringUTF16" "LO_BYTE_SHIFT" "I" (.int (8 : Int32))) (g_a1c : n0 ≤ a1c) (ne_a1c_a2c : a1c ≠ a2c) (u0 : ¬ (x5c = (0 : Int32))) (u1 : ¬ ((255 : Int32) < x1c)) (u2 : ¬ ((255 : Int32) < x2c)) (u3 : ¬ ((255 : Int32) < x3c)) (u4 : ¬ ((255 : Int32) < x4c))   :
    MetFree l Y1 (head1 (Jvm.Cond.code Y1 jdk_42_method_3_code 2 none :: ws) ({ frames := 5, cells := 2, slots := 12, locals := 74 } : Room)) (fun a U => a = #[(.ref a1c), (.ref a2c)] ∧ Z.Warmed39 U.vm ∧ U.heap = h0) (fun _ _ _ _ _ => True) (fun _ U o U' => ∃ v L, o = .returned v ∧ (Q1_38 Z a1c a2c ka2c x1c x2c x3c x4c x5c h0 n0) v U'.heap L ∧ FrameEnd U o U' L 2 12) := by
  refine MetFree.of_bodySF (plainFor_of_name pn_java_lang_String) hisR ?_
  intro p e s m args below meth c s₁ Bd hml0 hP hK
  obtain ⟨rfl, hZ, hh⟩ := hP
  have hx := Bd.exec
  have hby := Bd.bytes
  have hml : c.maxLocals = 2 := hml0
  have hown : s.vm.findClass "java/lang/String" = some m.cls := findClass_of_methodNamed Bd.named
  have hnm := (name_of_methodNamed Bd.named Bd.method).1
  have X0 : Stand p l e ({ frames := 5, cells := 2, slots := 12, locals := 74 } : Room) s m #[(.ref a1c), (.ref a2c)] below meth c s₁ [] 0 0 := Stand.of_body Bd
  have e0 : s₁.heap = h0 := by rw [← hh, Bd.state]; rfl
  have N0 := Fr.nil n0
  refine GoW.mk ?_
  refine GoW.st (fun t k => castTop (ef1_rm1_38 m a1c a2c) k) ?_
  show GoW p e below s (Q1_38 Z a1c a2c ka2c x1c x2c x3c x4c x5c h0 n0) 2 12 (s₁.setTop (mkF m 0 #[.val (.ref a1c), .val (.ref a2c)] []))
  refine GoW.sg (mkF m 1 #[.val (.ref a1c), .val (.ref a2c)] [(.ref a1c)]) (fun t k => XS.aloadN X0.here hx rfl (hb hby d1_0) rfl rfl k) ?_
  refine GoW.sg (mkF m 2 #[.val (.ref a1c), .val (.ref a2c)] [(.ref a2c), (.ref a1c)]) (fun t k => XS.aloadN X0.here hx rfl (hb hby d1_1) rfl rfl k) ?_
  refine GoW.sg (mkF m 3 #[.val (.ref a1c), .val (.ref a2c)] [(.int 0), (.ref a2c), (.ref a1c)]) (fun t k => XS.iconst X0.here hx rfl (hb hby d1_2) k) ?_
  refine GoW.sg (mkF m 4 #[.val (.ref a1c), .val (.ref a2c)] [(.ref a2c), (.int 0), (.ref a2c), (.ref a1c)]) (fun t k => XS.aloadN X0.here hx rfl (hb hby d1_3) rfl rfl k) ?_
  obtain ⟨cl621, Ar621, q621, Sz621, Nn621, Hh621, Gg621⟩ := id P3
  have st621 := X0.arraylength hx (hq_ e0 Ar621.1) (State.isArrayOf_alike hZ.alike Ar621.2.1) (g := (mkF m 4 #[.val (.ref a1c), .val (.ref a2c)] [(.ref a2c), (.int 0), (.ref a2c), (.ref a1c)])) rfl rfl (hb hby d1_4)
  rw [len_of Sz621 Nn621] at st621
  refine GoW.sg (mkF m 5 #[.val (.ref a1c), .val (.ref a2c)] [(.int 4), (.int 0), (.ref a2c), (.ref a1c)]) (fun t k => st621 t k) ?_
  refine GoW.sg (mkF m 6 #[.val (.ref a1c), .val (.ref a2c)] [.null, (.int 4), (.int 0), (.ref a2c), (.ref a1c)]) (fun t k => XS.aconstNull X0.here hx rfl (hb hby d1_5) k) ?_
  obtain ⟨_, _, ⟨T622, L622, k622, n622⟩, -, X622, ⟨Lc622, hQ622, l622, y622, z622⟩, st622⟩ := X0.specialBack hx (y := Y2) rfl hown (mvT hZ (ww hw 7 rfl)) (mvT hZ (ww hw 8 rfl)) (mvT hZ (ww hw 10 rfl)) (by decide) (backOf (W := 0) (rm2_32 l Z a0 hw [] a1c a2c ka2c x1c x2c x3c x4c x5c h0 n0 Z0 P0 P1 P2 P3 P4 P5 P6 P7 g_a1c ne_a1c_a2c u0 u1 u2 u3 u4 ) hZ (ww hw 10 rfl) (ww hw 3 rfl) (by decide) (by decide)) (g := (mkF m 6 #[.val (.ref a1c), .val (.ref a2c)] [.null, (.int 4), (.int 0), (.ref a2c), (.ref a1c)])) rfl (by rw [hml]; rfl) (Steps.refl _) (a := a1c) (argsL := [(.ref a2c), (.int (0 : Int32)), (.int (4 : Int32)), .null]) (rest := []) (lenOf pd_285bCIILjava2flang2fVoid3b29V rfl) rfl (by show 2 * 0 + _ ≤ _; exact Nat.le_of_eq rfl) (hb hby d1_6) (fun _ _ => ⟨rfl, e0, (by decide : 0 + 1 ≤ _), (by decide : 0 + 4 ≤ _)⟩)
  dsimp only [Pt.U, Pt.locs, Pt.cells, Pt.slots] at X622 l622 y622 z622 st622 hQ622
  subst l622 y622 z622
  obtain ⟨b622_e0, k622_ke0, rfl, N622q, K622, p622_0, p622_1, p622_2, p622_3, hz_b622_e0⟩ := hQ622
  have g_b622_e0 : n0 ≤ b622_e0 := Nat.le_trans Z0 hz_b622_e0
  have sz_b622_e0 : h0.size ≤ b622_e0 := Nat.le_trans (Keep.refl h0 [a1c]).1 hz_b622_e0
  have ne_a1c_b622_e0 : a1c ≠ b622_e0 := Nat.ne_of_lt (Nat.lt_of_lt_of_le P0.lt hz_b622_e0)
  have ne_a2c_b622_e0 : a2c ≠ b622_e0 := Nat.ne_of_lt (Nat.lt_of_lt_of_le P3.lt hz_b622_e0)
  have N622 := Fr.app N0 N622q
  have f622_1 := P3.keep K622 (ninS (Ne.symm ne_a1c_a2c) nin0)
  have f622_2 := own_staK P4 K622 (allS (own_nsE P0) all0)
  have f622_3 := own_staK P5 K622 (allS (own_nsE P0) all0)
  have f622_4 := own_staK P6 K622 (allS (own_nsE P0) all0)
  have f622_5 := own_staK P7 K622 (allS (own_nsE P0) all0)
  have f622_6 := (Keep.refl h0 [a1c]).trans K622 (allS (Or.inl (List.mem_of_getElem? (i := 0) rfl)) all0)
  have f622_7 := Nat.le_trans Z0 K622.1
  refine GoW.sg (mkF m 9 #[.val (.ref a1c), .val (.ref a2c)] []) (fun t k => st622.trans k) ?_
  refine GoW.retV X622 hx Bd.returns (hb hby d1_9) Bd.notSynchronized ?_ (by decide) (by decide)
  exact ⟨b622_e0, k622_ke0, rfl, N622, f622_6, p622_0, p622_1, p622_2, p622_3, sz_b622_e0⟩
def Str4 (Z : State) (h : Heap) (a : Addr) (c0 : Int32) (c1 : Int32) (c2 : Int32) (c3 : Int32) : Prop := (∃ b : Addr, ∃ kb : ClassId, Fld Z h a "java/lang/String" "value" "[B" (.ref b) ∧ Fld Z h a "java/lang/String" "coder" "B" (.int (0 : Int32)) ∧ Arv Z h b kb .byte (4 : Int32) [(.int (lat8 c0)), (.int (lat8 c1)), (.int (lat8 c2)), (.int (lat8 c3))] (.int (0 : Int32)) ∧ ¬ (255 : Int32) < c0 ∧ ¬ (255 : Int32) < c1 ∧ ¬ (255 : Int32) < c2 ∧ ¬ (255 : Int32) < c3) ∨ (∃ b : Addr, ∃ kb : ClassId, Fld Z h a "java/lang/String" "value" "[B" (.ref b) ∧ Fld Z h a "java/lang/String" "coder" "B" (.int (1 : Int32)) ∧ Arv Z h b kb .byte (8 : Int32) [(.int (lo8 c0)), (.int (hi8 c0)), (.int (lo8 c1)), (.int (hi8 c1)), (.int (lo8 c2)), (.int (hi8 c2)), (.int (lo8 c3)), (.int (hi8 c3))] (.int (0 : Int32)))
def QS (Z : State) (a1 : Addr) (c0 : Int32) (c1 : Int32) (c2 : Int32) (c3 : Int32) (h0 : Heap) (n0 : Nat) (v : Option Value) (h : Heap) (L : List Loc) : Prop := v = none ∧ Fr n0 L ∧ Keep h0 h [a1] ∧ Exa Z h a1 "java/lang/String" ∧ Str4 Z h a1 c0 c1 c2 c3
set_option maxRecDepth 65536 in
set_option maxHeartbeats 40000000 in
theorem rmS (l : Launch) (Z : State) (a0 : Array Value) (hw : ∀ d ∈ tables_1, d.before a0 Z = true) (a1 a2 : Addr) (k2 : ClassId) (c0 : Int32) (c1 : Int32) (c2 : Int32) (c3 : Int32) (cs : Int32) (h0 : Heap) (n0 : Nat) (Z0 : n0 ≤ h0.size) (PE : Exa Z h0 a1 "java/lang/String") (PV : Fld Z h0 a1 "java/lang/String" "value" "[B" .null) (PK : Fld Z h0 a1 "java/lang/String" "coder" "B" (.int (0 : Int32))) (PR : Arv Z h0 a2 k2 .char (4 : Int32) [(.int c0), (.int c1), (.int c2), (.int c3)] (.int (0 : Int32))) (PC : Sta Z h0 "java/lang/String" "COMPACT_STRINGS" "Z" (.int cs)) (PA : Sta Z h0 "java/lang/StringUTF16" "$assertionsDisabled" "Z" (.int (1 : Int32))) (PH : Sta Z h0 "java/lang/StringUTF16" "HI_BYTE_SHIFT" "I" (.int (0 : Int32))) (PL : Sta Z h0 "java/lang/StringUTF16" "LO_BYTE_SHIFT" "I" (.int (8 : Int32))) (g_a1 : n0 ≤ a1) (ne_a1_a2 : a1 ≠ a2) (lo_c0 : ¬ (c0 < (0 : Int32))) (hi_c0 : ¬ ((65535 : Int32) < c0)) (lo_c1 : ¬ (c1 < (0 : Int32))) (hi_c1 : ¬ ((65535 : Int32) < c1)) (lo_c2 : ¬ (c2 < (0 : Int32))) (hi_c2 : ¬ ((65535 : Int32) < c2)) (lo_c3 : ¬ (c3 < (0 : Int32))) (hi_c3 : ¬ ((65535 : Int32) < c3)) (ncs : ¬ (cs = (0 : Int32))) :
    MetFree l Y1 (head1 [Jvm.Cond.code Y1 jdk_42_method_3_code 2 none] ({ frames := 5, cells := 2, slots := 12, locals := 74 } : Room)) (fun a U => a = #[(.ref a1), (.ref a2)] ∧ Z.Warmed39 U.vm ∧ U.heap = h0) (fun _ _ _ _ _ => True) (fun _ U o U' => ∃ v L, o = .returned v ∧ QS Z a1 c0 c1 c2 c3 h0 n0 v U'.heap L ∧ FrameEnd U o U' L 2 12) := by
  by_cases b0 : (255 : Int32) < c0
  · exact (rm1_34 l Z a0 hw [] a1 a2 k2 c0 c1 c2 c3 cs h0 n0 Z0 PE PK PV PR PC PA PH PL g_a1 ne_a1_a2 lo_c0 hi_c0 ncs b0).mono (fun _ _ h => h) (fun _ _ _ _ _ h => h) (fun _ _ _ _ _ h => by obtain ⟨v, L, q1, ⟨e0, ke0, xr, xN, xK, xE, xC, xV, xA, _⟩, q3⟩ := h; exact ⟨v, L, q1, ⟨xr, xN, xK, xE, Or.inr ⟨e0, ke0, xV, xC, xA⟩⟩, q3⟩)
  · skip
    by_cases b1 : (255 : Int32) < c1
    · exact (rm1_35 l Z a0 hw [] a1 a2 k2 c0 c1 c2 c3 cs h0 n0 Z0 PE PK PV PR PC PA PH PL g_a1 ne_a1_a2 lo_c1 hi_c1 ncs b0 b1).mono (fun _ _ h => h) (fun _ _ _ _ _ h => h) (fun _ _ _ _ _ h => by obtain ⟨v, L, q1, ⟨e0, ke0, xr, xN, xK, xE, xC, xV, xA, _⟩, q3⟩ := h; exact ⟨v, L, q1, ⟨xr, xN, xK, xE, Or.inr ⟨e0, ke0, xV, xC, xA⟩⟩, q3⟩)
    · skip
      by_cases b2 : (255 : Int32) < c2
      · exact (rm1_36 l Z a0 hw [] a1 a2 k2 c0 c1 c2 c3 cs h0 n0 Z0 PE PK PV PR PC PA PH PL g_a1 ne_a1_a2 lo_c2 hi_c2 ncs b0 b1 b2).mono (fun _ _ h => h) (fun _ _ _ _ _ h => h) (fun _ _ _ _ _ h => by obtain ⟨v, L, q1, ⟨e0, ke0, xr, xN, xK, xE, xC, xV, xA, _⟩, q3⟩ := h; exact ⟨v, L, q1, ⟨xr, xN, xK, xE, Or.inr ⟨e0, ke0, xV, xC, xA⟩⟩, q3⟩)
      · skip
        by_cases b3 : (255 : Int32) < c3
        · exact (rm1_37 l Z a0 hw [] a1 a2 k2 c0 c1 c2 c3 cs h0 n0 Z0 PE PK PV PR PC PA PH PL g_a1 ne_a1_a2 lo_c3 hi_c3 ncs b0 b1 b2 b3).mono (fun _ _ h => h) (fun _ _ _ _ _ h => h) (fun _ _ _ _ _ h => by obtain ⟨v, L, q1, ⟨e0, ke0, xr, xN, xK, xE, xC, xV, xA, _⟩, q3⟩ := h; exact ⟨v, L, q1, ⟨xr, xN, xK, xE, Or.inr ⟨e0, ke0, xV, xC, xA⟩⟩, q3⟩)
        · skip
          exact (rm1_38 l Z a0 hw [] a1 a2 k2 c0 c1 c2 c3 cs h0 n0 Z0 PE PK PV PR PC PA PH PL g_a1 ne_a1_a2 ncs b0 b1 b2 b3).mono (fun _ _ h => h) (fun _ _ _ _ _ h => h) (fun _ _ _ _ _ h => by obtain ⟨v, L, q1, ⟨e0, ke0, xr, xN, xK, xE, xC, xV, xA, _⟩, q3⟩ := h; exact ⟨v, L, q1, ⟨xr, xN, xK, xE, Or.inl ⟨e0, ke0, xV, xC, xA, b0, b1, b2, b3⟩⟩, q3⟩)
def Q10_39 (Z : State) (a1c : Addr) (x1c : Int32) (h0 : Heap) (n0 : Nat) (v : Option Value) (h : Heap) (L : List Loc) : Prop := v = some (.int (1 : Int32)) ∧ Fr n0 L ∧ (h = h0)
theorem ef10_rm10_39 (m : MethodId) (a1c : Addr) : entryFrame m #[(.ref a1c)] 1 = (mkF m 0 #[.val (.ref a1c)] []) := by first | (simp [entryFrame, mkF, argsToLocals, Value.category, maxLocals]; done) | rfl
set_option maxRecDepth 65536 in
set_option maxHeartbeats 40000000 in
theorem rm10_39 (l : Launch) (Z : State) (a0 : Array Value) (hw : ∀ d ∈ tables_1, d.before a0 Z = true) (ws : List Jvm.Cond) (a1c : Addr) (x1c : Int32) (h0 : Heap) (n0 : Nat) (P0 : Exa Z h0 a1c "java/lang/String") (P1 : Fld Z h0 a1c "java/lang/String" "coder" "B" (.int (0 : Int32))) (P2 : Sta Z h0 "java/lang/String" "COMPACT_STRINGS" "Z" (.int x1c))   (u0 : ¬ (x1c = (0 : Int32)))   :
    MetFree l Y10 (head1 (Jvm.Cond.code Y10 jdk_42_method_154_code 1 (some .boolean) :: ws) ({ frames := 0, cells := 0, slots := 0, locals := 0 } : Room)) (fun a U => a = #[(.ref a1c)] ∧ Z.Warmed39 U.vm ∧ U.heap = h0) (fun _ _ _ _ _ => True) (fun _ U o U' => ∃ v L, o = .returned v ∧ (Q10_39 Z a1c x1c h0 n0) v U'.heap L ∧ FrameEnd U o U' L 0 0) := by
  refine MetFree.of_bodySF (plainFor_of_name pn_java_lang_String) hisR ?_
  intro p e s m args below meth c s₁ Bd hml0 hP hK
  obtain ⟨rfl, hZ, hh⟩ := hP
  have hx := Bd.exec
  have hby := Bd.bytes
  have hml : c.maxLocals = 1 := hml0
  have hown : s.vm.findClass "java/lang/String" = some m.cls := findClass_of_methodNamed Bd.named
  have hnm := (name_of_methodNamed Bd.named Bd.method).1
  have X0 : Stand p l e ({ frames := 0, cells := 0, slots := 0, locals := 0 } : Room) s m #[(.ref a1c)] below meth c s₁ [] 0 0 := Stand.of_body Bd
  have e0 : s₁.heap = h0 := by rw [← hh, Bd.state]; rfl
  have N0 := Fr.nil n0
  refine GoW.mk ?_
  refine GoW.st (fun t k => castTop (ef10_rm10_39 m a1c) k) ?_
  show GoW p e below s (Q10_39 Z a1c x1c h0 n0) 0 0 (s₁.setTop (mkF m 0 #[.val (.ref a1c)] []))
  obtain ⟨T625, X625, e625, st625⟩ := getS (host := "") X0 hx hZ hown (ww hw 14 rfl) Via.refl e0 P2 (g := (mkF m 0 #[.val (.ref a1c)] [])) rfl (hb hby d10_0)
  refine GoW.sg (mkF m 3 #[.val (.ref a1c)] [(.int x1c)]) (fun t k => st625 t k) ?_
  refine GoW.sg (mkF m 6 #[.val (.ref a1c)] []) (fun t k => XS.ifNo X625.here hx rfl (hb hby d10_3) rfl ((if0 _ _).trans (feq u0).1) k) ?_
  refine GoW.sg (mkF m 7 #[.val (.ref a1c)] [(.ref a1c)]) (fun t k => XS.aloadN X625.here hx rfl (hb hby d10_6) rfl rfl k) ?_
  obtain ⟨T626, X626, e626, st626⟩ := getF X625 hx hZ hown (host := "") (Or.inl (ww hw 26 rfl)) Via.refl e625 P1 (g := (mkF m 7 #[.val (.ref a1c)] [(.ref a1c)])) rfl rfl (hb hby d10_7)
  refine GoW.sg (mkF m 10 #[.val (.ref a1c)] [(.int 0)]) (fun t k => st626 t k) ?_
  refine GoW.sg (mkF m 13 #[.val (.ref a1c)] []) (fun t k => XS.ifNo X626.here hx rfl (hb hby d10_10) rfl (by decide) k) ?_
  refine GoW.sg (mkF m 14 #[.val (.ref a1c)] [(.int 1)]) (fun t k => XS.iconst X626.here hx rfl (hb hby d10_13) k) ?_
  refine GoW.sg (mkF m 18 #[.val (.ref a1c)] [(.int 1)]) (fun t k => XS.goto X626.here hx rfl (pc0 := 14) (pc' := 18) rfl (hb hby d10_14) (by decide) (by decide) k) ?_
  refine GoW.retN X626 hx (t := .boolean) Bd.returns (by simp) (hb hby d10_18) Bd.notSynchronized ?_ (by decide) (by decide)
  rw [e626]
  exact ⟨rfl, N0, rfl⟩
def Q13_40 (Z : State)  (h0 : Heap) (n0 : Nat) (v : Option Value) (h : Heap) (L : List Loc) : Prop := v = some (.int (0 : Int32)) ∧ Fr n0 L ∧ (h = h0)
theorem ef13_rm13_40 (m : MethodId)  : entryFrame m #[(.int (0 : Int32)), (.int (4 : Int32)), .null] 3 = (mkF m 0 #[.val (.int 0), .val (.int 4), .val .null] []) := by first | (simp [entryFrame, mkF, argsToLocals, Value.category, maxLocals]; done) | rfl
set_option maxRecDepth 65536 in
set_option maxHeartbeats 40000000 in
theorem rm13_40 (l : Launch) (Z : State) (a0 : Array Value) (hw : ∀ d ∈ tables_1, d.before a0 Z = true) (ws : List Jvm.Cond)   (h0 : Heap) (n0 : Nat)       :
    MetFree l Y13 (head1 (Jvm.Cond.code Y13 jdk_41_method_11_code 3 (some .int) :: ws) ({ frames := 0, cells := 0, slots := 0, locals := 0 } : Room)) (fun a U => a = #[(.int (0 : Int32)), (.int (4 : Int32)), .null] ∧ Z.Warmed39 U.vm ∧ U.heap = h0) (fun _ _ _ _ _ => True) (fun _ U o U' => ∃ v L, o = .returned v ∧ (Q13_40 Z  h0 n0) v U'.heap L ∧ FrameEnd U o U' L 0 0) := by
  refine MetFree.of_bodySF (plainFor_of_name pn_jdk_internal_util_Preconditions) hisR ?_
  intro p e s m args below meth c s₁ Bd hml0 hP hK
  obtain ⟨rfl, hZ, hh⟩ := hP
  have hx := Bd.exec
  have hby := Bd.bytes
  have hml : c.maxLocals = 3 := hml0
  have hown : s.vm.findClass "jdk/internal/util/Preconditions" = some m.cls := findClass_of_methodNamed Bd.named
  have hnm := (name_of_methodNamed Bd.named Bd.method).1
  have X0 : Stand p l e ({ frames := 0, cells := 0, slots := 0, locals := 0 } : Room) s m #[(.int (0 : Int32)), (.int (4 : Int32)), .null] below meth c s₁ [] 0 0 := Stand.of_body Bd
  have e0 : s₁.heap = h0 := by rw [← hh, Bd.state]; rfl
  have N0 := Fr.nil n0
  refine GoW.mk ?_
  refine GoW.st (fun t k => castTop (ef13_rm13_40 m ) k) ?_
  show GoW p e below s (Q13_40 Z  h0 n0) 0 0 (s₁.setTop (mkF m 0 (Sh13 0 4) []))
  refine GoW.sg (mkF m 1 (Sh13 0 4) [(.int 0)]) (fun t k => XS.iloadN X0.here hx rfl (hb hby d13_0) rfl k) ?_
  refine GoW.sg (mkF m 4 (Sh13 0 4) []) (fun t k => XS.ifNo X0.here hx rfl (hb hby d13_1) rfl (by decide) k) ?_
  refine GoW.sg (mkF m 5 (Sh13 0 4) [(.int 0)]) (fun t k => XS.iloadN X0.here hx rfl (hb hby d13_4) rfl k) ?_
  refine GoW.sg (mkF m 6 (Sh13 0 4) [(.int 4), (.int 0)]) (fun t k => XS.iloadN X0.here hx rfl (hb hby d13_5) rfl k) ?_
  refine GoW.sg (mkF m 16 (Sh13 0 4) []) (fun t k => XS.icmpYes X0.here hx rfl (pc0 := 6) (pc' := 16) rfl (hb hby d13_6) rfl (by decide) (by decide) (by decide) k) ?_
  refine GoW.sg (mkF m 17 (Sh13 0 4) [(.int 0)]) (fun t k => XS.iloadN X0.here hx rfl (hb hby d13_16) rfl k) ?_
  refine GoW.retI X0 hx Bd.returns (hb hby d13_17) Bd.notSynchronized ?_ (by decide) (by decide)
  rw [e0]
  exact ⟨rfl, N0, rfl⟩
def Q12_41 (Z : State)  (h0 : Heap) (n0 : Nat) (v : Option Value) (h : Heap) (L : List Loc) : Prop := v = none ∧ Fr n0 L ∧ (h = h0)
theorem ef12_rm12_41 (m : MethodId)  : entryFrame m #[(.int (0 : Int32)), (.int (4 : Int32))] 2 = (mkF m 0 #[.val (.int 0), .val (.int 4)] []) := by first | (simp [entryFrame, mkF, argsToLocals, Value.category, maxLocals]; done) | rfl
set_option maxRecDepth 65536 in
set_option maxHeartbeats 40000000 in
theorem rm12_41 (l : Launch) (Z : State) (a0 : Array Value) (hw : ∀ d ∈ tables_1, d.before a0 Z = true) (ws : List Jvm.Cond)   (h0 : Heap) (n0 : Nat) (P0 : Sta Z h0 "jdk/internal/util/Preconditions" "SIOOBE_FORMATTER" "Ljava/util/function/BiFunction;" .null)      :
    MetFree l Y12 (head1 (Jvm.Cond.code Y12 jdk_42_method_155_code 2 none :: ws) ({ frames := 1, cells := 0, slots := 0, locals := 14 } : Room)) (fun a U => a = #[(.int (0 : Int32)), (.int (4 : Int32))] ∧ Z.Warmed39 U.vm ∧ U.heap = h0) (fun _ _ _ _ _ => True) (fun _ U o U' => ∃ v L, o = .returned v ∧ (Q12_41 Z  h0 n0) v U'.heap L ∧ FrameEnd U o U' L 0 0) := by
  refine MetFree.of_bodySF (plainFor_of_name pn_java_lang_String) hisR ?_
  intro p e s m args below meth c s₁ Bd hml0 hP hK
  obtain ⟨rfl, hZ, hh⟩ := hP
  have hx := Bd.exec
  have hby := Bd.bytes
  have hml : c.maxLocals = 2 := hml0
  have hown : s.vm.findClass "java/lang/String" = some m.cls := findClass_of_methodNamed Bd.named
  have hnm := (name_of_methodNamed Bd.named Bd.method).1
  have X0 : Stand p l e ({ frames := 1, cells := 0, slots := 0, locals := 14 } : Room) s m #[(.int (0 : Int32)), (.int (4 : Int32))] below meth c s₁ [] 0 0 := Stand.of_body Bd
  have e0 : s₁.heap = h0 := by rw [← hh, Bd.state]; rfl
  have N0 := Fr.nil n0
  refine GoW.mk ?_
  refine GoW.st (fun t k => castTop (ef12_rm12_41 m ) k) ?_
  show GoW p e below s (Q12_41 Z  h0 n0) 0 0 (s₁.setTop (mkF m 0 #[.val (.int 0), .val (.int 4)] []))
  refine GoW.sg (mkF m 1 #[.val (.int 0), .val (.int 4)] [(.int 0)]) (fun t k => XS.iloadN X0.here hx rfl (hb hby d12_0) rfl k) ?_
  refine GoW.sg (mkF m 2 #[.val (.int 0), .val (.int 4)] [(.int 4), (.int 0)]) (fun t k => XS.iloadN X0.here hx rfl (hb hby d12_1) rfl k) ?_
  obtain ⟨T632, X632, e632, st632⟩ := getS (host := "") X0 hx hZ hown (ww hw 56 rfl) Via.refl e0 P0 (g := (mkF m 2 #[.val (.int 0), .val (.int 4)] [(.int 4), (.int 0)])) rfl (hb hby d12_2)
  refine GoW.sg (mkF m 5 #[.val (.int 0), .val (.int 4)] [.null, (.int 4), (.int 0)]) (fun t k => st632 t k) ?_
  obtain ⟨_, T633, L633, X633, hQ633, st633⟩ := own_callS X632 hx hZ hown (y := Y13) (ww hw 58 rfl) (ww hw 59 rfl) (ww hw 57 rfl) (ww hw 60 rfl) (by decide) 0 (rm13_40 l Z a0 hw []   h0 n0      ) (by decide) (by decide) e632 (by decide) (by decide) (g := (mkF m 5 #[.val (.int 0), .val (.int 4)] [.null, (.int 4), (.int 0)])) rfl (by rw [hml]; rfl) (argsL := [(.int (0 : Int32)), (.int (4 : Int32)), .null]) (rest := []) (lenOf pd_28IILjava2futil2ffunction2fBiFunction3b29I rfl) rfl (by show 2 * 0 + _ ≤ _; exact Nat.le_of_eq rfl) (hb hby d12_5)
  obtain ⟨rfl, N633q, e633⟩ := hQ633
  have N633 := Fr.app N0 N633q
  refine GoW.sg (mkF m 8 #[.val (.int 0), .val (.int 4)] [(.int 0)]) (fun t k => st633 t k) ?_
  refine GoW.sg (mkF m 9 #[.val (.int 0), .val (.int 4)] []) (fun t k => XS.pop X633.here hx rfl (hb hby d12_8) rfl rfl k) ?_
  refine GoW.retV X633 hx Bd.returns (hb hby d12_9) Bd.notSynchronized ?_ (by decide) (by decide)
  rw [e633]
  exact ⟨rfl, N633, rfl⟩
def Q11_42 (Z : State) (a1c : Addr) (ka1c : ClassId) (x1c : Int32) (x2c : Int32) (x3c : Int32) (x4c : Int32) (h0 : Heap) (n0 : Nat) (v : Option Value) (h : Heap) (L : List Loc) : Prop := v = some (.int (nar .char (x1c &&& (255 : Int32)).toUInt32.toUInt16.toUInt32.toInt32)) ∧ Fr n0 L ∧ (h = h0)
theorem ef11_rm11_42 (m : MethodId) (a1c : Addr) : entryFrame m #[(.ref a1c), (.int (0 : Int32))] 2 = (mkF m 0 #[.val (.ref a1c), .val (.int 0)] []) := by first | (simp [entryFrame, mkF, argsToLocals, Value.category, maxLocals]; done) | rfl
set_option maxRecDepth 65536 in
set_option maxHeartbeats 40000000 in
theorem rm11_42 (l : Launch) (Z : State) (a0 : Array Value) (hw : ∀ d ∈ tables_1, d.before a0 Z = true) (ws : List Jvm.Cond) (a1c : Addr) (ka1c : ClassId) (x1c : Int32) (x2c : Int32) (x3c : Int32) (x4c : Int32) (h0 : Heap) (n0 : Nat) (P0 : Arv Z h0 a1c ka1c .byte (4 : Int32) [(.int x1c), (.int x2c), (.int x3c), (.int x4c)] (.int (0 : Int32))) (P1 : Sta Z h0 "jdk/internal/util/Preconditions" "SIOOBE_FORMATTER" "Ljava/util/function/BiFunction;" .null)      :
    MetFree l Y11 (head1 (Jvm.Cond.code Y11 jdk_43_method_2_code 2 (some .char) :: ws) ({ frames := 2, cells := 0, slots := 0, locals := 27 } : Room)) (fun a U => a = #[(.ref a1c), (.int (0 : Int32))] ∧ Z.Warmed39 U.vm ∧ U.heap = h0) (fun _ _ _ _ _ => True) (fun _ U o U' => ∃ v L, o = .returned v ∧ (Q11_42 Z a1c ka1c x1c x2c x3c x4c h0 n0) v U'.heap L ∧ FrameEnd U o U' L 0 0) := by
  refine MetFree.of_bodySF (plainFor_of_name pn_java_lang_StringLatin1) hisR ?_
  intro p e s m args below meth c s₁ Bd hml0 hP hK
  obtain ⟨rfl, hZ, hh⟩ := hP
  have hx := Bd.exec
  have hby := Bd.bytes
  have hml : c.maxLocals = 2 := hml0
  have hown : s.vm.findClass "java/lang/StringLatin1" = some m.cls := findClass_of_methodNamed Bd.named
  have hnm := (name_of_methodNamed Bd.named Bd.method).1
  have X0 : Stand p l e ({ frames := 2, cells := 0, slots := 0, locals := 27 } : Room) s m #[(.ref a1c), (.int (0 : Int32))] below meth c s₁ [] 0 0 := Stand.of_body Bd
  have e0 : s₁.heap = h0 := by rw [← hh, Bd.state]; rfl
  have N0 := Fr.nil n0
  refine GoW.mk ?_
  refine GoW.st (fun t k => castTop (ef11_rm11_42 m a1c) k) ?_
  show GoW p e below s (Q11_42 Z a1c ka1c x1c x2c x3c x4c h0 n0) 0 0 (s₁.setTop (mkF m 0 #[.val (.ref a1c), .val (.int 0)] []))
  refine GoW.sg (mkF m 1 #[.val (.ref a1c), .val (.int 0)] [(.int 0)]) (fun t k => XS.iloadN X0.here hx rfl (hb hby d11_0) rfl k) ?_
  refine GoW.sg (mkF m 2 #[.val (.ref a1c), .val (.int 0)] [(.ref a1c), (.int 0)]) (fun t k => XS.aloadN X0.here hx rfl (hb hby d11_1) rfl rfl k) ?_
  obtain ⟨cl636, Ar636, q636, Sz636, Nn636, Hh636, Gg636⟩ := id P0
  have st636 := X0.arraylength hx (hq_ e0 Ar636.1) (State.isArrayOf_alike hZ.alike Ar636.2.1) (g := (mkF m 2 #[.val (.ref a1c), .val (.int 0)] [(.ref a1c), (.int 0)])) rfl rfl (hb hby d11_2)
  rw [len_of Sz636 Nn636] at st636
  refine GoW.sg (mkF m 3 #[.val (.ref a1c), .val (.int 0)] [(.int 4), (.int 0)]) (fun t k => st636 t k) ?_
  obtain ⟨_, T639, L639, X639, hQ639, st639⟩ := own_callS X0 hx hZ hown (y := Y12) (ww hw 53 rfl) (ww hw 54 rfl) (ww hw 3 rfl) (ww hw 55 rfl) (by decide) 0 (rm12_41 l Z a0 hw []   h0 n0  P1    ) (by decide) (by decide) e0 (by decide) (by decide) (g := (mkF m 3 #[.val (.ref a1c), .val (.int 0)] [(.int 4), (.int 0)])) rfl (by rw [hml]; rfl) (argsL := [(.int (0 : Int32)), (.int (4 : Int32))]) (rest := []) (lenOf pd_28II29V rfl) rfl (by show 2 * 0 + _ ≤ _; exact Nat.le_of_eq rfl) (hb hby d11_3)
  obtain ⟨rfl, N639q, e639⟩ := hQ639
  have N639 := Fr.app N0 N639q
  refine GoW.sg (mkF m 6 #[.val (.ref a1c), .val (.int 0)] []) (fun t k => st639 t k) ?_
  refine GoW.sg (mkF m 7 #[.val (.ref a1c), .val (.int 0)] [(.ref a1c)]) (fun t k => XS.aloadN X639.here hx rfl (hb hby d11_6) rfl rfl k) ?_
  refine GoW.sg (mkF m 8 #[.val (.ref a1c), .val (.int 0)] [(.int 0), (.ref a1c)]) (fun t k => XS.iloadN X639.here hx rfl (hb hby d11_7) rfl k) ?_
  obtain ⟨cl640, Ar640, q640, Sz640, Nn640, Hh640, Gg640⟩ := id P0
  have hin640 : ¬ ((0 : Int32) < 0 ∨ cl640.slots.size ≤ ((0 : Int32)).toNatClampNeg) := inb_of Sz640 ⟨by decide, by decide⟩
  refine GoW.sg (mkF m 9 #[.val (.ref a1c), .val (.int 0)] [(.int x1c)]) (fun t k => X639.baloadBytes hx (j := (0 : Int32)) (v := (.int x1c)) (hq_ e639 Ar640.1) (State.isArrayOf_alike hZ.alike Ar640.2.1) Ar640.2.2 hin640 (Hh640.at hin640 rfl) (g := (mkF m 8 #[.val (.ref a1c), .val (.int 0)] [(.int 0), (.ref a1c)])) rfl rfl (hb hby d11_8) t k) ?_
  refine GoW.sg (mkF m 12 #[.val (.ref a1c), .val (.int 0)] [(.int 255), (.int x1c)]) (fun t k => XS.sipush X639.here hx rfl (hb hby d11_9) k) ?_
  refine GoW.sg (mkF m 13 #[.val (.ref a1c), .val (.int 0)] [(.int (x1c &&& (255 : Int32)))]) (fun t k => XS.iand X639.here hx rfl (hb hby d11_12) rfl k) ?_
  refine GoW.sg (mkF m 14 #[.val (.ref a1c), .val (.int 0)] [(.int (x1c &&& (255 : Int32)).toUInt32.toUInt16.toUInt32.toInt32)]) (fun t k => XS.i2c X639.here hx rfl (hb hby d11_13) rfl k) ?_
  refine GoW.retN X639 hx (t := .char) Bd.returns (by simp) (hb hby d11_14) Bd.notSynchronized ?_ (by decide) (by decide)
  rw [e639]
  exact ⟨rfl, N639, rfl⟩
def Q13_44 (Z : State) (a1c : Addr) (h0 : Heap) (n0 : Nat) (v : Option Value) (h : Heap) (L : List Loc) : Prop := v = some (.int (0 : Int32)) ∧ Fr n0 L ∧ (h = h0)
theorem ef13_rm13_44 (m : MethodId) (a1c : Addr) : entryFrame m #[(.int (0 : Int32)), (.int (4 : Int32)), (.ref a1c)] 3 = (mkF m 0 #[.val (.int 0), .val (.int 4), .val (.ref a1c)] []) := by first | (simp [entryFrame, mkF, argsToLocals, Value.category, maxLocals]; done) | rfl
set_option maxRecDepth 65536 in
set_option maxHeartbeats 40000000 in
theorem rm13_44 (l : Launch) (Z : State) (a0 : Array Value) (hw : ∀ d ∈ tables_1, d.before a0 Z = true) (ws : List Jvm.Cond) (a1c : Addr)  (h0 : Heap) (n0 : Nat)       :
    MetFree l Y13 (head1 (Jvm.Cond.code Y13 jdk_41_method_11_code 3 (some .int) :: ws) ({ frames := 0, cells := 0, slots := 0, locals := 0 } : Room)) (fun a U => a = #[(.int (0 : Int32)), (.int (4 : Int32)), (.ref a1c)] ∧ Z.Warmed39 U.vm ∧ U.heap = h0) (fun _ _ _ _ _ => True) (fun _ U o U' => ∃ v L, o = .returned v ∧ (Q13_44 Z a1c h0 n0) v U'.heap L ∧ FrameEnd U o U' L 0 0) := by
  refine MetFree.of_bodySF (plainFor_of_name pn_jdk_internal_util_Preconditions) hisR ?_
  intro p e s m args below meth c s₁ Bd hml0 hP hK
  obtain ⟨rfl, hZ, hh⟩ := hP
  have hx := Bd.exec
  have hby := Bd.bytes
  have hml : c.maxLocals = 3 := hml0
  have hown : s.vm.findClass "jdk/internal/util/Preconditions" = some m.cls := findClass_of_methodNamed Bd.named
  have hnm := (name_of_methodNamed Bd.named Bd.method).1
  have X0 : Stand p l e ({ frames := 0, cells := 0, slots := 0, locals := 0 } : Room) s m #[(.int (0 : Int32)), (.int (4 : Int32)), (.ref a1c)] below meth c s₁ [] 0 0 := Stand.of_body Bd
  have e0 : s₁.heap = h0 := by rw [← hh, Bd.state]; rfl
  have N0 := Fr.nil n0
  refine GoW.mk ?_
  refine GoW.st (fun t k => castTop (ef13_rm13_44 m a1c) k) ?_
  show GoW p e below s (Q13_44 Z a1c h0 n0) 0 0 (s₁.setTop (mkF m 0 (Sh14 0 4 a1c) []))
  refine GoW.sg (mkF m 1 (Sh14 0 4 a1c) [(.int 0)]) (fun t k => XS.iloadN X0.here hx rfl (hb hby d13_0) rfl k) ?_
  refine GoW.sg (mkF m 4 (Sh14 0 4 a1c) []) (fun t k => XS.ifNo X0.here hx rfl (hb hby d13_1) rfl (by decide) k) ?_
  refine GoW.sg (mkF m 5 (Sh14 0 4 a1c) [(.int 0)]) (fun t k => XS.iloadN X0.here hx rfl (hb hby d13_4) rfl k) ?_
  refine GoW.sg (mkF m 6 (Sh14 0 4 a1c) [(.int 4), (.int 0)]) (fun t k => XS.iloadN X0.here hx rfl (hb hby d13_5) rfl k) ?_
  refine GoW.sg (mkF m 16 (Sh14 0 4 a1c) []) (fun t k => XS.icmpYes X0.here hx rfl (pc0 := 6) (pc' := 16) rfl (hb hby d13_6) rfl (by decide) (by decide) (by decide) k) ?_
  refine GoW.sg (mkF m 17 (Sh14 0 4 a1c) [(.int 0)]) (fun t k => XS.iloadN X0.here hx rfl (hb hby d13_16) rfl k) ?_
  refine GoW.retI X0 hx Bd.returns (hb hby d13_17) Bd.notSynchronized ?_ (by decide) (by decide)
  rw [e0]
  exact ⟨rfl, N0, rfl⟩
def Q12_45 (Z : State) (a1c : Addr) (h0 : Heap) (n0 : Nat) (v : Option Value) (h : Heap) (L : List Loc) : Prop := v = none ∧ Fr n0 L ∧ (h = h0)
theorem ef12_rm12_45 (m : MethodId)  : entryFrame m #[(.int (0 : Int32)), (.int (4 : Int32))] 2 = (mkF m 0 #[.val (.int 0), .val (.int 4)] []) := by first | (simp [entryFrame, mkF, argsToLocals, Value.category, maxLocals]; done) | rfl
set_option maxRecDepth 65536 in
set_option maxHeartbeats 40000000 in
theorem rm12_45 (l : Launch) (Z : State) (a0 : Array Value) (hw : ∀ d ∈ tables_1, d.before a0 Z = true) (ws : List Jvm.Cond)  (a1c : Addr) (h0 : Heap) (n0 : Nat) (P0 : Sta Z h0 "jdk/internal/util/Preconditions" "SIOOBE_FORMATTER" "Ljava/util/function/BiFunction;" (.ref a1c))      :
    MetFree l Y12 (head1 (Jvm.Cond.code Y12 jdk_42_method_155_code 2 none :: ws) ({ frames := 1, cells := 0, slots := 0, locals := 14 } : Room)) (fun a U => a = #[(.int (0 : Int32)), (.int (4 : Int32))] ∧ Z.Warmed39 U.vm ∧ U.heap = h0) (fun _ _ _ _ _ => True) (fun _ U o U' => ∃ v L, o = .returned v ∧ (Q12_45 Z a1c h0 n0) v U'.heap L ∧ FrameEnd U o U' L 0 0) := by
  refine MetFree.of_bodySF (plainFor_of_name pn_java_lang_String) hisR ?_
  intro p e s m args below meth c s₁ Bd hml0 hP hK
  obtain ⟨rfl, hZ, hh⟩ := hP
  have hx := Bd.exec
  have hby := Bd.bytes
  have hml : c.maxLocals = 2 := hml0
  have hown : s.vm.findClass "java/lang/String" = some m.cls := findClass_of_methodNamed Bd.named
  have hnm := (name_of_methodNamed Bd.named Bd.method).1
  have X0 : Stand p l e ({ frames := 1, cells := 0, slots := 0, locals := 14 } : Room) s m #[(.int (0 : Int32)), (.int (4 : Int32))] below meth c s₁ [] 0 0 := Stand.of_body Bd
  have e0 : s₁.heap = h0 := by rw [← hh, Bd.state]; rfl
  have N0 := Fr.nil n0
  refine GoW.mk ?_
  refine GoW.st (fun t k => castTop (ef12_rm12_45 m ) k) ?_
  show GoW p e below s (Q12_45 Z a1c h0 n0) 0 0 (s₁.setTop (mkF m 0 #[.val (.int 0), .val (.int 4)] []))
  refine GoW.sg (mkF m 1 #[.val (.int 0), .val (.int 4)] [(.int 0)]) (fun t k => XS.iloadN X0.here hx rfl (hb hby d12_0) rfl k) ?_
  refine GoW.sg (mkF m 2 #[.val (.int 0), .val (.int 4)] [(.int 4), (.int 0)]) (fun t k => XS.iloadN X0.here hx rfl (hb hby d12_1) rfl k) ?_
  obtain ⟨T659, X659, e659, st659⟩ := getS (host := "") X0 hx hZ hown (ww hw 56 rfl) Via.refl e0 P0 (g := (mkF m 2 #[.val (.int 0), .val (.int 4)] [(.int 4), (.int 0)])) rfl (hb hby d12_2)
  refine GoW.sg (mkF m 5 #[.val (.int 0), .val (.int 4)] [(.ref a1c), (.int 4), (.int 0)]) (fun t k => st659 t k) ?_
  obtain ⟨_, T660, L660, X660, hQ660, st660⟩ := own_callS X659 hx hZ hown (y := Y13) (ww hw 58 rfl) (ww hw 59 rfl) (ww hw 57 rfl) (ww hw 60 rfl) (by decide) 0 (rm13_44 l Z a0 hw [] a1c  h0 n0      ) (by decide) (by decide) e659 (by decide) (by decide) (g := (mkF m 5 #[.val (.int 0), .val (.int 4)] [(.ref a1c), (.int 4), (.int 0)])) rfl (by rw [hml]; rfl) (argsL := [(.int (0 : Int32)), (.int (4 : Int32)), (.ref a1c)]) (rest := []) (lenOf pd_28IILjava2futil2ffunction2fBiFunction3b29I rfl) rfl (by show 2 * 0 + _ ≤ _; exact Nat.le_of_eq rfl) (hb hby d12_5)
  obtain ⟨rfl, N660q, e660⟩ := hQ660
  have N660 := Fr.app N0 N660q
  refine GoW.sg (mkF m 8 #[.val (.int 0), .val (.int 4)] [(.int 0)]) (fun t k => st660 t k) ?_
  refine GoW.sg (mkF m 9 #[.val (.int 0), .val (.int 4)] []) (fun t k => XS.pop X660.here hx rfl (hb hby d12_8) rfl rfl k) ?_
  refine GoW.retV X660 hx Bd.returns (hb hby d12_9) Bd.notSynchronized ?_ (by decide) (by decide)
  rw [e660]
  exact ⟨rfl, N660, rfl⟩
def Q11_46 (Z : State) (a1c : Addr) (ka1c : ClassId) (x1c : Int32) (x2c : Int32) (x3c : Int32) (x4c : Int32) (a2c : Addr) (h0 : Heap) (n0 : Nat) (v : Option Value) (h : Heap) (L : List Loc) : Prop := v = some (.int (nar .char (x1c &&& (255 : Int32)).toUInt32.toUInt16.toUInt32.toInt32)) ∧ Fr n0 L ∧ (h = h0)
theorem ef11_rm11_46 (m : MethodId) (a1c : Addr) : entryFrame m #[(.ref a1c), (.int (0 : Int32))] 2 = (mkF m 0 #[.val (.ref a1c), .val (.int 0)] []) := by first | (simp [entryFrame, mkF, argsToLocals, Value.category, maxLocals]; done) | rfl
set_option maxRecDepth 65536 in
set_option maxHeartbeats 40000000 in
theorem rm11_46 (l : Launch) (Z : State) (a0 : Array Value) (hw : ∀ d ∈ tables_1, d.before a0 Z = true) (ws : List Jvm.Cond) (a1c : Addr) (ka1c : ClassId) (x1c : Int32) (x2c : Int32) (x3c : Int32) (x4c : Int32) (a2c : Addr) (h0 : Heap) (n0 : Nat) (P0 : Arv Z h0 a1c ka1c .byte (4 : Int32) [(.int x1c), (.int x2c), (.int x3c), (.int x4c)] (.int (0 : Int32))) (P1 : Sta Z h0 "jdk/internal/util/Preconditions" "SIOOBE_FORMATTER" "Ljava/util/function/BiFunction;" (.ref a2c))      :
    MetFree l Y11 (head1 (Jvm.Cond.code Y11 jdk_43_method_2_code 2 (some .char) :: ws) ({ frames := 2, cells := 0, slots := 0, locals := 27 } : Room)) (fun a U => a = #[(.ref a1c), (.int (0 : Int32))] ∧ Z.Warmed39 U.vm ∧ U.heap = h0) (fun _ _ _ _ _ => True) (fun _ U o U' => ∃ v L, o = .returned v ∧ (Q11_46 Z a1c ka1c x1c x2c x3c x4c a2c h0 n0) v U'.heap L ∧ FrameEnd U o U' L 0 0) := by
  refine MetFree.of_bodySF (plainFor_of_name pn_java_lang_StringLatin1) hisR ?_
  intro p e s m args below meth c s₁ Bd hml0 hP hK
  obtain ⟨rfl, hZ, hh⟩ := hP
  have hx := Bd.exec
  have hby := Bd.bytes
  have hml : c.maxLocals = 2 := hml0
  have hown : s.vm.findClass "java/lang/StringLatin1" = some m.cls := findClass_of_methodNamed Bd.named
  have hnm := (name_of_methodNamed Bd.named Bd.method).1
  have X0 : Stand p l e ({ frames := 2, cells := 0, slots := 0, locals := 27 } : Room) s m #[(.ref a1c), (.int (0 : Int32))] below meth c s₁ [] 0 0 := Stand.of_body Bd
  have e0 : s₁.heap = h0 := by rw [← hh, Bd.state]; rfl
  have N0 := Fr.nil n0
  refine GoW.mk ?_
  refine GoW.st (fun t k => castTop (ef11_rm11_46 m a1c) k) ?_
  show GoW p e below s (Q11_46 Z a1c ka1c x1c x2c x3c x4c a2c h0 n0) 0 0 (s₁.setTop (mkF m 0 #[.val (.ref a1c), .val (.int 0)] []))
  refine GoW.sg (mkF m 1 #[.val (.ref a1c), .val (.int 0)] [(.int 0)]) (fun t k => XS.iloadN X0.here hx rfl (hb hby d11_0) rfl k) ?_
  refine GoW.sg (mkF m 2 #[.val (.ref a1c), .val (.int 0)] [(.ref a1c), (.int 0)]) (fun t k => XS.aloadN X0.here hx rfl (hb hby d11_1) rfl rfl k) ?_
  obtain ⟨cl663, Ar663, q663, Sz663, Nn663, Hh663, Gg663⟩ := id P0
  have st663 := X0.arraylength hx (hq_ e0 Ar663.1) (State.isArrayOf_alike hZ.alike Ar663.2.1) (g := (mkF m 2 #[.val (.ref a1c), .val (.int 0)] [(.ref a1c), (.int 0)])) rfl rfl (hb hby d11_2)
  rw [len_of Sz663 Nn663] at st663
  refine GoW.sg (mkF m 3 #[.val (.ref a1c), .val (.int 0)] [(.int 4), (.int 0)]) (fun t k => st663 t k) ?_
  obtain ⟨_, T666, L666, X666, hQ666, st666⟩ := own_callS X0 hx hZ hown (y := Y12) (ww hw 53 rfl) (ww hw 54 rfl) (ww hw 3 rfl) (ww hw 55 rfl) (by decide) 0 (rm12_45 l Z a0 hw []  a2c h0 n0  P1    ) (by decide) (by decide) e0 (by decide) (by decide) (g := (mkF m 3 #[.val (.ref a1c), .val (.int 0)] [(.int 4), (.int 0)])) rfl (by rw [hml]; rfl) (argsL := [(.int (0 : Int32)), (.int (4 : Int32))]) (rest := []) (lenOf pd_28II29V rfl) rfl (by show 2 * 0 + _ ≤ _; exact Nat.le_of_eq rfl) (hb hby d11_3)
  obtain ⟨rfl, N666q, e666⟩ := hQ666
  have N666 := Fr.app N0 N666q
  refine GoW.sg (mkF m 6 #[.val (.ref a1c), .val (.int 0)] []) (fun t k => st666 t k) ?_
  refine GoW.sg (mkF m 7 #[.val (.ref a1c), .val (.int 0)] [(.ref a1c)]) (fun t k => XS.aloadN X666.here hx rfl (hb hby d11_6) rfl rfl k) ?_
  refine GoW.sg (mkF m 8 #[.val (.ref a1c), .val (.int 0)] [(.int 0), (.ref a1c)]) (fun t k => XS.iloadN X666.here hx rfl (hb hby d11_7) rfl k) ?_
  obtain ⟨cl667, Ar667, q667, Sz667, Nn667, Hh667, Gg667⟩ := id P0
  have hin667 : ¬ ((0 : Int32) < 0 ∨ cl667.slots.size ≤ ((0 : Int32)).toNatClampNeg) := inb_of Sz667 ⟨by decide, by decide⟩
  refine GoW.sg (mkF m 9 #[.val (.ref a1c), .val (.int 0)] [(.int x1c)]) (fun t k => X666.baloadBytes hx (j := (0 : Int32)) (v := (.int x1c)) (hq_ e666 Ar667.1) (State.isArrayOf_alike hZ.alike Ar667.2.1) Ar667.2.2 hin667 (Hh667.at hin667 rfl) (g := (mkF m 8 #[.val (.ref a1c), .val (.int 0)] [(.int 0), (.ref a1c)])) rfl rfl (hb hby d11_8) t k) ?_
  refine GoW.sg (mkF m 12 #[.val (.ref a1c), .val (.int 0)] [(.int 255), (.int x1c)]) (fun t k => XS.sipush X666.here hx rfl (hb hby d11_9) k) ?_
  refine GoW.sg (mkF m 13 #[.val (.ref a1c), .val (.int 0)] [(.int (x1c &&& (255 : Int32)))]) (fun t k => XS.iand X666.here hx rfl (hb hby d11_12) rfl k) ?_
  refine GoW.sg (mkF m 14 #[.val (.ref a1c), .val (.int 0)] [(.int (x1c &&& (255 : Int32)).toUInt32.toUInt16.toUInt32.toInt32)]) (fun t k => XS.i2c X666.here hx rfl (hb hby d11_13) rfl k) ?_
  refine GoW.retN X666 hx (t := .char) Bd.returns (by simp) (hb hby d11_14) Bd.notSynchronized ?_ (by decide) (by decide)
  rw [e666]
  exact ⟨rfl, N666, rfl⟩
def Q10_48 (Z : State) (a1c : Addr) (x1c : Int32) (h0 : Heap) (n0 : Nat) (v : Option Value) (h : Heap) (L : List Loc) : Prop := v = some (.int (0 : Int32)) ∧ Fr n0 L ∧ (h = h0)
theorem ef10_rm10_48 (m : MethodId) (a1c : Addr) : entryFrame m #[(.ref a1c)] 1 = (mkF m 0 #[.val (.ref a1c)] []) := by first | (simp [entryFrame, mkF, argsToLocals, Value.category, maxLocals]; done) | rfl
set_option maxRecDepth 65536 in
set_option maxHeartbeats 40000000 in
theorem rm10_48 (l : Launch) (Z : State) (a0 : Array Value) (hw : ∀ d ∈ tables_1, d.before a0 Z = true) (ws : List Jvm.Cond) (a1c : Addr) (x1c : Int32) (h0 : Heap) (n0 : Nat) (P0 : Exa Z h0 a1c "java/lang/String") (P1 : Fld Z h0 a1c "java/lang/String" "coder" "B" (.int (1 : Int32))) (P2 : Sta Z h0 "java/lang/String" "COMPACT_STRINGS" "Z" (.int x1c))   (u0 : ¬ (x1c = (0 : Int32)))   :
    MetFree l Y10 (head1 (Jvm.Cond.code Y10 jdk_42_method_154_code 1 (some .boolean) :: ws) ({ frames := 0, cells := 0, slots := 0, locals := 0 } : Room)) (fun a U => a = #[(.ref a1c)] ∧ Z.Warmed39 U.vm ∧ U.heap = h0) (fun _ _ _ _ _ => True) (fun _ U o U' => ∃ v L, o = .returned v ∧ (Q10_48 Z a1c x1c h0 n0) v U'.heap L ∧ FrameEnd U o U' L 0 0) := by
  refine MetFree.of_bodySF (plainFor_of_name pn_java_lang_String) hisR ?_
  intro p e s m args below meth c s₁ Bd hml0 hP hK
  obtain ⟨rfl, hZ, hh⟩ := hP
  have hx := Bd.exec
  have hby := Bd.bytes
  have hml : c.maxLocals = 1 := hml0
  have hown : s.vm.findClass "java/lang/String" = some m.cls := findClass_of_methodNamed Bd.named
  have hnm := (name_of_methodNamed Bd.named Bd.method).1
  have X0 : Stand p l e ({ frames := 0, cells := 0, slots := 0, locals := 0 } : Room) s m #[(.ref a1c)] below meth c s₁ [] 0 0 := Stand.of_body Bd
  have e0 : s₁.heap = h0 := by rw [← hh, Bd.state]; rfl
  have N0 := Fr.nil n0
  refine GoW.mk ?_
  refine GoW.st (fun t k => castTop (ef10_rm10_48 m a1c) k) ?_
  show GoW p e below s (Q10_48 Z a1c x1c h0 n0) 0 0 (s₁.setTop (mkF m 0 #[.val (.ref a1c)] []))
  obtain ⟨T681, X681, e681, st681⟩ := getS (host := "") X0 hx hZ hown (ww hw 14 rfl) Via.refl e0 P2 (g := (mkF m 0 #[.val (.ref a1c)] [])) rfl (hb hby d10_0)
  refine GoW.sg (mkF m 3 #[.val (.ref a1c)] [(.int x1c)]) (fun t k => st681 t k) ?_
  refine GoW.sg (mkF m 6 #[.val (.ref a1c)] []) (fun t k => XS.ifNo X681.here hx rfl (hb hby d10_3) rfl ((if0 _ _).trans (feq u0).1) k) ?_
  refine GoW.sg (mkF m 7 #[.val (.ref a1c)] [(.ref a1c)]) (fun t k => XS.aloadN X681.here hx rfl (hb hby d10_6) rfl rfl k) ?_
  obtain ⟨T682, X682, e682, st682⟩ := getF X681 hx hZ hown (host := "") (Or.inl (ww hw 26 rfl)) Via.refl e681 P1 (g := (mkF m 7 #[.val (.ref a1c)] [(.ref a1c)])) rfl rfl (hb hby d10_7)
  refine GoW.sg (mkF m 10 #[.val (.ref a1c)] [(.int 1)]) (fun t k => st682 t k) ?_
  refine GoW.sg (mkF m 17 #[.val (.ref a1c)] []) (fun t k => XS.ifYes X682.here hx rfl (pc0 := 10) (pc' := 17) rfl (hb hby d10_10) rfl (by decide) (by decide) (by decide) k) ?_
  refine GoW.sg (mkF m 18 #[.val (.ref a1c)] [(.int 0)]) (fun t k => XS.iconst X682.here hx rfl (hb hby d10_17) k) ?_
  refine GoW.retN X682 hx (t := .boolean) Bd.returns (by simp) (hb hby d10_18) Bd.notSynchronized ?_ (by decide) (by decide)
  rw [e682]
  exact ⟨rfl, N0, rfl⟩
def Q21_49 (Z : State) (a1c : Addr) (ka1c : ClassId) (x1c : Int32) (x2c : Int32) (x3c : Int32) (x4c : Int32) (x5c : Int32) (x6c : Int32) (x7c : Int32) (x8c : Int32) (h0 : Heap) (n0 : Nat) (v : Option Value) (h : Heap) (L : List Loc) : Prop := v = some (.int (4 : Int32)) ∧ Fr n0 L ∧ (h = h0)
theorem ef21_rm21_49 (m : MethodId) (a1c : Addr) : entryFrame m #[(.ref a1c)] 1 = (mkF m 0 #[.val (.ref a1c)] []) := by first | (simp [entryFrame, mkF, argsToLocals, Value.category, maxLocals]; done) | rfl
set_option maxRecDepth 65536 in
set_option maxHeartbeats 40000000 in
theorem rm21_49 (l : Launch) (Z : State) (a0 : Array Value) (hw : ∀ d ∈ tables_1, d.before a0 Z = true) (ws : List Jvm.Cond) (a1c : Addr) (ka1c : ClassId) (x1c : Int32) (x2c : Int32) (x3c : Int32) (x4c : Int32) (x5c : Int32) (x6c : Int32) (x7c : Int32) (x8c : Int32) (h0 : Heap) (n0 : Nat) (P0 : Arv Z h0 a1c ka1c .byte (8 : Int32) [(.int x1c), (.int x2c), (.int x3c), (.int x4c), (.int x5c), (.int x6c), (.int x7c), (.int x8c)] (.int (0 : Int32)))      :
    MetFree l Y21 (head1 (Jvm.Cond.code Y21 jdk_52_method_6_code 1 (some .int) :: ws) ({ frames := 0, cells := 0, slots := 0, locals := 0 } : Room)) (fun a U => a = #[(.ref a1c)] ∧ Z.Warmed39 U.vm ∧ U.heap = h0) (fun _ _ _ _ _ => True) (fun _ U o U' => ∃ v L, o = .returned v ∧ (Q21_49 Z a1c ka1c x1c x2c x3c x4c x5c x6c x7c x8c h0 n0) v U'.heap L ∧ FrameEnd U o U' L 0 0) := by
  refine MetFree.of_bodySF (plainFor_of_name pn_java_lang_StringUTF16) hisR ?_
  intro p e s m args below meth c s₁ Bd hml0 hP hK
  obtain ⟨rfl, hZ, hh⟩ := hP
  have hx := Bd.exec
  have hby := Bd.bytes
  have hml : c.maxLocals = 1 := hml0
  have hown : s.vm.findClass "java/lang/StringUTF16" = some m.cls := findClass_of_methodNamed Bd.named
  have hnm := (name_of_methodNamed Bd.named Bd.method).1
  have X0 : Stand p l e ({ frames := 0, cells := 0, slots := 0, locals := 0 } : Room) s m #[(.ref a1c)] below meth c s₁ [] 0 0 := Stand.of_body Bd
  have e0 : s₁.heap = h0 := by rw [← hh, Bd.state]; rfl
  have N0 := Fr.nil n0
  refine GoW.mk ?_
  refine GoW.st (fun t k => castTop (ef21_rm21_49 m a1c) k) ?_
  show GoW p e below s (Q21_49 Z a1c ka1c x1c x2c x3c x4c x5c x6c x7c x8c h0 n0) 0 0 (s₁.setTop (mkF m 0 #[.val (.ref a1c)] []))
  refine GoW.sg (mkF m 1 #[.val (.ref a1c)] [(.ref a1c)]) (fun t k => XS.aloadN X0.here hx rfl (hb hby d21_0) rfl rfl k) ?_
  obtain ⟨cl686, Ar686, q686, Sz686, Nn686, Hh686, Gg686⟩ := id P0
  have st686 := X0.arraylength hx (hq_ e0 Ar686.1) (State.isArrayOf_alike hZ.alike Ar686.2.1) (g := (mkF m 1 #[.val (.ref a1c)] [(.ref a1c)])) rfl rfl (hb hby d21_1)
  rw [len_of Sz686 Nn686] at st686
  refine GoW.sg (mkF m 2 #[.val (.ref a1c)] [(.int 8)]) (fun t k => st686 t k) ?_
  refine GoW.sg (mkF m 3 #[.val (.ref a1c)] [(.int 1), (.int 8)]) (fun t k => XS.iconst X0.here hx rfl (hb hby d21_2) k) ?_
  refine GoW.st (fun t k => XS.ishr X0.here hx rfl (hb hby d21_3) rfl k) ?_
  rw [show ((8 : Int32) >>> ((1 : Int32) &&& 31)) = (4 : Int32) from by decide]
  show GoW p e below s (Q21_49 Z a1c ka1c x1c x2c x3c x4c x5c x6c x7c x8c h0 n0) 0 0 (s₁.setTop (mkF m 4 #[.val (.ref a1c)] [(.int 4)]))
  refine GoW.retI X0 hx Bd.returns (hb hby d21_4) Bd.notSynchronized ?_ (by decide) (by decide)
  rw [e0]
  exact ⟨rfl, N0, rfl⟩
def Q20_50 (Z : State) (a1c : Addr) (ka1c : ClassId) (x1c : Int32) (x2c : Int32) (x3c : Int32) (x4c : Int32) (x5c : Int32) (x6c : Int32) (x7c : Int32) (x8c : Int32) (h0 : Heap) (n0 : Nat) (v : Option Value) (h : Heap) (L : List Loc) : Prop := v = none ∧ Fr n0 L ∧ (h = h0)
theorem ef20_rm20_50 (m : MethodId) (a1c : Addr) : entryFrame m #[(.int (0 : Int32)), (.ref a1c)] 2 = (mkF m 0 #[.val (.int 0), .val (.ref a1c)] []) := by first | (simp [entryFrame, mkF, argsToLocals, Value.category, maxLocals]; done) | rfl
set_option maxRecDepth 65536 in
set_option maxHeartbeats 40000000 in
theorem rm20_50 (l : Launch) (Z : State) (a0 : Array Value) (hw : ∀ d ∈ tables_1, d.before a0 Z = true) (ws : List Jvm.Cond) (a1c : Addr) (ka1c : ClassId) (x1c : Int32) (x2c : Int32) (x3c : Int32) (x4c : Int32) (x5c : Int32) (x6c : Int32) (x7c : Int32) (x8c : Int32) (h0 : Heap) (n0 : Nat) (P0 : Arv Z h0 a1c ka1c .byte (8 : Int32) [(.int x1c), (.int x2c), (.int x3c), (.int x4c), (.int x5c), (.int x6c), (.int x7c), (.int x8c)] (.int (0 : Int32))) (P1 : Sta Z h0 "jdk/internal/util/Preconditions" "SIOOBE_FORMATTER" "Ljava/util/function/BiFunction;" .null)      :
    MetFree l Y20 (head1 (Jvm.Cond.code Y20 jdk_52_method_91_code 2 none :: ws) ({ frames := 2, cells := 0, slots := 0, locals := 27 } : Room)) (fun a U => a = #[(.int (0 : Int32)), (.ref a1c)] ∧ Z.Warmed39 U.vm ∧ U.heap = h0) (fun _ _ _ _ _ => True) (fun _ U o U' => ∃ v L, o = .returned v ∧ (Q20_50 Z a1c ka1c x1c x2c x3c x4c x5c x6c x7c x8c h0 n0) v U'.heap L ∧ FrameEnd U o U' L 0 0) := by
  refine MetFree.of_bodySF (plainFor_of_name pn_java_lang_StringUTF16) hisR ?_
  intro p e s m args below meth c s₁ Bd hml0 hP hK
  obtain ⟨rfl, hZ, hh⟩ := hP
  have hx := Bd.exec
  have hby := Bd.bytes
  have hml : c.maxLocals = 2 := hml0
  have hown : s.vm.findClass "java/lang/StringUTF16" = some m.cls := findClass_of_methodNamed Bd.named
  have hnm := (name_of_methodNamed Bd.named Bd.method).1
  have X0 : Stand p l e ({ frames := 2, cells := 0, slots := 0, locals := 27 } : Room) s m #[(.int (0 : Int32)), (.ref a1c)] below meth c s₁ [] 0 0 := Stand.of_body Bd
  have e0 : s₁.heap = h0 := by rw [← hh, Bd.state]; rfl
  have N0 := Fr.nil n0
  refine GoW.mk ?_
  refine GoW.st (fun t k => castTop (ef20_rm20_50 m a1c) k) ?_
  show GoW p e below s (Q20_50 Z a1c ka1c x1c x2c x3c x4c x5c x6c x7c x8c h0 n0) 0 0 (s₁.setTop (mkF m 0 #[.val (.int 0), .val (.ref a1c)] []))
  refine GoW.sg (mkF m 1 #[.val (.int 0), .val (.ref a1c)] [(.int 0)]) (fun t k => XS.iloadN X0.here hx rfl (hb hby d20_0) rfl k) ?_
  refine GoW.sg (mkF m 2 #[.val (.int 0), .val (.ref a1c)] [(.ref a1c), (.int 0)]) (fun t k => XS.aloadN X0.here hx rfl (hb hby d20_1) rfl rfl k) ?_
  obtain ⟨_, T690, L690, X690, hQ690, st690⟩ := own_callS X0 hx hZ hown (y := Y21) (ww hw 86 rfl) (ww hw 87 rfl) (ww hw 17 rfl) (ww hw 88 rfl) (by decide) 1 (rm21_49 l Z a0 hw [] a1c ka1c x1c x2c x3c x4c x5c x6c x7c x8c h0 n0  P0    ) (by decide) (by decide) e0 (by decide) (by decide) (g := (mkF m 2 #[.val (.int 0), .val (.ref a1c)] [(.ref a1c), (.int 0)])) rfl (by rw [hml]; rfl) (argsL := [(.ref a1c)]) (rest := [(.int (0 : Int32))]) (lenOf pd_285bB29I rfl) rfl (by show 2 * 0 + _ ≤ _; exact Nat.le_of_eq rfl) (hb hby d20_2)
  obtain ⟨rfl, N690q, e690⟩ := hQ690
  have N690 := Fr.app N0 N690q
  refine GoW.sg (mkF m 5 #[.val (.int 0), .val (.ref a1c)] [(.int 4), (.int 0)]) (fun t k => st690 t k) ?_
  obtain ⟨_, T691, L691, X691, hQ691, st691⟩ := own_callS X690 hx hZ hown (y := Y12) (ww hw 89 rfl) (ww hw 54 rfl) (ww hw 3 rfl) (ww hw 55 rfl) (by decide) 0 (rm12_41 l Z a0 hw []   h0 n0  P1    ) (by decide) (by decide) e690 (by decide) (by decide) (g := (mkF m 5 #[.val (.int 0), .val (.ref a1c)] [(.int 4), (.int 0)])) rfl (by rw [hml]; rfl) (argsL := [(.int (0 : Int32)), (.int (4 : Int32))]) (rest := []) (lenOf pd_28II29V rfl) rfl (by show 2 * 0 + _ ≤ _; exact Nat.le_of_eq rfl) (hb hby d20_5)
  obtain ⟨rfl, N691q, e691⟩ := hQ691
  have N691 := Fr.app N690 N691q
  refine GoW.sg (mkF m 8 #[.val (.int 0), .val (.ref a1c)] []) (fun t k => st691 t k) ?_
  refine GoW.retV X691 hx Bd.returns (hb hby d20_8) Bd.notSynchronized ?_ (by decide) (by decide)
  rw [e691]
  exact ⟨rfl, N691, rfl⟩
def Q19_51 (Z : State) (a1c : Addr) (ka1c : ClassId) (x1c : Int32) (x2c : Int32) (x3c : Int32) (x4c : Int32) (x5c : Int32) (x6c : Int32) (x7c : Int32) (x8c : Int32) (h0 : Heap) (n0 : Nat) (v : Option Value) (h : Heap) (L : List Loc) : Prop := v = some (.int (nar .char (nar .char (((x1c &&& (255 : Int32)) <<< ((0 : Int32) &&& 31)) ||| ((x2c &&& (255 : Int32)) <<< ((8 : Int32) &&& 31))).toUInt32.toUInt16.toUInt32.toInt32))) ∧ Fr n0 L ∧ (h = h0)
theorem ef19_rm19_51 (m : MethodId) (a1c : Addr) : entryFrame m #[(.ref a1c), (.int (0 : Int32))] 2 = (mkF m 0 #[.val (.ref a1c), .val (.int 0)] []) := by first | (simp [entryFrame, mkF, argsToLocals, Value.category, maxLocals]; done) | rfl
set_option maxRecDepth 65536 in
set_option maxHeartbeats 40000000 in
theorem rm19_51 (l : Launch) (Z : State) (a0 : Array Value) (hw : ∀ d ∈ tables_1, d.before a0 Z = true) (ws : List Jvm.Cond) (a1c : Addr) (ka1c : ClassId) (x1c : Int32) (x2c : Int32) (x3c : Int32) (x4c : Int32) (x5c : Int32) (x6c : Int32) (x7c : Int32) (x8c : Int32) (h0 : Heap) (n0 : Nat) (P0 : Arv Z h0 a1c ka1c .byte (8 : Int32) [(.int x1c), (.int x2c), (.int x3c), (.int x4c), (.int x5c), (.int x6c), (.int x7c), (.int x8c)] (.int (0 : Int32))) (P1 : Sta Z h0 "java/lang/StringUTF16" "$assertionsDisabled" "Z" (.int (1 : Int32))) (P2 : Sta Z h0 "java/lang/StringUTF16" "HI_BYTE_SHIFT" "I" (.int (0 : Int32))) (P3 : Sta Z h0 "java/lang/StringUTF16" "LO_BYTE_SHIFT" "I" (.int (8 : Int32))) (P4 : Sta Z h0 "jdk/internal/util/Preconditions" "SIOOBE_FORMATTER" "Ljava/util/function/BiFunction;" .null)      :
    MetFree l Y19 (head1 (Jvm.Cond.code Y19 jdk_52_method_83_code 2 (some .char) :: ws) ({ frames := 3, cells := 0, slots := 0, locals := 40 } : Room)) (fun a U => a = #[(.ref a1c), (.int (0 : Int32))] ∧ Z.Warmed39 U.vm ∧ U.heap = h0) (fun _ _ _ _ _ => True) (fun _ U o U' => ∃ v L, o = .returned v ∧ (Q19_51 Z a1c ka1c x1c x2c x3c x4c x5c x6c x7c x8c h0 n0) v U'.heap L ∧ FrameEnd U o U' L 0 0) := by
  refine MetFree.of_bodySF (plainFor_of_name pn_java_lang_StringUTF16) hisR ?_
  intro p e s m args below meth c s₁ Bd hml0 hP hK
  obtain ⟨rfl, hZ, hh⟩ := hP
  have hx := Bd.exec
  have hby := Bd.bytes
  have hml : c.maxLocals = 2 := hml0
  have hown : s.vm.findClass "java/lang/StringUTF16" = some m.cls := findClass_of_methodNamed Bd.named
  have hnm := (name_of_methodNamed Bd.named Bd.method).1
  have X0 : Stand p l e ({ frames := 3, cells := 0, slots := 0, locals := 40 } : Room) s m #[(.ref a1c), (.int (0 : Int32))] below meth c s₁ [] 0 0 := Stand.of_body Bd
  have e0 : s₁.heap = h0 := by rw [← hh, Bd.state]; rfl
  have N0 := Fr.nil n0
  refine GoW.mk ?_
  refine GoW.st (fun t k => castTop (ef19_rm19_51 m a1c) k) ?_
  show GoW p e below s (Q19_51 Z a1c ka1c x1c x2c x3c x4c x5c x6c x7c x8c h0 n0) 0 0 (s₁.setTop (mkF m 0 #[.val (.ref a1c), .val (.int 0)] []))
  refine GoW.sg (mkF m 1 #[.val (.ref a1c), .val (.int 0)] [(.int 0)]) (fun t k => XS.iloadN X0.here hx rfl (hb hby d19_0) rfl k) ?_
  refine GoW.sg (mkF m 2 #[.val (.ref a1c), .val (.int 0)] [(.ref a1c), (.int 0)]) (fun t k => XS.aloadN X0.here hx rfl (hb hby d19_1) rfl rfl k) ?_
  obtain ⟨_, T704, L704, X704, hQ704, st704⟩ := own_callS X0 hx hZ hown (y := Y20) (ww hw 83 rfl) (ww hw 84 rfl) (ww hw 17 rfl) (ww hw 85 rfl) (by decide) 0 (rm20_50 l Z a0 hw [] a1c ka1c x1c x2c x3c x4c x5c x6c x7c x8c h0 n0  P0 P4    ) (by decide) (by decide) e0 (by decide) (by decide) (g := (mkF m 2 #[.val (.ref a1c), .val (.int 0)] [(.ref a1c), (.int 0)])) rfl (by rw [hml]; rfl) (argsL := [(.int (0 : Int32)), (.ref a1c)]) (rest := []) (lenOf pd_28I5bB29V rfl) rfl (by show 2 * 0 + _ ≤ _; exact Nat.le_of_eq rfl) (hb hby d19_2)
  obtain ⟨rfl, N704q, e704⟩ := hQ704
  have N704 := Fr.app N0 N704q
  refine GoW.sg (mkF m 5 #[.val (.ref a1c), .val (.int 0)] []) (fun t k => st704 t k) ?_
  refine GoW.sg (mkF m 6 #[.val (.ref a1c), .val (.int 0)] [(.ref a1c)]) (fun t k => XS.aloadN X704.here hx rfl (hb hby d19_5) rfl rfl k) ?_
  refine GoW.sg (mkF m 7 #[.val (.ref a1c), .val (.int 0)] [(.int 0), (.ref a1c)]) (fun t k => XS.iloadN X704.here hx rfl (hb hby d19_6) rfl k) ?_
  obtain ⟨_, T710, L710, X710, hQ710, st710⟩ := own_callS X704 hx hZ hown (y := Y18) (ww hw 77 rfl) (ww hw 78 rfl) (ww hw 17 rfl) (ww hw 79 rfl) (by decide) 0 (rm18_9 l Z a0 hw [] a1c ka1c x1c x2c x3c x4c x5c x6c x7c x8c h0 n0  P0 P1 P2 P3    ) (by decide) (by decide) e704 (by decide) (by decide) (g := (mkF m 7 #[.val (.ref a1c), .val (.int 0)] [(.int 0), (.ref a1c)])) rfl (by rw [hml]; rfl) (argsL := [(.ref a1c), (.int (0 : Int32))]) (rest := []) (lenOf pd_285bBI29C rfl) rfl (by show 2 * 0 + _ ≤ _; exact Nat.le_of_eq rfl) (hb hby d19_7)
  obtain ⟨rfl, N710q, e710⟩ := hQ710
  have N710 := Fr.app N704 N710q
  refine GoW.sg (mkF m 10 #[.val (.ref a1c), .val (.int 0)] [(.int (nar .char (((x1c &&& (255 : Int32)) <<< ((0 : Int32) &&& 31)) ||| ((x2c &&& (255 : Int32)) <<< ((8 : Int32) &&& 31))).toUInt32.toUInt16.toUInt32.toInt32))]) (fun t k => st710 t k) ?_
  refine GoW.retN X710 hx (t := .char) Bd.returns (by simp) (hb hby d19_10) Bd.notSynchronized ?_ (by decide) (by decide)
  rw [e710]
  exact ⟨rfl, N710, rfl⟩
def Q20_53 (Z : State) (a1c : Addr) (ka1c : ClassId) (x1c : Int32) (x2c : Int32) (x3c : Int32) (x4c : Int32) (x5c : Int32) (x6c : Int32) (x7c : Int32) (x8c : Int32) (a2c : Addr) (h0 : Heap) (n0 : Nat) (v : Option Value) (h : Heap) (L : List Loc) : Prop := v = none ∧ Fr n0 L ∧ (h = h0)
theorem ef20_rm20_53 (m : MethodId) (a1c : Addr) : entryFrame m #[(.int (0 : Int32)), (.ref a1c)] 2 = (mkF m 0 #[.val (.int 0), .val (.ref a1c)] []) := by first | (simp [entryFrame, mkF, argsToLocals, Value.category, maxLocals]; done) | rfl
set_option maxRecDepth 65536 in
set_option maxHeartbeats 40000000 in
theorem rm20_53 (l : Launch) (Z : State) (a0 : Array Value) (hw : ∀ d ∈ tables_1, d.before a0 Z = true) (ws : List Jvm.Cond) (a1c : Addr) (ka1c : ClassId) (x1c : Int32) (x2c : Int32) (x3c : Int32) (x4c : Int32) (x5c : Int32) (x6c : Int32) (x7c : Int32) (x8c : Int32) (a2c : Addr) (h0 : Heap) (n0 : Nat) (P0 : Arv Z h0 a1c ka1c .byte (8 : Int32) [(.int x1c), (.int x2c), (.int x3c), (.int x4c), (.int x5c), (.int x6c), (.int x7c), (.int x8c)] (.int (0 : Int32))) (P1 : Sta Z h0 "jdk/internal/util/Preconditions" "SIOOBE_FORMATTER" "Ljava/util/function/BiFunction;" (.ref a2c))      :
    MetFree l Y20 (head1 (Jvm.Cond.code Y20 jdk_52_method_91_code 2 none :: ws) ({ frames := 2, cells := 0, slots := 0, locals := 27 } : Room)) (fun a U => a = #[(.int (0 : Int32)), (.ref a1c)] ∧ Z.Warmed39 U.vm ∧ U.heap = h0) (fun _ _ _ _ _ => True) (fun _ U o U' => ∃ v L, o = .returned v ∧ (Q20_53 Z a1c ka1c x1c x2c x3c x4c x5c x6c x7c x8c a2c h0 n0) v U'.heap L ∧ FrameEnd U o U' L 0 0) := by
  refine MetFree.of_bodySF (plainFor_of_name pn_java_lang_StringUTF16) hisR ?_
  intro p e s m args below meth c s₁ Bd hml0 hP hK
  obtain ⟨rfl, hZ, hh⟩ := hP
  have hx := Bd.exec
  have hby := Bd.bytes
  have hml : c.maxLocals = 2 := hml0
  have hown : s.vm.findClass "java/lang/StringUTF16" = some m.cls := findClass_of_methodNamed Bd.named
  have hnm := (name_of_methodNamed Bd.named Bd.method).1
  have X0 : Stand p l e ({ frames := 2, cells := 0, slots := 0, locals := 27 } : Room) s m #[(.int (0 : Int32)), (.ref a1c)] below meth c s₁ [] 0 0 := Stand.of_body Bd
  have e0 : s₁.heap = h0 := by rw [← hh, Bd.state]; rfl
  have N0 := Fr.nil n0
  refine GoW.mk ?_
  refine GoW.st (fun t k => castTop (ef20_rm20_53 m a1c) k) ?_
  show GoW p e below s (Q20_53 Z a1c ka1c x1c x2c x3c x4c x5c x6c x7c x8c a2c h0 n0) 0 0 (s₁.setTop (mkF m 0 #[.val (.int 0), .val (.ref a1c)] []))
  refine GoW.sg (mkF m 1 #[.val (.int 0), .val (.ref a1c)] [(.int 0)]) (fun t k => XS.iloadN X0.here hx rfl (hb hby d20_0) rfl k) ?_
  refine GoW.sg (mkF m 2 #[.val (.int 0), .val (.ref a1c)] [(.ref a1c), (.int 0)]) (fun t k => XS.aloadN X0.here hx rfl (hb hby d20_1) rfl rfl k) ?_
  obtain ⟨_, T723, L723, X723, hQ723, st723⟩ := own_callS X0 hx hZ hown (y := Y21) (ww hw 86 rfl) (ww hw 87 rfl) (ww hw 17 rfl) (ww hw 88 rfl) (by decide) 1 (rm21_49 l Z a0 hw [] a1c ka1c x1c x2c x3c x4c x5c x6c x7c x8c h0 n0  P0    ) (by decide) (by decide) e0 (by decide) (by decide) (g := (mkF m 2 #[.val (.int 0), .val (.ref a1c)] [(.ref a1c), (.int 0)])) rfl (by rw [hml]; rfl) (argsL := [(.ref a1c)]) (rest := [(.int (0 : Int32))]) (lenOf pd_285bB29I rfl) rfl (by show 2 * 0 + _ ≤ _; exact Nat.le_of_eq rfl) (hb hby d20_2)
  obtain ⟨rfl, N723q, e723⟩ := hQ723
  have N723 := Fr.app N0 N723q
  refine GoW.sg (mkF m 5 #[.val (.int 0), .val (.ref a1c)] [(.int 4), (.int 0)]) (fun t k => st723 t k) ?_
  obtain ⟨_, T724, L724, X724, hQ724, st724⟩ := own_callS X723 hx hZ hown (y := Y12) (ww hw 89 rfl) (ww hw 54 rfl) (ww hw 3 rfl) (ww hw 55 rfl) (by decide) 0 (rm12_45 l Z a0 hw []  a2c h0 n0  P1    ) (by decide) (by decide) e723 (by decide) (by decide) (g := (mkF m 5 #[.val (.int 0), .val (.ref a1c)] [(.int 4), (.int 0)])) rfl (by rw [hml]; rfl) (argsL := [(.int (0 : Int32)), (.int (4 : Int32))]) (rest := []) (lenOf pd_28II29V rfl) rfl (by show 2 * 0 + _ ≤ _; exact Nat.le_of_eq rfl) (hb hby d20_5)
  obtain ⟨rfl, N724q, e724⟩ := hQ724
  have N724 := Fr.app N723 N724q
  refine GoW.sg (mkF m 8 #[.val (.int 0), .val (.ref a1c)] []) (fun t k => st724 t k) ?_
  refine GoW.retV X724 hx Bd.returns (hb hby d20_8) Bd.notSynchronized ?_ (by decide) (by decide)
  rw [e724]
  exact ⟨rfl, N724, rfl⟩
def Q19_54 (Z : State) (a1c : Addr) (ka1c : ClassId) (x1c : Int32) (x2c : Int32) (x3c : Int32) (x4c : Int32) (x5c : Int32) (x6c : Int32) (x7c : Int32) (x8c : Int32) (a2c : Addr) (h0 : Heap) (n0 : Nat) (v : Option Value) (h : Heap) (L : List Loc) : Prop := v = some (.int (nar .char (nar .char (((x1c &&& (255 : Int32)) <<< ((0 : Int32) &&& 31)) ||| ((x2c &&& (255 : Int32)) <<< ((8 : Int32) &&& 31))).toUInt32.toUInt16.toUInt32.toInt32))) ∧ Fr n0 L ∧ (h = h0)
theorem ef19_rm19_54 (m : MethodId) (a1c : Addr) : entryFrame m #[(.ref a1c), (.int (0 : Int32))] 2 = (mkF m 0 #[.val (.ref a1c), .val (.int 0)] []) := by first | (simp [entryFrame, mkF, argsToLocals, Value.category, maxLocals]; done) | rfl
set_option maxRecDepth 65536 in
set_option maxHeartbeats 40000000 in
theorem rm19_54 (l : Launch) (Z : State) (a0 : Array Value) (hw : ∀ d ∈ tables_1, d.before a0 Z = true) (ws : List Jvm.Cond) (a1c : Addr) (ka1c : ClassId) (x1c : Int32) (x2c : Int32) (x3c : Int32) (x4c : Int32) (x5c : Int32) (x6c : Int32) (x7c : Int32) (x8c : Int32) (a2c : Addr) (h0 : Heap) (n0 : Nat) (P0 : Arv Z h0 a1c ka1c .byte (8 : Int32) [(.int x1c), (.int x2c), (.int x3c), (.int x4c), (.int x5c), (.int x6c), (.int x7c), (.int x8c)] (.int (0 : Int32))) (P1 : Sta Z h0 "java/lang/StringUTF16" "$assertionsDisabled" "Z" (.int (1 : Int32))) (P2 : Sta Z h0 "java/lang/StringUTF16" "HI_BYTE_SHIFT" "I" (.int (0 : Int32))) (P3 : Sta Z h0 "java/lang/StringUTF16" "LO_BYTE_SHIFT" "I" (.int (8 : Int32))) (P4 : Sta Z h0 "jdk/internal/util/Preconditions" "SIOOBE_FORMATTER" "Ljava/util/function/BiFunction;" (.ref a2c))      :
    MetFree l Y19 (head1 (Jvm.Cond.code Y19 jdk_52_method_83_code 2 (some .char) :: ws) ({ frames := 3, cells := 0, slots := 0, locals := 40 } : Room)) (fun a U => a = #[(.ref a1c), (.int (0 : Int32))] ∧ Z.Warmed39 U.vm ∧ U.heap = h0) (fun _ _ _ _ _ => True) (fun _ U o U' => ∃ v L, o = .returned v ∧ (Q19_54 Z a1c ka1c x1c x2c x3c x4c x5c x6c x7c x8c a2c h0 n0) v U'.heap L ∧ FrameEnd U o U' L 0 0) := by
  refine MetFree.of_bodySF (plainFor_of_name pn_java_lang_StringUTF16) hisR ?_
  intro p e s m args below meth c s₁ Bd hml0 hP hK
  obtain ⟨rfl, hZ, hh⟩ := hP
  have hx := Bd.exec
  have hby := Bd.bytes
  have hml : c.maxLocals = 2 := hml0
  have hown : s.vm.findClass "java/lang/StringUTF16" = some m.cls := findClass_of_methodNamed Bd.named
  have hnm := (name_of_methodNamed Bd.named Bd.method).1
  have X0 : Stand p l e ({ frames := 3, cells := 0, slots := 0, locals := 40 } : Room) s m #[(.ref a1c), (.int (0 : Int32))] below meth c s₁ [] 0 0 := Stand.of_body Bd
  have e0 : s₁.heap = h0 := by rw [← hh, Bd.state]; rfl
  have N0 := Fr.nil n0
  refine GoW.mk ?_
  refine GoW.st (fun t k => castTop (ef19_rm19_54 m a1c) k) ?_
  show GoW p e below s (Q19_54 Z a1c ka1c x1c x2c x3c x4c x5c x6c x7c x8c a2c h0 n0) 0 0 (s₁.setTop (mkF m 0 #[.val (.ref a1c), .val (.int 0)] []))
  refine GoW.sg (mkF m 1 #[.val (.ref a1c), .val (.int 0)] [(.int 0)]) (fun t k => XS.iloadN X0.here hx rfl (hb hby d19_0) rfl k) ?_
  refine GoW.sg (mkF m 2 #[.val (.ref a1c), .val (.int 0)] [(.ref a1c), (.int 0)]) (fun t k => XS.aloadN X0.here hx rfl (hb hby d19_1) rfl rfl k) ?_
  obtain ⟨_, T737, L737, X737, hQ737, st737⟩ := own_callS X0 hx hZ hown (y := Y20) (ww hw 83 rfl) (ww hw 84 rfl) (ww hw 17 rfl) (ww hw 85 rfl) (by decide) 0 (rm20_53 l Z a0 hw [] a1c ka1c x1c x2c x3c x4c x5c x6c x7c x8c a2c h0 n0  P0 P4    ) (by decide) (by decide) e0 (by decide) (by decide) (g := (mkF m 2 #[.val (.ref a1c), .val (.int 0)] [(.ref a1c), (.int 0)])) rfl (by rw [hml]; rfl) (argsL := [(.int (0 : Int32)), (.ref a1c)]) (rest := []) (lenOf pd_28I5bB29V rfl) rfl (by show 2 * 0 + _ ≤ _; exact Nat.le_of_eq rfl) (hb hby d19_2)
  obtain ⟨rfl, N737q, e737⟩ := hQ737
  have N737 := Fr.app N0 N737q
  refine GoW.sg (mkF m 5 #[.val (.ref a1c), .val (.int 0)] []) (fun t k => st737 t k) ?_
  refine GoW.sg (mkF m 6 #[.val (.ref a1c), .val (.int 0)] [(.ref a1c)]) (fun t k => XS.aloadN X737.here hx rfl (hb hby d19_5) rfl rfl k) ?_
  refine GoW.sg (mkF m 7 #[.val (.ref a1c), .val (.int 0)] [(.int 0), (.ref a1c)]) (fun t k => XS.iloadN X737.here hx rfl (hb hby d19_6) rfl k) ?_
  obtain ⟨_, T743, L743, X743, hQ743, st743⟩ := own_callS X737 hx hZ hown (y := Y18) (ww hw 77 rfl) (ww hw 78 rfl) (ww hw 17 rfl) (ww hw 79 rfl) (by decide) 0 (rm18_9 l Z a0 hw [] a1c ka1c x1c x2c x3c x4c x5c x6c x7c x8c h0 n0  P0 P1 P2 P3    ) (by decide) (by decide) e737 (by decide) (by decide) (g := (mkF m 7 #[.val (.ref a1c), .val (.int 0)] [(.int 0), (.ref a1c)])) rfl (by rw [hml]; rfl) (argsL := [(.ref a1c), (.int (0 : Int32))]) (rest := []) (lenOf pd_285bBI29C rfl) rfl (by show 2 * 0 + _ ≤ _; exact Nat.le_of_eq rfl) (hb hby d19_7)
  obtain ⟨rfl, N743q, e743⟩ := hQ743
  have N743 := Fr.app N737 N743q
  refine GoW.sg (mkF m 10 #[.val (.ref a1c), .val (.int 0)] [(.int (nar .char (((x1c &&& (255 : Int32)) <<< ((0 : Int32) &&& 31)) ||| ((x2c &&& (255 : Int32)) <<< ((8 : Int32) &&& 31))).toUInt32.toUInt16.toUInt32.toInt32))]) (fun t k => st743 t k) ?_
  refine GoW.retN X743 hx (t := .char) Bd.returns (by simp) (hb hby d19_10) Bd.notSynchronized ?_ (by decide) (by decide)
  rw [e743]
  exact ⟨rfl, N743, rfl⟩
def Q9_56 (Z : State) (a1c : Addr) (a2c : Addr) (ka2c : ClassId) (x1c : Int32) (x2c : Int32) (x3c : Int32) (x4c : Int32) (x5c : Int32) (h0 : Heap) (n0 : Nat) (v : Option Value) (h : Heap) (L : List Loc) : Prop := v = some (.int (nar .char (nar .char (x1c &&& (255 : Int32)).toUInt32.toUInt16.toUInt32.toInt32))) ∧ Fr n0 L ∧ (h = h0)
theorem ef9_rm9_56 (m : MethodId) (a1c : Addr) : entryFrame m #[(.ref a1c), (.int (0 : Int32))] 2 = (mkF m 0 #[.val (.ref a1c), .val (.int 0)] []) := by first | (simp [entryFrame, mkF, argsToLocals, Value.category, maxLocals]; done) | rfl
set_option maxRecDepth 65536 in
set_option maxHeartbeats 40000000 in
theorem rm9_56 (l : Launch) (Z : State) (a0 : Array Value) (hw : ∀ d ∈ tables_1, d.before a0 Z = true) (ws : List Jvm.Cond) (a1c : Addr) (a2c : Addr) (ka2c : ClassId) (x1c : Int32) (x2c : Int32) (x3c : Int32) (x4c : Int32) (x5c : Int32) (h0 : Heap) (n0 : Nat) (P0 : Exa Z h0 a1c "java/lang/String") (P1 : Fld Z h0 a1c "java/lang/String" "coder" "B" (.int (0 : Int32))) (P2 : Fld Z h0 a1c "java/lang/String" "value" "[B" (.ref a2c)) (P3 : Arv Z h0 a2c ka2c .byte (4 : Int32) [(.int x1c), (.int x2c), (.int x3c), (.int x4c)] (.int (0 : Int32))) (P4 : Sta Z h0 "java/lang/String" "COMPACT_STRINGS" "Z" (.int x5c)) (P5 : Sta Z h0 "jdk/internal/util/Preconditions" "SIOOBE_FORMATTER" "Ljava/util/function/BiFunction;" .null)   (u0 : ¬ (x5c = (0 : Int32)))   :
    MetFree l Y9 (head1 (Jvm.Cond.code Y9 jdk_42_method_56_code 2 (some .char) :: ws) ({ frames := 4, cells := 0, slots := 0, locals := 53 } : Room)) (fun a U => a = #[(.ref a1c), (.int (0 : Int32))] ∧ Z.Warmed39 U.vm ∧ U.heap = h0) (fun _ _ _ _ _ => True) (fun _ U o U' => ∃ v L, o = .returned v ∧ (Q9_56 Z a1c a2c ka2c x1c x2c x3c x4c x5c h0 n0) v U'.heap L ∧ FrameEnd U o U' L 0 0) := by
  refine MetFree.of_bodySF (plainFor_of_name pn_java_lang_String) hisR ?_
  intro p e s m args below meth c s₁ Bd hml0 hP hK
  obtain ⟨rfl, hZ, hh⟩ := hP
  have hx := Bd.exec
  have hby := Bd.bytes
  have hml : c.maxLocals = 2 := hml0
  have hown : s.vm.findClass "java/lang/String" = some m.cls := findClass_of_methodNamed Bd.named
  have hnm := (name_of_methodNamed Bd.named Bd.method).1
  have X0 : Stand p l e ({ frames := 4, cells := 0, slots := 0, locals := 53 } : Room) s m #[(.ref a1c), (.int (0 : Int32))] below meth c s₁ [] 0 0 := Stand.of_body Bd
  have e0 : s₁.heap = h0 := by rw [← hh, Bd.state]; rfl
  have N0 := Fr.nil n0
  refine GoW.mk ?_
  refine GoW.st (fun t k => castTop (ef9_rm9_56 m a1c) k) ?_
  show GoW p e below s (Q9_56 Z a1c a2c ka2c x1c x2c x3c x4c x5c h0 n0) 0 0 (s₁.setTop (mkF m 0 #[.val (.ref a1c), .val (.int 0)] []))
  refine GoW.sg (mkF m 1 #[.val (.ref a1c), .val (.int 0)] [(.ref a1c)]) (fun t k => XS.aloadN X0.here hx rfl (hb hby d9_0) rfl rfl k) ?_
  obtain ⟨cq751, kq751, q751a, q751b, q751c⟩ := isOf hZ e0 P0
  obtain ⟨_, _, ⟨T751, L751, k751, n751⟩, -, X751, ⟨Lc751, hQ751, l751, y751, z751⟩, st751⟩ := X0.virtualBack hx (y := (⟨"java/lang/String", "isLatin1", "()Z"⟩ : MethodName)) (z := Y10) hown (mvT hZ (ww hw 44 rfl)) (mvT hZ (ww hw 45 rfl)) (notFace_of_selects (args := #[]) (mvT hZ (ww hw 47 rfl))) (mvT hZ (ww hw 47 rfl)) (mvT hZ (ww hw 46 rfl)) (by decide) (backOf (W := 0) (rm10_39 l Z a0 hw [] a1c x5c h0 n0  P0 P1 P4   u0 ) hZ (ww hw 48 rfl) (ww hw 3 rfl) (by decide) (by decide)) q751a q751c (g := (mkF m 1 #[.val (.ref a1c), .val (.int 0)] [(.ref a1c)])) rfl (by rw [hml]; rfl) (Steps.refl _) (argsL := []) (rest := []) (lenOf pd_2829Z rfl) rfl (by show 2 * 0 + _ ≤ _; exact Nat.le_of_eq rfl) (hb hby d9_1) (fun _ _ => ⟨rfl, e0, (by decide : 0 + 0 ≤ _), (by decide : 0 + 0 ≤ _)⟩)
  dsimp only [Pt.U, Pt.locs, Pt.cells, Pt.slots] at X751 l751 y751 z751 st751 hQ751
  subst l751 y751 z751
  obtain ⟨rfl, N751q, e751⟩ := hQ751
  have N751 := Fr.app N0 N751q
  refine GoW.sg (mkF m 4 #[.val (.ref a1c), .val (.int 0)] [(.int 1)]) (fun t k => st751.trans k) ?_
  refine GoW.sg (mkF m 7 #[.val (.ref a1c), .val (.int 0)] []) (fun t k => XS.ifNo X751.here hx rfl (hb hby d9_4) rfl (by decide) k) ?_
  refine GoW.sg (mkF m 8 #[.val (.ref a1c), .val (.int 0)] [(.ref a1c)]) (fun t k => XS.aloadN X751.here hx rfl (hb hby d9_7) rfl rfl k) ?_
  obtain ⟨T752, X752, e752, st752⟩ := getF X751 hx hZ hown (host := "") (Or.inl (ww hw 28 rfl)) Via.refl e751 P2 (g := (mkF m 8 #[.val (.ref a1c), .val (.int 0)] [(.ref a1c)])) rfl rfl (hb hby d9_8)
  refine GoW.sg (mkF m 11 #[.val (.ref a1c), .val (.int 0)] [(.ref a2c)]) (fun t k => st752 t k) ?_
  refine GoW.sg (mkF m 12 #[.val (.ref a1c), .val (.int 0)] [(.int 0), (.ref a2c)]) (fun t k => XS.iloadN X752.here hx rfl (hb hby d9_11) rfl k) ?_
  obtain ⟨_, T753, L753, X753, hQ753, st753⟩ := own_callS X752 hx hZ hown (y := Y11) (ww hw 49 rfl) (ww hw 50 rfl) (ww hw 51 rfl) (ww hw 52 rfl) (by decide) 0 (rm11_42 l Z a0 hw [] a2c ka2c x1c x2c x3c x4c h0 n0  P3 P5    ) (by decide) (by decide) e752 (by decide) (by decide) (g := (mkF m 12 #[.val (.ref a1c), .val (.int 0)] [(.int 0), (.ref a2c)])) rfl (by rw [hml]; rfl) (argsL := [(.ref a2c), (.int (0 : Int32))]) (rest := []) (lenOf pd_285bBI29C rfl) rfl (by show 2 * 0 + _ ≤ _; exact Nat.le_of_eq rfl) (hb hby d9_12)
  obtain ⟨rfl, N753q, e753⟩ := hQ753
  have N753 := Fr.app N751 N753q
  refine GoW.sg (mkF m 15 #[.val (.ref a1c), .val (.int 0)] [(.int (nar .char (x1c &&& (255 : Int32)).toUInt32.toUInt16.toUInt32.toInt32))]) (fun t k => st753 t k) ?_
  refine GoW.retN X753 hx (t := .char) Bd.returns (by simp) (hb hby d9_15) Bd.notSynchronized ?_ (by decide) (by decide)
  rw [e753]
  exact ⟨rfl, N753, rfl⟩
def Q9_57 (Z : State) (a1c : Addr) (a2c : Addr) (ka2c : ClassId) (x1c : Int32) (x2c : Int32) (x3c : Int32) (x4c : Int32) (x5c : Int32) (a3c : Addr) (h0 : Heap) (n0 : Nat) (v : Option Value) (h : Heap) (L : List Loc) : Prop := v = some (.int (nar .char (nar .char (x1c &&& (255 : Int32)).toUInt32.toUInt16.toUInt32.toInt32))) ∧ Fr n0 L ∧ (h = h0)
theorem ef9_rm9_57 (m : MethodId) (a1c : Addr) : entryFrame m #[(.ref a1c), (.int (0 : Int32))] 2 = (mkF m 0 #[.val (.ref a1c), .val (.int 0)] []) := by first | (simp [entryFrame, mkF, argsToLocals, Value.category, maxLocals]; done) | rfl
set_option maxRecDepth 65536 in
set_option maxHeartbeats 40000000 in
theorem rm9_57 (l : Launch) (Z : State) (a0 : Array Value) (hw : ∀ d ∈ tables_1, d.before a0 Z = true) (ws : List Jvm.Cond) (a1c : Addr) (a2c : Addr) (ka2c : ClassId) (x1c : Int32) (x2c : Int32) (x3c : Int32) (x4c : Int32) (x5c : Int32) (a3c : Addr) (h0 : Heap) (n0 : Nat) (P0 : Exa Z h0 a1c "java/lang/String") (P1 : Fld Z h0 a1c "java/lang/String" "coder" "B" (.int (0 : Int32))) (P2 : Fld Z h0 a1c "java/lang/String" "value" "[B" (.ref a2c)) (P3 : Arv Z h0 a2c ka2c .byte (4 : Int32) [(.int x1c), (.int x2c), (.int x3c), (.int x4c)] (.int (0 : Int32))) (P4 : Sta Z h0 "java/lang/String" "COMPACT_STRINGS" "Z" (.int x5c)) (P5 : Sta Z h0 "jdk/internal/util/Preconditions" "SIOOBE_FORMATTER" "Ljava/util/function/BiFunction;" (.ref a3c))   (u0 : ¬ (x5c = (0 : Int32)))   :
    MetFree l Y9 (head1 (Jvm.Cond.code Y9 jdk_42_method_56_code 2 (some .char) :: ws) ({ frames := 4, cells := 0, slots := 0, locals := 53 } : Room)) (fun a U => a = #[(.ref a1c), (.int (0 : Int32))] ∧ Z.Warmed39 U.vm ∧ U.heap = h0) (fun _ _ _ _ _ => True) (fun _ U o U' => ∃ v L, o = .returned v ∧ (Q9_57 Z a1c a2c ka2c x1c x2c x3c x4c x5c a3c h0 n0) v U'.heap L ∧ FrameEnd U o U' L 0 0) := by
  refine MetFree.of_bodySF (plainFor_of_name pn_java_lang_String) hisR ?_
  intro p e s m args below meth c s₁ Bd hml0 hP hK
  obtain ⟨rfl, hZ, hh⟩ := hP
  have hx := Bd.exec
  have hby := Bd.bytes
  have hml : c.maxLocals = 2 := hml0
  have hown : s.vm.findClass "java/lang/String" = some m.cls := findClass_of_methodNamed Bd.named
  have hnm := (name_of_methodNamed Bd.named Bd.method).1
  have X0 : Stand p l e ({ frames := 4, cells := 0, slots := 0, locals := 53 } : Room) s m #[(.ref a1c), (.int (0 : Int32))] below meth c s₁ [] 0 0 := Stand.of_body Bd
  have e0 : s₁.heap = h0 := by rw [← hh, Bd.state]; rfl
  have N0 := Fr.nil n0
  refine GoW.mk ?_
  refine GoW.st (fun t k => castTop (ef9_rm9_57 m a1c) k) ?_
  show GoW p e below s (Q9_57 Z a1c a2c ka2c x1c x2c x3c x4c x5c a3c h0 n0) 0 0 (s₁.setTop (mkF m 0 #[.val (.ref a1c), .val (.int 0)] []))
  refine GoW.sg (mkF m 1 #[.val (.ref a1c), .val (.int 0)] [(.ref a1c)]) (fun t k => XS.aloadN X0.here hx rfl (hb hby d9_0) rfl rfl k) ?_
  obtain ⟨cq757, kq757, q757a, q757b, q757c⟩ := isOf hZ e0 P0
  obtain ⟨_, _, ⟨T757, L757, k757, n757⟩, -, X757, ⟨Lc757, hQ757, l757, y757, z757⟩, st757⟩ := X0.virtualBack hx (y := (⟨"java/lang/String", "isLatin1", "()Z"⟩ : MethodName)) (z := Y10) hown (mvT hZ (ww hw 44 rfl)) (mvT hZ (ww hw 45 rfl)) (notFace_of_selects (args := #[]) (mvT hZ (ww hw 47 rfl))) (mvT hZ (ww hw 47 rfl)) (mvT hZ (ww hw 46 rfl)) (by decide) (backOf (W := 0) (rm10_39 l Z a0 hw [] a1c x5c h0 n0  P0 P1 P4   u0 ) hZ (ww hw 48 rfl) (ww hw 3 rfl) (by decide) (by decide)) q757a q757c (g := (mkF m 1 #[.val (.ref a1c), .val (.int 0)] [(.ref a1c)])) rfl (by rw [hml]; rfl) (Steps.refl _) (argsL := []) (rest := []) (lenOf pd_2829Z rfl) rfl (by show 2 * 0 + _ ≤ _; exact Nat.le_of_eq rfl) (hb hby d9_1) (fun _ _ => ⟨rfl, e0, (by decide : 0 + 0 ≤ _), (by decide : 0 + 0 ≤ _)⟩)
  dsimp only [Pt.U, Pt.locs, Pt.cells, Pt.slots] at X757 l757 y757 z757 st757 hQ757
  subst l757 y757 z757
  obtain ⟨rfl, N757q, e757⟩ := hQ757
  have N757 := Fr.app N0 N757q
  refine GoW.sg (mkF m 4 #[.val (.ref a1c), .val (.int 0)] [(.int 1)]) (fun t k => st757.trans k) ?_
  refine GoW.sg (mkF m 7 #[.val (.ref a1c), .val (.int 0)] []) (fun t k => XS.ifNo X757.here hx rfl (hb hby d9_4) rfl (by decide) k) ?_
  refine GoW.sg (mkF m 8 #[.val (.ref a1c), .val (.int 0)] [(.ref a1c)]) (fun t k => XS.aloadN X757.here hx rfl (hb hby d9_7) rfl rfl k) ?_
  obtain ⟨T758, X758, e758, st758⟩ := getF X757 hx hZ hown (host := "") (Or.inl (ww hw 28 rfl)) Via.refl e757 P2 (g := (mkF m 8 #[.val (.ref a1c), .val (.int 0)] [(.ref a1c)])) rfl rfl (hb hby d9_8)
  refine GoW.sg (mkF m 11 #[.val (.ref a1c), .val (.int 0)] [(.ref a2c)]) (fun t k => st758 t k) ?_
  refine GoW.sg (mkF m 12 #[.val (.ref a1c), .val (.int 0)] [(.int 0), (.ref a2c)]) (fun t k => XS.iloadN X758.here hx rfl (hb hby d9_11) rfl k) ?_
  obtain ⟨_, T759, L759, X759, hQ759, st759⟩ := own_callS X758 hx hZ hown (y := Y11) (ww hw 49 rfl) (ww hw 50 rfl) (ww hw 51 rfl) (ww hw 52 rfl) (by decide) 0 (rm11_46 l Z a0 hw [] a2c ka2c x1c x2c x3c x4c a3c h0 n0  P3 P5    ) (by decide) (by decide) e758 (by decide) (by decide) (g := (mkF m 12 #[.val (.ref a1c), .val (.int 0)] [(.int 0), (.ref a2c)])) rfl (by rw [hml]; rfl) (argsL := [(.ref a2c), (.int (0 : Int32))]) (rest := []) (lenOf pd_285bBI29C rfl) rfl (by show 2 * 0 + _ ≤ _; exact Nat.le_of_eq rfl) (hb hby d9_12)
  obtain ⟨rfl, N759q, e759⟩ := hQ759
  have N759 := Fr.app N757 N759q
  refine GoW.sg (mkF m 15 #[.val (.ref a1c), .val (.int 0)] [(.int (nar .char (x1c &&& (255 : Int32)).toUInt32.toUInt16.toUInt32.toInt32))]) (fun t k => st759 t k) ?_
  refine GoW.retN X759 hx (t := .char) Bd.returns (by simp) (hb hby d9_15) Bd.notSynchronized ?_ (by decide) (by decide)
  rw [e759]
  exact ⟨rfl, N759, rfl⟩
def Q9_58 (Z : State) (a1c : Addr) (a2c : Addr) (ka2c : ClassId) (x1c : Int32) (x2c : Int32) (x3c : Int32) (x4c : Int32) (x5c : Int32) (x6c : Int32) (x7c : Int32) (x8c : Int32) (x9c : Int32) (h0 : Heap) (n0 : Nat) (v : Option Value) (h : Heap) (L : List Loc) : Prop := v = some (.int (nar .char (nar .char (nar .char (((x1c &&& (255 : Int32)) <<< ((0 : Int32) &&& 31)) ||| ((x2c &&& (255 : Int32)) <<< ((8 : Int32) &&& 31))).toUInt32.toUInt16.toUInt32.toInt32)))) ∧ Fr n0 L ∧ (h = h0)
theorem ef9_rm9_58 (m : MethodId) (a1c : Addr) : entryFrame m #[(.ref a1c), (.int (0 : Int32))] 2 = (mkF m 0 #[.val (.ref a1c), .val (.int 0)] []) := by first | (simp [entryFrame, mkF, argsToLocals, Value.category, maxLocals]; done) | rfl
set_option maxRecDepth 65536 in
set_option maxHeartbeats 40000000 in
theorem rm9_58 (l : Launch) (Z : State) (a0 : Array Value) (hw : ∀ d ∈ tables_1, d.before a0 Z = true) (ws : List Jvm.Cond) (a1c : Addr) (a2c : Addr) (ka2c : ClassId) (x1c : Int32) (x2c : Int32) (x3c : Int32) (x4c : Int32) (x5c : Int32) (x6c : Int32) (x7c : Int32) (x8c : Int32) (x9c : Int32) (h0 : Heap) (n0 : Nat) (P0 : Exa Z h0 a1c "java/lang/String") (P1 : Fld Z h0 a1c "java/lang/String" "coder" "B" (.int (1 : Int32))) (P2 : Fld Z h0 a1c "java/lang/String" "value" "[B" (.ref a2c)) (P3 : Arv Z h0 a2c ka2c .byte (8 : Int32) [(.int x1c), (.int x2c), (.int x3c), (.int x4c), (.int x5c), (.int x6c), (.int x7c), (.int x8c)] (.int (0 : Int32))) (P4 : Sta Z h0 "java/lang/String" "COMPACT_STRINGS" "Z" (.int x9c)) (P5 : Sta Z h0 "java/lang/StringUTF16" "$assertionsDisabled" "Z" (.int (1 : Int32))) (P6 : Sta Z h0 "java/lang/StringUTF16" "HI_BYTE_SHIFT" "I" (.int (0 : Int32))) (P7 : Sta Z h0 "java/lang/StringUTF16" "LO_BYTE_SHIFT" "I" (.int (8 : Int32))) (P8 : Sta Z h0 "jdk/internal/util/Preconditions" "SIOOBE_FORMATTER" "Ljava/util/function/BiFunction;" .null)   (u0 : ¬ (x9c = (0 : Int32)))   :
    MetFree l Y9 (head1 (Jvm.Cond.code Y9 jdk_42_method_56_code 2 (some .char) :: ws) ({ frames := 4, cells := 0, slots := 0, locals := 53 } : Room)) (fun a U => a = #[(.ref a1c), (.int (0 : Int32))] ∧ Z.Warmed39 U.vm ∧ U.heap = h0) (fun _ _ _ _ _ => True) (fun _ U o U' => ∃ v L, o = .returned v ∧ (Q9_58 Z a1c a2c ka2c x1c x2c x3c x4c x5c x6c x7c x8c x9c h0 n0) v U'.heap L ∧ FrameEnd U o U' L 0 0) := by
  refine MetFree.of_bodySF (plainFor_of_name pn_java_lang_String) hisR ?_
  intro p e s m args below meth c s₁ Bd hml0 hP hK
  obtain ⟨rfl, hZ, hh⟩ := hP
  have hx := Bd.exec
  have hby := Bd.bytes
  have hml : c.maxLocals = 2 := hml0
  have hown : s.vm.findClass "java/lang/String" = some m.cls := findClass_of_methodNamed Bd.named
  have hnm := (name_of_methodNamed Bd.named Bd.method).1
  have X0 : Stand p l e ({ frames := 4, cells := 0, slots := 0, locals := 53 } : Room) s m #[(.ref a1c), (.int (0 : Int32))] below meth c s₁ [] 0 0 := Stand.of_body Bd
  have e0 : s₁.heap = h0 := by rw [← hh, Bd.state]; rfl
  have N0 := Fr.nil n0
  refine GoW.mk ?_
  refine GoW.st (fun t k => castTop (ef9_rm9_58 m a1c) k) ?_
  show GoW p e below s (Q9_58 Z a1c a2c ka2c x1c x2c x3c x4c x5c x6c x7c x8c x9c h0 n0) 0 0 (s₁.setTop (mkF m 0 #[.val (.ref a1c), .val (.int 0)] []))
  refine GoW.sg (mkF m 1 #[.val (.ref a1c), .val (.int 0)] [(.ref a1c)]) (fun t k => XS.aloadN X0.here hx rfl (hb hby d9_0) rfl rfl k) ?_
  obtain ⟨cq763, kq763, q763a, q763b, q763c⟩ := isOf hZ e0 P0
  obtain ⟨_, _, ⟨T763, L763, k763, n763⟩, -, X763, ⟨Lc763, hQ763, l763, y763, z763⟩, st763⟩ := X0.virtualBack hx (y := (⟨"java/lang/String", "isLatin1", "()Z"⟩ : MethodName)) (z := Y10) hown (mvT hZ (ww hw 44 rfl)) (mvT hZ (ww hw 45 rfl)) (notFace_of_selects (args := #[]) (mvT hZ (ww hw 47 rfl))) (mvT hZ (ww hw 47 rfl)) (mvT hZ (ww hw 46 rfl)) (by decide) (backOf (W := 0) (rm10_48 l Z a0 hw [] a1c x9c h0 n0  P0 P1 P4   u0 ) hZ (ww hw 48 rfl) (ww hw 3 rfl) (by decide) (by decide)) q763a q763c (g := (mkF m 1 #[.val (.ref a1c), .val (.int 0)] [(.ref a1c)])) rfl (by rw [hml]; rfl) (Steps.refl _) (argsL := []) (rest := []) (lenOf pd_2829Z rfl) rfl (by show 2 * 0 + _ ≤ _; exact Nat.le_of_eq rfl) (hb hby d9_1) (fun _ _ => ⟨rfl, e0, (by decide : 0 + 0 ≤ _), (by decide : 0 + 0 ≤ _)⟩)
  dsimp only [Pt.U, Pt.locs, Pt.cells, Pt.slots] at X763 l763 y763 z763 st763 hQ763
  subst l763 y763 z763
  obtain ⟨rfl, N763q, e763⟩ := hQ763
  have N763 := Fr.app N0 N763q
  refine GoW.sg (mkF m 4 #[.val (.ref a1c), .val (.int 0)] [(.int 0)]) (fun t k => st763.trans k) ?_
  refine GoW.sg (mkF m 16 #[.val (.ref a1c), .val (.int 0)] []) (fun t k => XS.ifYes X763.here hx rfl (pc0 := 4) (pc' := 16) rfl (hb hby d9_4) rfl (by decide) (by decide) (by decide) k) ?_
  refine GoW.sg (mkF m 17 #[.val (.ref a1c), .val (.int 0)] [(.ref a1c)]) (fun t k => XS.aloadN X763.here hx rfl (hb hby d9_16) rfl rfl k) ?_
  obtain ⟨T764, X764, e764, st764⟩ := getF X763 hx hZ hown (host := "") (Or.inl (ww hw 28 rfl)) Via.refl e763 P2 (g := (mkF m 17 #[.val (.ref a1c), .val (.int 0)] [(.ref a1c)])) rfl rfl (hb hby d9_17)
  refine GoW.sg (mkF m 20 #[.val (.ref a1c), .val (.int 0)] [(.ref a2c)]) (fun t k => st764 t k) ?_
  refine GoW.sg (mkF m 21 #[.val (.ref a1c), .val (.int 0)] [(.int 0), (.ref a2c)]) (fun t k => XS.iloadN X764.here hx rfl (hb hby d9_20) rfl k) ?_
  obtain ⟨_, T765, L765, X765, hQ765, st765⟩ := own_callS X764 hx hZ hown (y := Y19) (ww hw 80 rfl) (ww hw 81 rfl) (ww hw 17 rfl) (ww hw 82 rfl) (by decide) 0 (rm19_51 l Z a0 hw [] a2c ka2c x1c x2c x3c x4c x5c x6c x7c x8c h0 n0  P3 P5 P6 P7 P8    ) (by decide) (by decide) e764 (by decide) (by decide) (g := (mkF m 21 #[.val (.ref a1c), .val (.int 0)] [(.int 0), (.ref a2c)])) rfl (by rw [hml]; rfl) (argsL := [(.ref a2c), (.int (0 : Int32))]) (rest := []) (lenOf pd_285bBI29C rfl) rfl (by show 2 * 0 + _ ≤ _; exact Nat.le_of_eq rfl) (hb hby d9_21)
  obtain ⟨rfl, N765q, e765⟩ := hQ765
  have N765 := Fr.app N763 N765q
  refine GoW.sg (mkF m 24 #[.val (.ref a1c), .val (.int 0)] [(.int (nar .char (nar .char (((x1c &&& (255 : Int32)) <<< ((0 : Int32) &&& 31)) ||| ((x2c &&& (255 : Int32)) <<< ((8 : Int32) &&& 31))).toUInt32.toUInt16.toUInt32.toInt32)))]) (fun t k => st765 t k) ?_
  refine GoW.retN X765 hx (t := .char) Bd.returns (by simp) (hb hby d9_24) Bd.notSynchronized ?_ (by decide) (by decide)
  rw [e765]
  exact ⟨rfl, N765, rfl⟩
def Q9_59 (Z : State) (a1c : Addr) (a2c : Addr) (ka2c : ClassId) (x1c : Int32) (x2c : Int32) (x3c : Int32) (x4c : Int32) (x5c : Int32) (x6c : Int32) (x7c : Int32) (x8c : Int32) (x9c : Int32) (a3c : Addr) (h0 : Heap) (n0 : Nat) (v : Option Value) (h : Heap) (L : List Loc) : Prop := v = some (.int (nar .char (nar .char (nar .char (((x1c &&& (255 : Int32)) <<< ((0 : Int32) &&& 31)) ||| ((x2c &&& (255 : Int32)) <<< ((8 : Int32) &&& 31))).toUInt32.toUInt16.toUInt32.toInt32)))) ∧ Fr n0 L ∧ (h = h0)
theorem ef9_rm9_59 (m : MethodId) (a1c : Addr) : entryFrame m #[(.ref a1c), (.int (0 : Int32))] 2 = (mkF m 0 #[.val (.ref a1c), .val (.int 0)] []) := by first | (simp [entryFrame, mkF, argsToLocals, Value.category, maxLocals]; done) | rfl
set_option maxRecDepth 65536 in
set_option maxHeartbeats 40000000 in
theorem rm9_59 (l : Launch) (Z : State) (a0 : Array Value) (hw : ∀ d ∈ tables_1, d.before a0 Z = true) (ws : List Jvm.Cond) (a1c : Addr) (a2c : Addr) (ka2c : ClassId) (x1c : Int32) (x2c : Int32) (x3c : Int32) (x4c : Int32) (x5c : Int32) (x6c : Int32) (x7c : Int32) (x8c : Int32) (x9c : Int32) (a3c : Addr) (h0 : Heap) (n0 : Nat) (P0 : Exa Z h0 a1c "java/lang/String") (P1 : Fld Z h0 a1c "java/lang/String" "coder" "B" (.int (1 : Int32))) (P2 : Fld Z h0 a1c "java/lang/String" "value" "[B" (.ref a2c)) (P3 : Arv Z h0 a2c ka2c .byte (8 : Int32) [(.int x1c), (.int x2c), (.int x3c), (.int x4c), (.int x5c), (.int x6c), (.int x7c), (.int x8c)] (.int (0 : Int32))) (P4 : Sta Z h0 "java/lang/String" "COMPACT_STRINGS" "Z" (.int x9c)) (P5 : Sta Z h0 "java/lang/StringUTF16" "$assertionsDisabled" "Z" (.int (1 : Int32))) (P6 : Sta Z h0 "java/lang/StringUTF16" "HI_BYTE_SHIFT" "I" (.int (0 : Int32))) (P7 : Sta Z h0 "java/lang/StringUTF16" "LO_BYTE_SHIFT" "I" (.int (8 : Int32))) (P8 : Sta Z h0 "jdk/internal/util/Preconditions" "SIOOBE_FORMATTER" "Ljava/util/function/BiFunction;" (.ref a3c))   (u0 : ¬ (x9c = (0 : Int32)))   :
    MetFree l Y9 (head1 (Jvm.Cond.code Y9 jdk_42_method_56_code 2 (some .char) :: ws) ({ frames := 4, cells := 0, slots := 0, locals := 53 } : Room)) (fun a U => a = #[(.ref a1c), (.int (0 : Int32))] ∧ Z.Warmed39 U.vm ∧ U.heap = h0) (fun _ _ _ _ _ => True) (fun _ U o U' => ∃ v L, o = .returned v ∧ (Q9_59 Z a1c a2c ka2c x1c x2c x3c x4c x5c x6c x7c x8c x9c a3c h0 n0) v U'.heap L ∧ FrameEnd U o U' L 0 0) := by
  refine MetFree.of_bodySF (plainFor_of_name pn_java_lang_String) hisR ?_
  intro p e s m args below meth c s₁ Bd hml0 hP hK
  obtain ⟨rfl, hZ, hh⟩ := hP
  have hx := Bd.exec
  have hby := Bd.bytes
  have hml : c.maxLocals = 2 := hml0
  have hown : s.vm.findClass "java/lang/String" = some m.cls := findClass_of_methodNamed Bd.named
  have hnm := (name_of_methodNamed Bd.named Bd.method).1
  have X0 : Stand p l e ({ frames := 4, cells := 0, slots := 0, locals := 53 } : Room) s m #[(.ref a1c), (.int (0 : Int32))] below meth c s₁ [] 0 0 := Stand.of_body Bd
  have e0 : s₁.heap = h0 := by rw [← hh, Bd.state]; rfl
  have N0 := Fr.nil n0
  refine GoW.mk ?_
  refine GoW.st (fun t k => castTop (ef9_rm9_59 m a1c) k) ?_
  show GoW p e below s (Q9_59 Z a1c a2c ka2c x1c x2c x3c x4c x5c x6c x7c x8c x9c a3c h0 n0) 0 0 (s₁.setTop (mkF m 0 #[.val (.ref a1c), .val (.int 0)] []))
  refine GoW.sg (mkF m 1 #[.val (.ref a1c), .val (.int 0)] [(.ref a1c)]) (fun t k => XS.aloadN X0.here hx rfl (hb hby d9_0) rfl rfl k) ?_
  obtain ⟨cq769, kq769, q769a, q769b, q769c⟩ := isOf hZ e0 P0
  obtain ⟨_, _, ⟨T769, L769, k769, n769⟩, -, X769, ⟨Lc769, hQ769, l769, y769, z769⟩, st769⟩ := X0.virtualBack hx (y := (⟨"java/lang/String", "isLatin1", "()Z"⟩ : MethodName)) (z := Y10) hown (mvT hZ (ww hw 44 rfl)) (mvT hZ (ww hw 45 rfl)) (notFace_of_selects (args := #[]) (mvT hZ (ww hw 47 rfl))) (mvT hZ (ww hw 47 rfl)) (mvT hZ (ww hw 46 rfl)) (by decide) (backOf (W := 0) (rm10_48 l Z a0 hw [] a1c x9c h0 n0  P0 P1 P4   u0 ) hZ (ww hw 48 rfl) (ww hw 3 rfl) (by decide) (by decide)) q769a q769c (g := (mkF m 1 #[.val (.ref a1c), .val (.int 0)] [(.ref a1c)])) rfl (by rw [hml]; rfl) (Steps.refl _) (argsL := []) (rest := []) (lenOf pd_2829Z rfl) rfl (by show 2 * 0 + _ ≤ _; exact Nat.le_of_eq rfl) (hb hby d9_1) (fun _ _ => ⟨rfl, e0, (by decide : 0 + 0 ≤ _), (by decide : 0 + 0 ≤ _)⟩)
  dsimp only [Pt.U, Pt.locs, Pt.cells, Pt.slots] at X769 l769 y769 z769 st769 hQ769
  subst l769 y769 z769
  obtain ⟨rfl, N769q, e769⟩ := hQ769
  have N769 := Fr.app N0 N769q
  refine GoW.sg (mkF m 4 #[.val (.ref a1c), .val (.int 0)] [(.int 0)]) (fun t k => st769.trans k) ?_
  refine GoW.sg (mkF m 16 #[.val (.ref a1c), .val (.int 0)] []) (fun t k => XS.ifYes X769.here hx rfl (pc0 := 4) (pc' := 16) rfl (hb hby d9_4) rfl (by decide) (by decide) (by decide) k) ?_
  refine GoW.sg (mkF m 17 #[.val (.ref a1c), .val (.int 0)] [(.ref a1c)]) (fun t k => XS.aloadN X769.here hx rfl (hb hby d9_16) rfl rfl k) ?_
  obtain ⟨T770, X770, e770, st770⟩ := getF X769 hx hZ hown (host := "") (Or.inl (ww hw 28 rfl)) Via.refl e769 P2 (g := (mkF m 17 #[.val (.ref a1c), .val (.int 0)] [(.ref a1c)])) rfl rfl (hb hby d9_17)
  refine GoW.sg (mkF m 20 #[.val (.ref a1c), .val (.int 0)] [(.ref a2c)]) (fun t k => st770 t k) ?_
  refine GoW.sg (mkF m 21 #[.val (.ref a1c), .val (.int 0)] [(.int 0), (.ref a2c)]) (fun t k => XS.iloadN X770.here hx rfl (hb hby d9_20) rfl k) ?_
  obtain ⟨_, T771, L771, X771, hQ771, st771⟩ := own_callS X770 hx hZ hown (y := Y19) (ww hw 80 rfl) (ww hw 81 rfl) (ww hw 17 rfl) (ww hw 82 rfl) (by decide) 0 (rm19_54 l Z a0 hw [] a2c ka2c x1c x2c x3c x4c x5c x6c x7c x8c a3c h0 n0  P3 P5 P6 P7 P8    ) (by decide) (by decide) e770 (by decide) (by decide) (g := (mkF m 21 #[.val (.ref a1c), .val (.int 0)] [(.int 0), (.ref a2c)])) rfl (by rw [hml]; rfl) (argsL := [(.ref a2c), (.int (0 : Int32))]) (rest := []) (lenOf pd_285bBI29C rfl) rfl (by show 2 * 0 + _ ≤ _; exact Nat.le_of_eq rfl) (hb hby d9_21)
  obtain ⟨rfl, N771q, e771⟩ := hQ771
  have N771 := Fr.app N769 N771q
  refine GoW.sg (mkF m 24 #[.val (.ref a1c), .val (.int 0)] [(.int (nar .char (nar .char (((x1c &&& (255 : Int32)) <<< ((0 : Int32) &&& 31)) ||| ((x2c &&& (255 : Int32)) <<< ((8 : Int32) &&& 31))).toUInt32.toUInt16.toUInt32.toInt32)))]) (fun t k => st771 t k) ?_
  refine GoW.retN X771 hx (t := .char) Bd.returns (by simp) (hb hby d9_24) Bd.notSynchronized ?_ (by decide) (by decide)
  rw [e771]
  exact ⟨rfl, N771, rfl⟩
set_option maxRecDepth 65536 in
set_option maxHeartbeats 40000000 in
theorem rmCh0 (l : Launch) (Z : State) (a0 : Array Value) (hw : ∀ d ∈ tables_1, d.before a0 Z = true) (a1 : Addr) (c0 : Int32) (c1 : Int32) (c2 : Int32) (c3 : Int32) (cs : Int32) (vf : Value) (h0 : Heap) (n0 : Nat) (PE : Exa Z h0 a1 "java/lang/String") (hS : Str4 Z h0 a1 c0 c1 c2 c3) (PC : Sta Z h0 "java/lang/String" "COMPACT_STRINGS" "Z" (.int cs)) (PA : Sta Z h0 "java/lang/StringUTF16" "$assertionsDisabled" "Z" (.int (1 : Int32))) (PH : Sta Z h0 "java/lang/StringUTF16" "HI_BYTE_SHIFT" "I" (.int (0 : Int32))) (PL : Sta Z h0 "java/lang/StringUTF16" "LO_BYTE_SHIFT" "I" (.int (8 : Int32))) (PF : Sta Z h0 "jdk/internal/util/Preconditions" "SIOOBE_FORMATTER" "Ljava/util/function/BiFunction;" vf) (hvf : vf.isRef = true) (lo_c0 : ¬ (c0 < (0 : Int32))) (hi_c0 : ¬ ((65535 : Int32) < c0)) (lo_c1 : ¬ (c1 < (0 : Int32))) (hi_c1 : ¬ ((65535 : Int32) < c1)) (lo_c2 : ¬ (c2 < (0 : Int32))) (hi_c2 : ¬ ((65535 : Int32) < c2)) (lo_c3 : ¬ (c3 < (0 : Int32))) (hi_c3 : ¬ ((65535 : Int32) < c3)) (ncs : ¬ (cs = (0 : Int32))) :
    MetFree l Y9 (head1 [Jvm.Cond.code Y9 jdk_42_method_56_code 2 (some .char)] ({ frames := 4, cells := 0, slots := 0, locals := 53 } : Room)) (fun a U => a = #[(.ref a1), (.int (0 : Int32))] ∧ Z.Warmed39 U.vm ∧ U.heap = h0) (fun _ _ _ _ _ => True) (fun _ U o U' => ∃ v L, o = .returned v ∧ PureQ (.int c0) h0 n0 v U'.heap L ∧ FrameEnd U o U' L 0 0) := by
  rcases hS with ⟨b, kb, PV, PK, PB, b0, b1, b2, b3⟩ | ⟨b, kb, PV, PK, PB⟩
  · rcases ref_cases hvf with rfl | ⟨af, rfl⟩
    · exact (rm9_56 l Z a0 hw [] a1 b kb (lat8 c0) (lat8 c1) (lat8 c2) (lat8 c3) cs h0 n0  PE PK PV PB PC PF   ncs).mono (fun _ _ h => h) (fun _ _ _ _ _ h => h) (fun _ _ _ _ _ h => by obtain ⟨v, L, q1, ⟨q2, q3⟩, q4⟩ := h; refine ⟨v, L, q1, ⟨q2.trans ?_, q3⟩, q4⟩; simp only [own_lat c0 lo_c0 b0, own_nc c0 lo_c0 hi_c0])
    · exact (rm9_57 l Z a0 hw [] a1 b kb (lat8 c0) (lat8 c1) (lat8 c2) (lat8 c3) cs af h0 n0  PE PK PV PB PC PF   ncs).mono (fun _ _ h => h) (fun _ _ _ _ _ h => h) (fun _ _ _ _ _ h => by obtain ⟨v, L, q1, ⟨q2, q3⟩, q4⟩ := h; refine ⟨v, L, q1, ⟨q2.trans ?_, q3⟩, q4⟩; simp only [own_lat c0 lo_c0 b0, own_nc c0 lo_c0 hi_c0])
  · rcases ref_cases hvf with rfl | ⟨af, rfl⟩
    · exact (rm9_58 l Z a0 hw [] a1 b kb (lo8 c0) (hi8 c0) (lo8 c1) (hi8 c1) (lo8 c2) (hi8 c2) (lo8 c3) (hi8 c3) cs h0 n0  PE PK PV PB PC PA PH PL PF   ncs).mono (fun _ _ h => h) (fun _ _ _ _ _ h => h) (fun _ _ _ _ _ h => by obtain ⟨v, L, q1, ⟨q2, q3⟩, q4⟩ := h; refine ⟨v, L, q1, ⟨q2.trans ?_, q3⟩, q4⟩; simp only [own_join c0 lo_c0 hi_c0, own_nc c0 lo_c0 hi_c0])
    · exact (rm9_59 l Z a0 hw [] a1 b kb (lo8 c0) (hi8 c0) (lo8 c1) (hi8 c1) (lo8 c2) (hi8 c2) (lo8 c3) (hi8 c3) cs af h0 n0  PE PK PV PB PC PA PH PL PF   ncs).mono (fun _ _ h => h) (fun _ _ _ _ _ h => h) (fun _ _ _ _ _ h => by obtain ⟨v, L, q1, ⟨q2, q3⟩, q4⟩ := h; refine ⟨v, L, q1, ⟨q2.trans ?_, q3⟩, q4⟩; simp only [own_join c0 lo_c0 hi_c0, own_nc c0 lo_c0 hi_c0])
def Q13_60 (Z : State)  (h0 : Heap) (n0 : Nat) (v : Option Value) (h : Heap) (L : List Loc) : Prop := v = some (.int (1 : Int32)) ∧ Fr n0 L ∧ (h = h0)
theorem ef13_rm13_60 (m : MethodId)  : entryFrame m #[(.int (1 : Int32)), (.int (4 : Int32)), .null] 3 = (mkF m 0 #[.val (.int 1), .val (.int 4), .val .null] []) := by first | (simp [entryFrame, mkF, argsToLocals, Value.category, maxLocals]; done) | rfl
set_option maxRecDepth 65536 in
set_option maxHeartbeats 40000000 in
theorem rm13_60 (l : Launch) (Z : State) (a0 : Array Value) (hw : ∀ d ∈ tables_1, d.before a0 Z = true) (ws : List Jvm.Cond)   (h0 : Heap) (n0 : Nat)       :
    MetFree l Y13 (head1 (Jvm.Cond.code Y13 jdk_41_method_11_code 3 (some .int) :: ws) ({ frames := 0, cells := 0, slots := 0, locals := 0 } : Room)) (fun a U => a = #[(.int (1 : Int32)), (.int (4 : Int32)), .null] ∧ Z.Warmed39 U.vm ∧ U.heap = h0) (fun _ _ _ _ _ => True) (fun _ U o U' => ∃ v L, o = .returned v ∧ (Q13_60 Z  h0 n0) v U'.heap L ∧ FrameEnd U o U' L 0 0) := by
  refine MetFree.of_bodySF (plainFor_of_name pn_jdk_internal_util_Preconditions) hisR ?_
  intro p e s m args below meth c s₁ Bd hml0 hP hK
  obtain ⟨rfl, hZ, hh⟩ := hP
  have hx := Bd.exec
  have hby := Bd.bytes
  have hml : c.maxLocals = 3 := hml0
  have hown : s.vm.findClass "jdk/internal/util/Preconditions" = some m.cls := findClass_of_methodNamed Bd.named
  have hnm := (name_of_methodNamed Bd.named Bd.method).1
  have X0 : Stand p l e ({ frames := 0, cells := 0, slots := 0, locals := 0 } : Room) s m #[(.int (1 : Int32)), (.int (4 : Int32)), .null] below meth c s₁ [] 0 0 := Stand.of_body Bd
  have e0 : s₁.heap = h0 := by rw [← hh, Bd.state]; rfl
  have N0 := Fr.nil n0
  refine GoW.mk ?_
  refine GoW.st (fun t k => castTop (ef13_rm13_60 m ) k) ?_
  show GoW p e below s (Q13_60 Z  h0 n0) 0 0 (s₁.setTop (mkF m 0 (Sh13 1 4) []))
  refine GoW.sg (mkF m 1 (Sh13 1 4) [(.int 1)]) (fun t k => XS.iloadN X0.here hx rfl (hb hby d13_0) rfl k) ?_
  refine GoW.sg (mkF m 4 (Sh13 1 4) []) (fun t k => XS.ifNo X0.here hx rfl (hb hby d13_1) rfl (by decide) k) ?_
  refine GoW.sg (mkF m 5 (Sh13 1 4) [(.int 1)]) (fun t k => XS.iloadN X0.here hx rfl (hb hby d13_4) rfl k) ?_
  refine GoW.sg (mkF m 6 (Sh13 1 4) [(.int 4), (.int 1)]) (fun t k => XS.iloadN X0.here hx rfl (hb hby d13_5) rfl k) ?_
  refine GoW.sg (mkF m 16 (Sh13 1 4) []) (fun t k => XS.icmpYes X0.here hx rfl (pc0 := 6) (pc' := 16) rfl (hb hby d13_6) rfl (by decide) (by decide) (by decide) k) ?_
  refine GoW.sg (mkF m 17 (Sh13 1 4) [(.int 1)]) (fun t k => XS.iloadN X0.here hx rfl (hb hby d13_16) rfl k) ?_
  refine GoW.retI X0 hx Bd.returns (hb hby d13_17) Bd.notSynchronized ?_ (by decide) (by decide)
  rw [e0]
  exact ⟨rfl, N0, rfl⟩
def Q12_61 (Z : State)  (h0 : Heap) (n0 : Nat) (v : Option Value) (h : Heap) (L : List Loc) : Prop := v = none ∧ Fr n0 L ∧ (h = h0)
theorem ef12_rm12_61 (m : MethodId)  : entryFrame m #[(.int (1 : Int32)), (.int (4 : Int32))] 2 = (mkF m 0 #[.val (.int 1), .val (.int 4)] []) := by first | (simp [entryFrame, mkF, argsToLocals, Value.category, maxLocals]; done) | rfl
set_option maxRecDepth 65536 in
set_option maxHeartbeats 40000000 in
theorem rm12_61 (l : Launch) (Z : State) (a0 : Array Value) (hw : ∀ d ∈ tables_1, d.before a0 Z = true) (ws : List Jvm.Cond)   (h0 : Heap) (n0 : Nat) (P0 : Sta Z h0 "jdk/internal/util/Preconditions" "SIOOBE_FORMATTER" "Ljava/util/function/BiFunction;" .null)      :
    MetFree l Y12 (head1 (Jvm.Cond.code Y12 jdk_42_method_155_code 2 none :: ws) ({ frames := 1, cells := 0, slots := 0, locals := 14 } : Room)) (fun a U => a = #[(.int (1 : Int32)), (.int (4 : Int32))] ∧ Z.Warmed39 U.vm ∧ U.heap = h0) (fun _ _ _ _ _ => True) (fun _ U o U' => ∃ v L, o = .returned v ∧ (Q12_61 Z  h0 n0) v U'.heap L ∧ FrameEnd U o U' L 0 0) := by
  refine MetFree.of_bodySF (plainFor_of_name pn_java_lang_String) hisR ?_
  intro p e s m args below meth c s₁ Bd hml0 hP hK
  obtain ⟨rfl, hZ, hh⟩ := hP
  have hx := Bd.exec
  have hby := Bd.bytes
  have hml : c.maxLocals = 2 := hml0
  have hown : s.vm.findClass "java/lang/String" = some m.cls := findClass_of_methodNamed Bd.named
  have hnm := (name_of_methodNamed Bd.named Bd.method).1
  have X0 : Stand p l e ({ frames := 1, cells := 0, slots := 0, locals := 14 } : Room) s m #[(.int (1 : Int32)), (.int (4 : Int32))] below meth c s₁ [] 0 0 := Stand.of_body Bd
  have e0 : s₁.heap = h0 := by rw [← hh, Bd.state]; rfl
  have N0 := Fr.nil n0
  refine GoW.mk ?_
  refine GoW.st (fun t k => castTop (ef12_rm12_61 m ) k) ?_
  show GoW p e below s (Q12_61 Z  h0 n0) 0 0 (s₁.setTop (mkF m 0 #[.val (.int 1), .val (.int 4)] []))
  refine GoW.sg (mkF m 1 #[.val (.int 1), .val (.int 4)] [(.int 1)]) (fun t k => XS.iloadN X0.here hx rfl (hb hby d12_0) rfl k) ?_
  refine GoW.sg (mkF m 2 #[.val (.int 1), .val (.int 4)] [(.int 4), (.int 1)]) (fun t k => XS.iloadN X0.here hx rfl (hb hby d12_1) rfl k) ?_
  obtain ⟨T777, X777, e777, st777⟩ := getS (host := "") X0 hx hZ hown (ww hw 56 rfl) Via.refl e0 P0 (g := (mkF m 2 #[.val (.int 1), .val (.int 4)] [(.int 4), (.int 1)])) rfl (hb hby d12_2)
  refine GoW.sg (mkF m 5 #[.val (.int 1), .val (.int 4)] [.null, (.int 4), (.int 1)]) (fun t k => st777 t k) ?_
  obtain ⟨_, T778, L778, X778, hQ778, st778⟩ := own_callS X777 hx hZ hown (y := Y13) (ww hw 58 rfl) (ww hw 59 rfl) (ww hw 57 rfl) (ww hw 60 rfl) (by decide) 0 (rm13_60 l Z a0 hw []   h0 n0      ) (by decide) (by decide) e777 (by decide) (by decide) (g := (mkF m 5 #[.val (.int 1), .val (.int 4)] [.null, (.int 4), (.int 1)])) rfl (by rw [hml]; rfl) (argsL := [(.int (1 : Int32)), (.int (4 : Int32)), .null]) (rest := []) (lenOf pd_28IILjava2futil2ffunction2fBiFunction3b29I rfl) rfl (by show 2 * 0 + _ ≤ _; exact Nat.le_of_eq rfl) (hb hby d12_5)
  obtain ⟨rfl, N778q, e778⟩ := hQ778
  have N778 := Fr.app N0 N778q
  refine GoW.sg (mkF m 8 #[.val (.int 1), .val (.int 4)] [(.int 1)]) (fun t k => st778 t k) ?_
  refine GoW.sg (mkF m 9 #[.val (.int 1), .val (.int 4)] []) (fun t k => XS.pop X778.here hx rfl (hb hby d12_8) rfl rfl k) ?_
  refine GoW.retV X778 hx Bd.returns (hb hby d12_9) Bd.notSynchronized ?_ (by decide) (by decide)
  rw [e778]
  exact ⟨rfl, N778, rfl⟩
def Q11_62 (Z : State) (a1c : Addr) (ka1c : ClassId) (x1c : Int32) (x2c : Int32) (x3c : Int32) (x4c : Int32) (h0 : Heap) (n0 : Nat) (v : Option Value) (h : Heap) (L : List Loc) : Prop := v = some (.int (nar .char (x2c &&& (255 : Int32)).toUInt32.toUInt16.toUInt32.toInt32)) ∧ Fr n0 L ∧ (h = h0)
theorem ef11_rm11_62 (m : MethodId) (a1c : Addr) : entryFrame m #[(.ref a1c), (.int (1 : Int32))] 2 = (mkF m 0 #[.val (.ref a1c), .val (.int 1)] []) := by first | (simp [entryFrame, mkF, argsToLocals, Value.category, maxLocals]; done) | rfl
set_option maxRecDepth 65536 in
set_option maxHeartbeats 40000000 in
theorem rm11_62 (l : Launch) (Z : State) (a0 : Array Value) (hw : ∀ d ∈ tables_1, d.before a0 Z = true) (ws : List Jvm.Cond) (a1c : Addr) (ka1c : ClassId) (x1c : Int32) (x2c : Int32) (x3c : Int32) (x4c : Int32) (h0 : Heap) (n0 : Nat) (P0 : Arv Z h0 a1c ka1c .byte (4 : Int32) [(.int x1c), (.int x2c), (.int x3c), (.int x4c)] (.int (0 : Int32))) (P1 : Sta Z h0 "jdk/internal/util/Preconditions" "SIOOBE_FORMATTER" "Ljava/util/function/BiFunction;" .null)      :
    MetFree l Y11 (head1 (Jvm.Cond.code Y11 jdk_43_method_2_code 2 (some .char) :: ws) ({ frames := 2, cells := 0, slots := 0, locals := 27 } : Room)) (fun a U => a = #[(.ref a1c), (.int (1 : Int32))] ∧ Z.Warmed39 U.vm ∧ U.heap = h0) (fun _ _ _ _ _ => True) (fun _ U o U' => ∃ v L, o = .returned v ∧ (Q11_62 Z a1c ka1c x1c x2c x3c x4c h0 n0) v U'.heap L ∧ FrameEnd U o U' L 0 0) := by
  refine MetFree.of_bodySF (plainFor_of_name pn_java_lang_StringLatin1) hisR ?_
  intro p e s m args below meth c s₁ Bd hml0 hP hK
  obtain ⟨rfl, hZ, hh⟩ := hP
  have hx := Bd.exec
  have hby := Bd.bytes
  have hml : c.maxLocals = 2 := hml0
  have hown : s.vm.findClass "java/lang/StringLatin1" = some m.cls := findClass_of_methodNamed Bd.named
  have hnm := (name_of_methodNamed Bd.named Bd.method).1
  have X0 : Stand p l e ({ frames := 2, cells := 0, slots := 0, locals := 27 } : Room) s m #[(.ref a1c), (.int (1 : Int32))] below meth c s₁ [] 0 0 := Stand.of_body Bd
  have e0 : s₁.heap = h0 := by rw [← hh, Bd.state]; rfl
  have N0 := Fr.nil n0
  refine GoW.mk ?_
  refine GoW.st (fun t k => castTop (ef11_rm11_62 m a1c) k) ?_
  show GoW p e below s (Q11_62 Z a1c ka1c x1c x2c x3c x4c h0 n0) 0 0 (s₁.setTop (mkF m 0 #[.val (.ref a1c), .val (.int 1)] []))
  refine GoW.sg (mkF m 1 #[.val (.ref a1c), .val (.int 1)] [(.int 1)]) (fun t k => XS.iloadN X0.here hx rfl (hb hby d11_0) rfl k) ?_
  refine GoW.sg (mkF m 2 #[.val (.ref a1c), .val (.int 1)] [(.ref a1c), (.int 1)]) (fun t k => XS.aloadN X0.here hx rfl (hb hby d11_1) rfl rfl k) ?_
  obtain ⟨cl781, Ar781, q781, Sz781, Nn781, Hh781, Gg781⟩ := id P0
  have st781 := X0.arraylength hx (hq_ e0 Ar781.1) (State.isArrayOf_alike hZ.alike Ar781.2.1) (g := (mkF m 2 #[.val (.ref a1c), .val (.int 1)] [(.ref a1c), (.int 1)])) rfl rfl (hb hby d11_2)
  rw [len_of Sz781 Nn781] at st781
  refine GoW.sg (mkF m 3 #[.val (.ref a1c), .val (.int 1)] [(.int 4), (.int 1)]) (fun t k => st781 t k) ?_
  obtain ⟨_, T784, L784, X784, hQ784, st784⟩ := own_callS X0 hx hZ hown (y := Y12) (ww hw 53 rfl) (ww hw 54 rfl) (ww hw 3 rfl) (ww hw 55 rfl) (by decide) 0 (rm12_61 l Z a0 hw []   h0 n0  P1    ) (by decide) (by decide) e0 (by decide) (by decide) (g := (mkF m 3 #[.val (.ref a1c), .val (.int 1)] [(.int 4), (.int 1)])) rfl (by rw [hml]; rfl) (argsL := [(.int (1 : Int32)), (.int (4 : Int32))]) (rest := []) (lenOf pd_28II29V rfl) rfl (by show 2 * 0 + _ ≤ _; exact Nat.le_of_eq rfl) (hb hby d11_3)
  obtain ⟨rfl, N784q, e784⟩ := hQ784
  have N784 := Fr.app N0 N784q
  refine GoW.sg (mkF m 6 #[.val (.ref a1c), .val (.int 1)] []) (fun t k => st784 t k) ?_
  refine GoW.sg (mkF m 7 #[.val (.ref a1c), .val (.int 1)] [(.ref a1c)]) (fun t k => XS.aloadN X784.here hx rfl (hb hby d11_6) rfl rfl k) ?_
  refine GoW.sg (mkF m 8 #[.val (.ref a1c), .val (.int 1)] [(.int 1), (.ref a1c)]) (fun t k => XS.iloadN X784.here hx rfl (hb hby d11_7) rfl k) ?_
  obtain ⟨cl785, Ar785, q785, Sz785, Nn785, Hh785, Gg785⟩ := id P0
  have hin785 : ¬ ((1 : Int32) < 0 ∨ cl785.slots.size ≤ ((1 : Int32)).toNatClampNeg) := inb_of Sz785 ⟨by decide, by decide⟩
  refine GoW.sg (mkF m 9 #[.val (.ref a1c), .val (.int 1)] [(.int x2c)]) (fun t k => X784.baloadBytes hx (j := (1 : Int32)) (v := (.int x2c)) (hq_ e784 Ar785.1) (State.isArrayOf_alike hZ.alike Ar785.2.1) Ar785.2.2 hin785 (Hh785.at hin785 rfl) (g := (mkF m 8 #[.val (.ref a1c), .val (.int 1)] [(.int 1), (.ref a1c)])) rfl rfl (hb hby d11_8) t k) ?_
  refine GoW.sg (mkF m 12 #[.val (.ref a1c), .val (.int 1)] [(.int 255), (.int x2c)]) (fun t k => XS.sipush X784.here hx rfl (hb hby d11_9) k) ?_
  refine GoW.sg (mkF m 13 #[.val (.ref a1c), .val (.int 1)] [(.int (x2c &&& (255 : Int32)))]) (fun t k => XS.iand X784.here hx rfl (hb hby d11_12) rfl k) ?_
  refine GoW.sg (mkF m 14 #[.val (.ref a1c), .val (.int 1)] [(.int (x2c &&& (255 : Int32)).toUInt32.toUInt16.toUInt32.toInt32)]) (fun t k => XS.i2c X784.here hx rfl (hb hby d11_13) rfl k) ?_
  refine GoW.retN X784 hx (t := .char) Bd.returns (by simp) (hb hby d11_14) Bd.notSynchronized ?_ (by decide) (by decide)
  rw [e784]
  exact ⟨rfl, N784, rfl⟩
def Q13_64 (Z : State) (a1c : Addr) (h0 : Heap) (n0 : Nat) (v : Option Value) (h : Heap) (L : List Loc) : Prop := v = some (.int (1 : Int32)) ∧ Fr n0 L ∧ (h = h0)
theorem ef13_rm13_64 (m : MethodId) (a1c : Addr) : entryFrame m #[(.int (1 : Int32)), (.int (4 : Int32)), (.ref a1c)] 3 = (mkF m 0 #[.val (.int 1), .val (.int 4), .val (.ref a1c)] []) := by first | (simp [entryFrame, mkF, argsToLocals, Value.category, maxLocals]; done) | rfl
set_option maxRecDepth 65536 in
set_option maxHeartbeats 40000000 in
theorem rm13_64 (l : Launch) (Z : State) (a0 : Array Value) (hw : ∀ d ∈ tables_1, d.before a0 Z = true) (ws : List Jvm.Cond) (a1c : Addr)  (h0 : Heap) (n0 : Nat)       :
    MetFree l Y13 (head1 (Jvm.Cond.code Y13 jdk_41_method_11_code 3 (some .int) :: ws) ({ frames := 0, cells := 0, slots := 0, locals := 0 } : Room)) (fun a U => a = #[(.int (1 : Int32)), (.int (4 : Int32)), (.ref a1c)] ∧ Z.Warmed39 U.vm ∧ U.heap = h0) (fun _ _ _ _ _ => True) (fun _ U o U' => ∃ v L, o = .returned v ∧ (Q13_64 Z a1c h0 n0) v U'.heap L ∧ FrameEnd U o U' L 0 0) := by
  refine MetFree.of_bodySF (plainFor_of_name pn_jdk_internal_util_Preconditions) hisR ?_
  intro p e s m args below meth c s₁ Bd hml0 hP hK
  obtain ⟨rfl, hZ, hh⟩ := hP
  have hx := Bd.exec
  have hby := Bd.bytes
  have hml : c.maxLocals = 3 := hml0
  have hown : s.vm.findClass "jdk/internal/util/Preconditions" = some m.cls := findClass_of_methodNamed Bd.named
  have hnm := (name_of_methodNamed Bd.named Bd.method).1
  have X0 : Stand p l e ({ frames := 0, cells := 0, slots := 0, locals := 0 } : Room) s m #[(.int (1 : Int32)), (.int (4 : Int32)), (.ref a1c)] below meth c s₁ [] 0 0 := Stand.of_body Bd
  have e0 : s₁.heap = h0 := by rw [← hh, Bd.state]; rfl
  have N0 := Fr.nil n0
  refine GoW.mk ?_
  refine GoW.st (fun t k => castTop (ef13_rm13_64 m a1c) k) ?_
  show GoW p e below s (Q13_64 Z a1c h0 n0) 0 0 (s₁.setTop (mkF m 0 (Sh14 1 4 a1c) []))
  refine GoW.sg (mkF m 1 (Sh14 1 4 a1c) [(.int 1)]) (fun t k => XS.iloadN X0.here hx rfl (hb hby d13_0) rfl k) ?_
  refine GoW.sg (mkF m 4 (Sh14 1 4 a1c) []) (fun t k => XS.ifNo X0.here hx rfl (hb hby d13_1) rfl (by decide) k) ?_
  refine GoW.sg (mkF m 5 (Sh14 1 4 a1c) [(.int 1)]) (fun t k => XS.iloadN X0.here hx rfl (hb hby d13_4) rfl k) ?_
  refine GoW.sg (mkF m 6 (Sh14 1 4 a1c) [(.int 4), (.int 1)]) (fun t k => XS.iloadN X0.here hx rfl (hb hby d13_5) rfl k) ?_
  refine GoW.sg (mkF m 16 (Sh14 1 4 a1c) []) (fun t k => XS.icmpYes X0.here hx rfl (pc0 := 6) (pc' := 16) rfl (hb hby d13_6) rfl (by decide) (by decide) (by decide) k) ?_
  refine GoW.sg (mkF m 17 (Sh14 1 4 a1c) [(.int 1)]) (fun t k => XS.iloadN X0.here hx rfl (hb hby d13_16) rfl k) ?_
  refine GoW.retI X0 hx Bd.returns (hb hby d13_17) Bd.notSynchronized ?_ (by decide) (by decide)
  rw [e0]
  exact ⟨rfl, N0, rfl⟩
def Q12_65 (Z : State) (a1c : Addr) (h0 : Heap) (n0 : Nat) (v : Option Value) (h : Heap) (L : List Loc) : Prop := v = none ∧ Fr n0 L ∧ (h = h0)
theorem ef12_rm12_65 (m : MethodId)  : entryFrame m #[(.int (1 : Int32)), (.int (4 : Int32))] 2 = (mkF m 0 #[.val (.int 1), .val (.int 4)] []) := by first | (simp [entryFrame, mkF, argsToLocals, Value.category, maxLocals]; done) | rfl
set_option maxRecDepth 65536 in
set_option maxHeartbeats 40000000 in
theorem rm12_65 (l : Launch) (Z : State) (a0 : Array Value) (hw : ∀ d ∈ tables_1, d.before a0 Z = true) (ws : List Jvm.Cond)  (a1c : Addr) (h0 : Heap) (n0 : Nat) (P0 : Sta Z h0 "jdk/internal/util/Preconditions" "SIOOBE_FORMATTER" "Ljava/util/function/BiFunction;" (.ref a1c))      :
    MetFree l Y12 (head1 (Jvm.Cond.code Y12 jdk_42_method_155_code 2 none :: ws) ({ frames := 1, cells := 0, slots := 0, locals := 14 } : Room)) (fun a U => a = #[(.int (1 : Int32)), (.int (4 : Int32))] ∧ Z.Warmed39 U.vm ∧ U.heap = h0) (fun _ _ _ _ _ => True) (fun _ U o U' => ∃ v L, o = .returned v ∧ (Q12_65 Z a1c h0 n0) v U'.heap L ∧ FrameEnd U o U' L 0 0) := by
  refine MetFree.of_bodySF (plainFor_of_name pn_java_lang_String) hisR ?_
  intro p e s m args below meth c s₁ Bd hml0 hP hK
  obtain ⟨rfl, hZ, hh⟩ := hP
  have hx := Bd.exec
  have hby := Bd.bytes
  have hml : c.maxLocals = 2 := hml0
  have hown : s.vm.findClass "java/lang/String" = some m.cls := findClass_of_methodNamed Bd.named
  have hnm := (name_of_methodNamed Bd.named Bd.method).1
  have X0 : Stand p l e ({ frames := 1, cells := 0, slots := 0, locals := 14 } : Room) s m #[(.int (1 : Int32)), (.int (4 : Int32))] below meth c s₁ [] 0 0 := Stand.of_body Bd
  have e0 : s₁.heap = h0 := by rw [← hh, Bd.state]; rfl
  have N0 := Fr.nil n0
  refine GoW.mk ?_
  refine GoW.st (fun t k => castTop (ef12_rm12_65 m ) k) ?_
  show GoW p e below s (Q12_65 Z a1c h0 n0) 0 0 (s₁.setTop (mkF m 0 #[.val (.int 1), .val (.int 4)] []))
  refine GoW.sg (mkF m 1 #[.val (.int 1), .val (.int 4)] [(.int 1)]) (fun t k => XS.iloadN X0.here hx rfl (hb hby d12_0) rfl k) ?_
  refine GoW.sg (mkF m 2 #[.val (.int 1), .val (.int 4)] [(.int 4), (.int 1)]) (fun t k => XS.iloadN X0.here hx rfl (hb hby d12_1) rfl k) ?_
  obtain ⟨T800, X800, e800, st800⟩ := getS (host := "") X0 hx hZ hown (ww hw 56 rfl) Via.refl e0 P0 (g := (mkF m 2 #[.val (.int 1), .val (.int 4)] [(.int 4), (.int 1)])) rfl (hb hby d12_2)
  refine GoW.sg (mkF m 5 #[.val (.int 1), .val (.int 4)] [(.ref a1c), (.int 4), (.int 1)]) (fun t k => st800 t k) ?_
  obtain ⟨_, T801, L801, X801, hQ801, st801⟩ := own_callS X800 hx hZ hown (y := Y13) (ww hw 58 rfl) (ww hw 59 rfl) (ww hw 57 rfl) (ww hw 60 rfl) (by decide) 0 (rm13_64 l Z a0 hw [] a1c  h0 n0      ) (by decide) (by decide) e800 (by decide) (by decide) (g := (mkF m 5 #[.val (.int 1), .val (.int 4)] [(.ref a1c), (.int 4), (.int 1)])) rfl (by rw [hml]; rfl) (argsL := [(.int (1 : Int32)), (.int (4 : Int32)), (.ref a1c)]) (rest := []) (lenOf pd_28IILjava2futil2ffunction2fBiFunction3b29I rfl) rfl (by show 2 * 0 + _ ≤ _; exact Nat.le_of_eq rfl) (hb hby d12_5)
  obtain ⟨rfl, N801q, e801⟩ := hQ801
  have N801 := Fr.app N0 N801q
  refine GoW.sg (mkF m 8 #[.val (.int 1), .val (.int 4)] [(.int 1)]) (fun t k => st801 t k) ?_
  refine GoW.sg (mkF m 9 #[.val (.int 1), .val (.int 4)] []) (fun t k => XS.pop X801.here hx rfl (hb hby d12_8) rfl rfl k) ?_
  refine GoW.retV X801 hx Bd.returns (hb hby d12_9) Bd.notSynchronized ?_ (by decide) (by decide)
  rw [e801]
  exact ⟨rfl, N801, rfl⟩
def Q11_66 (Z : State) (a1c : Addr) (ka1c : ClassId) (x1c : Int32) (x2c : Int32) (x3c : Int32) (x4c : Int32) (a2c : Addr) (h0 : Heap) (n0 : Nat) (v : Option Value) (h : Heap) (L : List Loc) : Prop := v = some (.int (nar .char (x2c &&& (255 : Int32)).toUInt32.toUInt16.toUInt32.toInt32)) ∧ Fr n0 L ∧ (h = h0)
theorem ef11_rm11_66 (m : MethodId) (a1c : Addr) : entryFrame m #[(.ref a1c), (.int (1 : Int32))] 2 = (mkF m 0 #[.val (.ref a1c), .val (.int 1)] []) := by first | (simp [entryFrame, mkF, argsToLocals, Value.category, maxLocals]; done) | rfl
set_option maxRecDepth 65536 in
set_option maxHeartbeats 40000000 in
theorem rm11_66 (l : Launch) (Z : State) (a0 : Array Value) (hw : ∀ d ∈ tables_1, d.before a0 Z = true) (ws : List Jvm.Cond) (a1c : Addr) (ka1c : ClassId) (x1c : Int32) (x2c : Int32) (x3c : Int32) (x4c : Int32) (a2c : Addr) (h0 : Heap) (n0 : Nat) (P0 : Arv Z h0 a1c ka1c .byte (4 : Int32) [(.int x1c), (.int x2c), (.int x3c), (.int x4c)] (.int (0 : Int32))) (P1 : Sta Z h0 "jdk/internal/util/Preconditions" "SIOOBE_FORMATTER" "Ljava/util/function/BiFunction;" (.ref a2c))      :
    MetFree l Y11 (head1 (Jvm.Cond.code Y11 jdk_43_method_2_code 2 (some .char) :: ws) ({ frames := 2, cells := 0, slots := 0, locals := 27 } : Room)) (fun a U => a = #[(.ref a1c), (.int (1 : Int32))] ∧ Z.Warmed39 U.vm ∧ U.heap = h0) (fun _ _ _ _ _ => True) (fun _ U o U' => ∃ v L, o = .returned v ∧ (Q11_66 Z a1c ka1c x1c x2c x3c x4c a2c h0 n0) v U'.heap L ∧ FrameEnd U o U' L 0 0) := by
  refine MetFree.of_bodySF (plainFor_of_name pn_java_lang_StringLatin1) hisR ?_
  intro p e s m args below meth c s₁ Bd hml0 hP hK
  obtain ⟨rfl, hZ, hh⟩ := hP
  have hx := Bd.exec
  have hby := Bd.bytes
  have hml : c.maxLocals = 2 := hml0
  have hown : s.vm.findClass "java/lang/StringLatin1" = some m.cls := findClass_of_methodNamed Bd.named
  have hnm := (name_of_methodNamed Bd.named Bd.method).1
  have X0 : Stand p l e ({ frames := 2, cells := 0, slots := 0, locals := 27 } : Room) s m #[(.ref a1c), (.int (1 : Int32))] below meth c s₁ [] 0 0 := Stand.of_body Bd
  have e0 : s₁.heap = h0 := by rw [← hh, Bd.state]; rfl
  have N0 := Fr.nil n0
  refine GoW.mk ?_
  refine GoW.st (fun t k => castTop (ef11_rm11_66 m a1c) k) ?_
  show GoW p e below s (Q11_66 Z a1c ka1c x1c x2c x3c x4c a2c h0 n0) 0 0 (s₁.setTop (mkF m 0 #[.val (.ref a1c), .val (.int 1)] []))
  refine GoW.sg (mkF m 1 #[.val (.ref a1c), .val (.int 1)] [(.int 1)]) (fun t k => XS.iloadN X0.here hx rfl (hb hby d11_0) rfl k) ?_
  refine GoW.sg (mkF m 2 #[.val (.ref a1c), .val (.int 1)] [(.ref a1c), (.int 1)]) (fun t k => XS.aloadN X0.here hx rfl (hb hby d11_1) rfl rfl k) ?_
  obtain ⟨cl804, Ar804, q804, Sz804, Nn804, Hh804, Gg804⟩ := id P0
  have st804 := X0.arraylength hx (hq_ e0 Ar804.1) (State.isArrayOf_alike hZ.alike Ar804.2.1) (g := (mkF m 2 #[.val (.ref a1c), .val (.int 1)] [(.ref a1c), (.int 1)])) rfl rfl (hb hby d11_2)
  rw [len_of Sz804 Nn804] at st804
  refine GoW.sg (mkF m 3 #[.val (.ref a1c), .val (.int 1)] [(.int 4), (.int 1)]) (fun t k => st804 t k) ?_
  obtain ⟨_, T807, L807, X807, hQ807, st807⟩ := own_callS X0 hx hZ hown (y := Y12) (ww hw 53 rfl) (ww hw 54 rfl) (ww hw 3 rfl) (ww hw 55 rfl) (by decide) 0 (rm12_65 l Z a0 hw []  a2c h0 n0  P1    ) (by decide) (by decide) e0 (by decide) (by decide) (g := (mkF m 3 #[.val (.ref a1c), .val (.int 1)] [(.int 4), (.int 1)])) rfl (by rw [hml]; rfl) (argsL := [(.int (1 : Int32)), (.int (4 : Int32))]) (rest := []) (lenOf pd_28II29V rfl) rfl (by show 2 * 0 + _ ≤ _; exact Nat.le_of_eq rfl) (hb hby d11_3)
  obtain ⟨rfl, N807q, e807⟩ := hQ807
  have N807 := Fr.app N0 N807q
  refine GoW.sg (mkF m 6 #[.val (.ref a1c), .val (.int 1)] []) (fun t k => st807 t k) ?_
  refine GoW.sg (mkF m 7 #[.val (.ref a1c), .val (.int 1)] [(.ref a1c)]) (fun t k => XS.aloadN X807.here hx rfl (hb hby d11_6) rfl rfl k) ?_
  refine GoW.sg (mkF m 8 #[.val (.ref a1c), .val (.int 1)] [(.int 1), (.ref a1c)]) (fun t k => XS.iloadN X807.here hx rfl (hb hby d11_7) rfl k) ?_
  obtain ⟨cl808, Ar808, q808, Sz808, Nn808, Hh808, Gg808⟩ := id P0
  have hin808 : ¬ ((1 : Int32) < 0 ∨ cl808.slots.size ≤ ((1 : Int32)).toNatClampNeg) := inb_of Sz808 ⟨by decide, by decide⟩
  refine GoW.sg (mkF m 9 #[.val (.ref a1c), .val (.int 1)] [(.int x2c)]) (fun t k => X807.baloadBytes hx (j := (1 : Int32)) (v := (.int x2c)) (hq_ e807 Ar808.1) (State.isArrayOf_alike hZ.alike Ar808.2.1) Ar808.2.2 hin808 (Hh808.at hin808 rfl) (g := (mkF m 8 #[.val (.ref a1c), .val (.int 1)] [(.int 1), (.ref a1c)])) rfl rfl (hb hby d11_8) t k) ?_
  refine GoW.sg (mkF m 12 #[.val (.ref a1c), .val (.int 1)] [(.int 255), (.int x2c)]) (fun t k => XS.sipush X807.here hx rfl (hb hby d11_9) k) ?_
  refine GoW.sg (mkF m 13 #[.val (.ref a1c), .val (.int 1)] [(.int (x2c &&& (255 : Int32)))]) (fun t k => XS.iand X807.here hx rfl (hb hby d11_12) rfl k) ?_
  refine GoW.sg (mkF m 14 #[.val (.ref a1c), .val (.int 1)] [(.int (x2c &&& (255 : Int32)).toUInt32.toUInt16.toUInt32.toInt32)]) (fun t k => XS.i2c X807.here hx rfl (hb hby d11_13) rfl k) ?_
  refine GoW.retN X807 hx (t := .char) Bd.returns (by simp) (hb hby d11_14) Bd.notSynchronized ?_ (by decide) (by decide)
  rw [e807]
  exact ⟨rfl, N807, rfl⟩
def Q20_68 (Z : State) (a1c : Addr) (ka1c : ClassId) (x1c : Int32) (x2c : Int32) (x3c : Int32) (x4c : Int32) (x5c : Int32) (x6c : Int32) (x7c : Int32) (x8c : Int32) (h0 : Heap) (n0 : Nat) (v : Option Value) (h : Heap) (L : List Loc) : Prop := v = none ∧ Fr n0 L ∧ (h = h0)
theorem ef20_rm20_68 (m : MethodId) (a1c : Addr) : entryFrame m #[(.int (1 : Int32)), (.ref a1c)] 2 = (mkF m 0 #[.val (.int 1), .val (.ref a1c)] []) := by first | (simp [entryFrame, mkF, argsToLocals, Value.category, maxLocals]; done) | rfl
set_option maxRecDepth 65536 in
set_option maxHeartbeats 40000000 in
theorem rm20_68 (l : Launch) (Z : State) (a0 : Array Value) (hw : ∀ d ∈ tables_1, d.before a0 Z = true) (ws : List Jvm.Cond) (a1c : Addr) (ka1c : ClassId) (x1c : Int32) (x2c : Int32) (x3c : Int32) (x4c : Int32) (x5c : Int32) (x6c : Int32) (x7c : Int32) (x8c : Int32) (h0 : Heap) (n0 : Nat) (P0 : Arv Z h0 a1c ka1c .byte (8 : Int32) [(.int x1c), (.int x2c), (.int x3c), (.int x4c), (.int x5c), (.int x6c), (.int x7c), (.int x8c)] (.int (0 : Int32))) (P1 : Sta Z h0 "jdk/internal/util/Preconditions" "SIOOBE_FORMATTER" "Ljava/util/function/BiFunction;" .null)      :
    MetFree l Y20 (head1 (Jvm.Cond.code Y20 jdk_52_method_91_code 2 none :: ws) ({ frames := 2, cells := 0, slots := 0, locals := 27 } : Room)) (fun a U => a = #[(.int (1 : Int32)), (.ref a1c)] ∧ Z.Warmed39 U.vm ∧ U.heap = h0) (fun _ _ _ _ _ => True) (fun _ U o U' => ∃ v L, o = .returned v ∧ (Q20_68 Z a1c ka1c x1c x2c x3c x4c x5c x6c x7c x8c h0 n0) v U'.heap L ∧ FrameEnd U o U' L 0 0) := by
  refine MetFree.of_bodySF (plainFor_of_name pn_java_lang_StringUTF16) hisR ?_
  intro p e s m args below meth c s₁ Bd hml0 hP hK
  obtain ⟨rfl, hZ, hh⟩ := hP
  have hx := Bd.exec
  have hby := Bd.bytes
  have hml : c.maxLocals = 2 := hml0
  have hown : s.vm.findClass "java/lang/StringUTF16" = some m.cls := findClass_of_methodNamed Bd.named
  have hnm := (name_of_methodNamed Bd.named Bd.method).1
  have X0 : Stand p l e ({ frames := 2, cells := 0, slots := 0, locals := 27 } : Room) s m #[(.int (1 : Int32)), (.ref a1c)] below meth c s₁ [] 0 0 := Stand.of_body Bd
  have e0 : s₁.heap = h0 := by rw [← hh, Bd.state]; rfl
  have N0 := Fr.nil n0
  refine GoW.mk ?_
  refine GoW.st (fun t k => castTop (ef20_rm20_68 m a1c) k) ?_
  show GoW p e below s (Q20_68 Z a1c ka1c x1c x2c x3c x4c x5c x6c x7c x8c h0 n0) 0 0 (s₁.setTop (mkF m 0 #[.val (.int 1), .val (.ref a1c)] []))
  refine GoW.sg (mkF m 1 #[.val (.int 1), .val (.ref a1c)] [(.int 1)]) (fun t k => XS.iloadN X0.here hx rfl (hb hby d20_0) rfl k) ?_
  refine GoW.sg (mkF m 2 #[.val (.int 1), .val (.ref a1c)] [(.ref a1c), (.int 1)]) (fun t k => XS.aloadN X0.here hx rfl (hb hby d20_1) rfl rfl k) ?_
  obtain ⟨_, T822, L822, X822, hQ822, st822⟩ := own_callS X0 hx hZ hown (y := Y21) (ww hw 86 rfl) (ww hw 87 rfl) (ww hw 17 rfl) (ww hw 88 rfl) (by decide) 1 (rm21_49 l Z a0 hw [] a1c ka1c x1c x2c x3c x4c x5c x6c x7c x8c h0 n0  P0    ) (by decide) (by decide) e0 (by decide) (by decide) (g := (mkF m 2 #[.val (.int 1), .val (.ref a1c)] [(.ref a1c), (.int 1)])) rfl (by rw [hml]; rfl) (argsL := [(.ref a1c)]) (rest := [(.int (1 : Int32))]) (lenOf pd_285bB29I rfl) rfl (by show 2 * 0 + _ ≤ _; exact Nat.le_of_eq rfl) (hb hby d20_2)
  obtain ⟨rfl, N822q, e822⟩ := hQ822
  have N822 := Fr.app N0 N822q
  refine GoW.sg (mkF m 5 #[.val (.int 1), .val (.ref a1c)] [(.int 4), (.int 1)]) (fun t k => st822 t k) ?_
  obtain ⟨_, T823, L823, X823, hQ823, st823⟩ := own_callS X822 hx hZ hown (y := Y12) (ww hw 89 rfl) (ww hw 54 rfl) (ww hw 3 rfl) (ww hw 55 rfl) (by decide) 0 (rm12_61 l Z a0 hw []   h0 n0  P1    ) (by decide) (by decide) e822 (by decide) (by decide) (g := (mkF m 5 #[.val (.int 1), .val (.ref a1c)] [(.int 4), (.int 1)])) rfl (by rw [hml]; rfl) (argsL := [(.int (1 : Int32)), (.int (4 : Int32))]) (rest := []) (lenOf pd_28II29V rfl) rfl (by show 2 * 0 + _ ≤ _; exact Nat.le_of_eq rfl) (hb hby d20_5)
  obtain ⟨rfl, N823q, e823⟩ := hQ823
  have N823 := Fr.app N822 N823q
  refine GoW.sg (mkF m 8 #[.val (.int 1), .val (.ref a1c)] []) (fun t k => st823 t k) ?_
  refine GoW.retV X823 hx Bd.returns (hb hby d20_8) Bd.notSynchronized ?_ (by decide) (by decide)
  rw [e823]
  exact ⟨rfl, N823, rfl⟩
def Q19_69 (Z : State) (a1c : Addr) (ka1c : ClassId) (x1c : Int32) (x2c : Int32) (x3c : Int32) (x4c : Int32) (x5c : Int32) (x6c : Int32) (x7c : Int32) (x8c : Int32) (h0 : Heap) (n0 : Nat) (v : Option Value) (h : Heap) (L : List Loc) : Prop := v = some (.int (nar .char (nar .char (((x3c &&& (255 : Int32)) <<< ((0 : Int32) &&& 31)) ||| ((x4c &&& (255 : Int32)) <<< ((8 : Int32) &&& 31))).toUInt32.toUInt16.toUInt32.toInt32))) ∧ Fr n0 L ∧ (h = h0)
theorem ef19_rm19_69 (m : MethodId) (a1c : Addr) : entryFrame m #[(.ref a1c), (.int (1 : Int32))] 2 = (mkF m 0 #[.val (.ref a1c), .val (.int 1)] []) := by first | (simp [entryFrame, mkF, argsToLocals, Value.category, maxLocals]; done) | rfl
set_option maxRecDepth 65536 in
set_option maxHeartbeats 40000000 in
theorem rm19_69 (l : Launch) (Z : State) (a0 : Array Value) (hw : ∀ d ∈ tables_1, d.before a0 Z = true) (ws : List Jvm.Cond) (a1c : Addr) (ka1c : ClassId) (x1c : Int32) (x2c : Int32) (x3c : Int32) (x4c : Int32) (x5c : Int32) (x6c : Int32) (x7c : Int32) (x8c : Int32) (h0 : Heap) (n0 : Nat) (P0 : Arv Z h0 a1c ka1c .byte (8 : Int32) [(.int x1c), (.int x2c), (.int x3c), (.int x4c), (.int x5c), (.int x6c), (.int x7c), (.int x8c)] (.int (0 : Int32))) (P1 : Sta Z h0 "java/lang/StringUTF16" "$assertionsDisabled" "Z" (.int (1 : Int32))) (P2 : Sta Z h0 "java/lang/StringUTF16" "HI_BYTE_SHIFT" "I" (.int (0 : Int32))) (P3 : Sta Z h0 "java/lang/StringUTF16" "LO_BYTE_SHIFT" "I" (.int (8 : Int32))) (P4 : Sta Z h0 "jdk/internal/util/Preconditions" "SIOOBE_FORMATTER" "Ljava/util/function/BiFunction;" .null)      :
    MetFree l Y19 (head1 (Jvm.Cond.code Y19 jdk_52_method_83_code 2 (some .char) :: ws) ({ frames := 3, cells := 0, slots := 0, locals := 40 } : Room)) (fun a U => a = #[(.ref a1c), (.int (1 : Int32))] ∧ Z.Warmed39 U.vm ∧ U.heap = h0) (fun _ _ _ _ _ => True) (fun _ U o U' => ∃ v L, o = .returned v ∧ (Q19_69 Z a1c ka1c x1c x2c x3c x4c x5c x6c x7c x8c h0 n0) v U'.heap L ∧ FrameEnd U o U' L 0 0) := by
  refine MetFree.of_bodySF (plainFor_of_name pn_java_lang_StringUTF16) hisR ?_
  intro p e s m args below meth c s₁ Bd hml0 hP hK
  obtain ⟨rfl, hZ, hh⟩ := hP
  have hx := Bd.exec
  have hby := Bd.bytes
  have hml : c.maxLocals = 2 := hml0
  have hown : s.vm.findClass "java/lang/StringUTF16" = some m.cls := findClass_of_methodNamed Bd.named
  have hnm := (name_of_methodNamed Bd.named Bd.method).1
  have X0 : Stand p l e ({ frames := 3, cells := 0, slots := 0, locals := 40 } : Room) s m #[(.ref a1c), (.int (1 : Int32))] below meth c s₁ [] 0 0 := Stand.of_body Bd
  have e0 : s₁.heap = h0 := by rw [← hh, Bd.state]; rfl
  have N0 := Fr.nil n0
  refine GoW.mk ?_
  refine GoW.st (fun t k => castTop (ef19_rm19_69 m a1c) k) ?_
  show GoW p e below s (Q19_69 Z a1c ka1c x1c x2c x3c x4c x5c x6c x7c x8c h0 n0) 0 0 (s₁.setTop (mkF m 0 #[.val (.ref a1c), .val (.int 1)] []))
  refine GoW.sg (mkF m 1 #[.val (.ref a1c), .val (.int 1)] [(.int 1)]) (fun t k => XS.iloadN X0.here hx rfl (hb hby d19_0) rfl k) ?_
  refine GoW.sg (mkF m 2 #[.val (.ref a1c), .val (.int 1)] [(.ref a1c), (.int 1)]) (fun t k => XS.aloadN X0.here hx rfl (hb hby d19_1) rfl rfl k) ?_
  obtain ⟨_, T835, L835, X835, hQ835, st835⟩ := own_callS X0 hx hZ hown (y := Y20) (ww hw 83 rfl) (ww hw 84 rfl) (ww hw 17 rfl) (ww hw 85 rfl) (by decide) 0 (rm20_68 l Z a0 hw [] a1c ka1c x1c x2c x3c x4c x5c x6c x7c x8c h0 n0  P0 P4    ) (by decide) (by decide) e0 (by decide) (by decide) (g := (mkF m 2 #[.val (.ref a1c), .val (.int 1)] [(.ref a1c), (.int 1)])) rfl (by rw [hml]; rfl) (argsL := [(.int (1 : Int32)), (.ref a1c)]) (rest := []) (lenOf pd_28I5bB29V rfl) rfl (by show 2 * 0 + _ ≤ _; exact Nat.le_of_eq rfl) (hb hby d19_2)
  obtain ⟨rfl, N835q, e835⟩ := hQ835
  have N835 := Fr.app N0 N835q
  refine GoW.sg (mkF m 5 #[.val (.ref a1c), .val (.int 1)] []) (fun t k => st835 t k) ?_
  refine GoW.sg (mkF m 6 #[.val (.ref a1c), .val (.int 1)] [(.ref a1c)]) (fun t k => XS.aloadN X835.here hx rfl (hb hby d19_5) rfl rfl k) ?_
  refine GoW.sg (mkF m 7 #[.val (.ref a1c), .val (.int 1)] [(.int 1), (.ref a1c)]) (fun t k => XS.iloadN X835.here hx rfl (hb hby d19_6) rfl k) ?_
  obtain ⟨_, T841, L841, X841, hQ841, st841⟩ := own_callS X835 hx hZ hown (y := Y18) (ww hw 77 rfl) (ww hw 78 rfl) (ww hw 17 rfl) (ww hw 79 rfl) (by decide) 0 (rm18_15 l Z a0 hw [] a1c ka1c x1c x2c x3c x4c x5c x6c x7c x8c h0 n0  P0 P1 P2 P3    ) (by decide) (by decide) e835 (by decide) (by decide) (g := (mkF m 7 #[.val (.ref a1c), .val (.int 1)] [(.int 1), (.ref a1c)])) rfl (by rw [hml]; rfl) (argsL := [(.ref a1c), (.int (1 : Int32))]) (rest := []) (lenOf pd_285bBI29C rfl) rfl (by show 2 * 0 + _ ≤ _; exact Nat.le_of_eq rfl) (hb hby d19_7)
  obtain ⟨rfl, N841q, e841⟩ := hQ841
  have N841 := Fr.app N835 N841q
  refine GoW.sg (mkF m 10 #[.val (.ref a1c), .val (.int 1)] [(.int (nar .char (((x3c &&& (255 : Int32)) <<< ((0 : Int32) &&& 31)) ||| ((x4c &&& (255 : Int32)) <<< ((8 : Int32) &&& 31))).toUInt32.toUInt16.toUInt32.toInt32))]) (fun t k => st841 t k) ?_
  refine GoW.retN X841 hx (t := .char) Bd.returns (by simp) (hb hby d19_10) Bd.notSynchronized ?_ (by decide) (by decide)
  rw [e841]
  exact ⟨rfl, N841, rfl⟩
def Q20_71 (Z : State) (a1c : Addr) (ka1c : ClassId) (x1c : Int32) (x2c : Int32) (x3c : Int32) (x4c : Int32) (x5c : Int32) (x6c : Int32) (x7c : Int32) (x8c : Int32) (a2c : Addr) (h0 : Heap) (n0 : Nat) (v : Option Value) (h : Heap) (L : List Loc) : Prop := v = none ∧ Fr n0 L ∧ (h = h0)
theorem ef20_rm20_71 (m : MethodId) (a1c : Addr) : entryFrame m #[(.int (1 : Int32)), (.ref a1c)] 2 = (mkF m 0 #[.val (.int 1), .val (.ref a1c)] []) := by first | (simp [entryFrame, mkF, argsToLocals, Value.category, maxLocals]; done) | rfl
set_option maxRecDepth 65536 in
set_option maxHeartbeats 40000000 in
theorem rm20_71 (l : Launch) (Z : State) (a0 : Array Value) (hw : ∀ d ∈ tables_1, d.before a0 Z = true) (ws : List Jvm.Cond) (a1c : Addr) (ka1c : ClassId) (x1c : Int32) (x2c : Int32) (x3c : Int32) (x4c : Int32) (x5c : Int32) (x6c : Int32) (x7c : Int32) (x8c : Int32) (a2c : Addr) (h0 : Heap) (n0 : Nat) (P0 : Arv Z h0 a1c ka1c .byte (8 : Int32) [(.int x1c), (.int x2c), (.int x3c), (.int x4c), (.int x5c), (.int x6c), (.int x7c), (.int x8c)] (.int (0 : Int32))) (P1 : Sta Z h0 "jdk/internal/util/Preconditions" "SIOOBE_FORMATTER" "Ljava/util/function/BiFunction;" (.ref a2c))      :
    MetFree l Y20 (head1 (Jvm.Cond.code Y20 jdk_52_method_91_code 2 none :: ws) ({ frames := 2, cells := 0, slots := 0, locals := 27 } : Room)) (fun a U => a = #[(.int (1 : Int32)), (.ref a1c)] ∧ Z.Warmed39 U.vm ∧ U.heap = h0) (fun _ _ _ _ _ => True) (fun _ U o U' => ∃ v L, o = .returned v ∧ (Q20_71 Z a1c ka1c x1c x2c x3c x4c x5c x6c x7c x8c a2c h0 n0) v U'.heap L ∧ FrameEnd U o U' L 0 0) := by
  refine MetFree.of_bodySF (plainFor_of_name pn_java_lang_StringUTF16) hisR ?_
  intro p e s m args below meth c s₁ Bd hml0 hP hK
  obtain ⟨rfl, hZ, hh⟩ := hP
  have hx := Bd.exec
  have hby := Bd.bytes
  have hml : c.maxLocals = 2 := hml0
  have hown : s.vm.findClass "java/lang/StringUTF16" = some m.cls := findClass_of_methodNamed Bd.named
  have hnm := (name_of_methodNamed Bd.named Bd.method).1
  have X0 : Stand p l e ({ frames := 2, cells := 0, slots := 0, locals := 27 } : Room) s m #[(.int (1 : Int32)), (.ref a1c)] below meth c s₁ [] 0 0 := Stand.of_body Bd
  have e0 : s₁.heap = h0 := by rw [← hh, Bd.state]; rfl
  have N0 := Fr.nil n0
  refine GoW.mk ?_
  refine GoW.st (fun t k => castTop (ef20_rm20_71 m a1c) k) ?_
  show GoW p e below s (Q20_71 Z a1c ka1c x1c x2c x3c x4c x5c x6c x7c x8c a2c h0 n0) 0 0 (s₁.setTop (mkF m 0 #[.val (.int 1), .val (.ref a1c)] []))
  refine GoW.sg (mkF m 1 #[.val (.int 1), .val (.ref a1c)] [(.int 1)]) (fun t k => XS.iloadN X0.here hx rfl (hb hby d20_0) rfl k) ?_
  refine GoW.sg (mkF m 2 #[.val (.int 1), .val (.ref a1c)] [(.ref a1c), (.int 1)]) (fun t k => XS.aloadN X0.here hx rfl (hb hby d20_1) rfl rfl k) ?_
  obtain ⟨_, T850, L850, X850, hQ850, st850⟩ := own_callS X0 hx hZ hown (y := Y21) (ww hw 86 rfl) (ww hw 87 rfl) (ww hw 17 rfl) (ww hw 88 rfl) (by decide) 1 (rm21_49 l Z a0 hw [] a1c ka1c x1c x2c x3c x4c x5c x6c x7c x8c h0 n0  P0    ) (by decide) (by decide) e0 (by decide) (by decide) (g := (mkF m 2 #[.val (.int 1), .val (.ref a1c)] [(.ref a1c), (.int 1)])) rfl (by rw [hml]; rfl) (argsL := [(.ref a1c)]) (rest := [(.int (1 : Int32))]) (lenOf pd_285bB29I rfl) rfl (by show 2 * 0 + _ ≤ _; exact Nat.le_of_eq rfl) (hb hby d20_2)
  obtain ⟨rfl, N850q, e850⟩ := hQ850
  have N850 := Fr.app N0 N850q
  refine GoW.sg (mkF m 5 #[.val (.int 1), .val (.ref a1c)] [(.int 4), (.int 1)]) (fun t k => st850 t k) ?_
  obtain ⟨_, T851, L851, X851, hQ851, st851⟩ := own_callS X850 hx hZ hown (y := Y12) (ww hw 89 rfl) (ww hw 54 rfl) (ww hw 3 rfl) (ww hw 55 rfl) (by decide) 0 (rm12_65 l Z a0 hw []  a2c h0 n0  P1    ) (by decide) (by decide) e850 (by decide) (by decide) (g := (mkF m 5 #[.val (.int 1), .val (.ref a1c)] [(.int 4), (.int 1)])) rfl (by rw [hml]; rfl) (argsL := [(.int (1 : Int32)), (.int (4 : Int32))]) (rest := []) (lenOf pd_28II29V rfl) rfl (by show 2 * 0 + _ ≤ _; exact Nat.le_of_eq rfl) (hb hby d20_5)
  obtain ⟨rfl, N851q, e851⟩ := hQ851
  have N851 := Fr.app N850 N851q
  refine GoW.sg (mkF m 8 #[.val (.int 1), .val (.ref a1c)] []) (fun t k => st851 t k) ?_
  refine GoW.retV X851 hx Bd.returns (hb hby d20_8) Bd.notSynchronized ?_ (by decide) (by decide)
  rw [e851]
  exact ⟨rfl, N851, rfl⟩
def Q19_72 (Z : State) (a1c : Addr) (ka1c : ClassId) (x1c : Int32) (x2c : Int32) (x3c : Int32) (x4c : Int32) (x5c : Int32) (x6c : Int32) (x7c : Int32) (x8c : Int32) (a2c : Addr) (h0 : Heap) (n0 : Nat) (v : Option Value) (h : Heap) (L : List Loc) : Prop := v = some (.int (nar .char (nar .char (((x3c &&& (255 : Int32)) <<< ((0 : Int32) &&& 31)) ||| ((x4c &&& (255 : Int32)) <<< ((8 : Int32) &&& 31))).toUInt32.toUInt16.toUInt32.toInt32))) ∧ Fr n0 L ∧ (h = h0)
theorem ef19_rm19_72 (m : MethodId) (a1c : Addr) : entryFrame m #[(.ref a1c), (.int (1 : Int32))] 2 = (mkF m 0 #[.val (.ref a1c), .val (.int 1)] []) := by first | (simp [entryFrame, mkF, argsToLocals, Value.category, maxLocals]; done) | rfl
set_option maxRecDepth 65536 in
set_option maxHeartbeats 40000000 in
theorem rm19_72 (l : Launch) (Z : State) (a0 : Array Value) (hw : ∀ d ∈ tables_1, d.before a0 Z = true) (ws : List Jvm.Cond) (a1c : Addr) (ka1c : ClassId) (x1c : Int32) (x2c : Int32) (x3c : Int32) (x4c : Int32) (x5c : Int32) (x6c : Int32) (x7c : Int32) (x8c : Int32) (a2c : Addr) (h0 : Heap) (n0 : Nat) (P0 : Arv Z h0 a1c ka1c .byte (8 : Int32) [(.int x1c), (.int x2c), (.int x3c), (.int x4c), (.int x5c), (.int x6c), (.int x7c), (.int x8c)] (.int (0 : Int32))) (P1 : Sta Z h0 "java/lang/StringUTF16" "$assertionsDisabled" "Z" (.int (1 : Int32))) (P2 : Sta Z h0 "java/lang/StringUTF16" "HI_BYTE_SHIFT" "I" (.int (0 : Int32))) (P3 : Sta Z h0 "java/lang/StringUTF16" "LO_BYTE_SHIFT" "I" (.int (8 : Int32))) (P4 : Sta Z h0 "jdk/internal/util/Preconditions" "SIOOBE_FORMATTER" "Ljava/util/function/BiFunction;" (.ref a2c))      :
    MetFree l Y19 (head1 (Jvm.Cond.code Y19 jdk_52_method_83_code 2 (some .char) :: ws) ({ frames := 3, cells := 0, slots := 0, locals := 40 } : Room)) (fun a U => a = #[(.ref a1c), (.int (1 : Int32))] ∧ Z.Warmed39 U.vm ∧ U.heap = h0) (fun _ _ _ _ _ => True) (fun _ U o U' => ∃ v L, o = .returned v ∧ (Q19_72 Z a1c ka1c x1c x2c x3c x4c x5c x6c x7c x8c a2c h0 n0) v U'.heap L ∧ FrameEnd U o U' L 0 0) := by
  refine MetFree.of_bodySF (plainFor_of_name pn_java_lang_StringUTF16) hisR ?_
  intro p e s m args below meth c s₁ Bd hml0 hP hK
  obtain ⟨rfl, hZ, hh⟩ := hP
  have hx := Bd.exec
  have hby := Bd.bytes
  have hml : c.maxLocals = 2 := hml0
  have hown : s.vm.findClass "java/lang/StringUTF16" = some m.cls := findClass_of_methodNamed Bd.named
  have hnm := (name_of_methodNamed Bd.named Bd.method).1
  have X0 : Stand p l e ({ frames := 3, cells := 0, slots := 0, locals := 40 } : Room) s m #[(.ref a1c), (.int (1 : Int32))] below meth c s₁ [] 0 0 := Stand.of_body Bd
  have e0 : s₁.heap = h0 := by rw [← hh, Bd.state]; rfl
  have N0 := Fr.nil n0
  refine GoW.mk ?_
  refine GoW.st (fun t k => castTop (ef19_rm19_72 m a1c) k) ?_
  show GoW p e below s (Q19_72 Z a1c ka1c x1c x2c x3c x4c x5c x6c x7c x8c a2c h0 n0) 0 0 (s₁.setTop (mkF m 0 #[.val (.ref a1c), .val (.int 1)] []))
  refine GoW.sg (mkF m 1 #[.val (.ref a1c), .val (.int 1)] [(.int 1)]) (fun t k => XS.iloadN X0.here hx rfl (hb hby d19_0) rfl k) ?_
  refine GoW.sg (mkF m 2 #[.val (.ref a1c), .val (.int 1)] [(.ref a1c), (.int 1)]) (fun t k => XS.aloadN X0.here hx rfl (hb hby d19_1) rfl rfl k) ?_
  obtain ⟨_, T863, L863, X863, hQ863, st863⟩ := own_callS X0 hx hZ hown (y := Y20) (ww hw 83 rfl) (ww hw 84 rfl) (ww hw 17 rfl) (ww hw 85 rfl) (by decide) 0 (rm20_71 l Z a0 hw [] a1c ka1c x1c x2c x3c x4c x5c x6c x7c x8c a2c h0 n0  P0 P4    ) (by decide) (by decide) e0 (by decide) (by decide) (g := (mkF m 2 #[.val (.ref a1c), .val (.int 1)] [(.ref a1c), (.int 1)])) rfl (by rw [hml]; rfl) (argsL := [(.int (1 : Int32)), (.ref a1c)]) (rest := []) (lenOf pd_28I5bB29V rfl) rfl (by show 2 * 0 + _ ≤ _; exact Nat.le_of_eq rfl) (hb hby d19_2)
  obtain ⟨rfl, N863q, e863⟩ := hQ863
  have N863 := Fr.app N0 N863q
  refine GoW.sg (mkF m 5 #[.val (.ref a1c), .val (.int 1)] []) (fun t k => st863 t k) ?_
  refine GoW.sg (mkF m 6 #[.val (.ref a1c), .val (.int 1)] [(.ref a1c)]) (fun t k => XS.aloadN X863.here hx rfl (hb hby d19_5) rfl rfl k) ?_
  refine GoW.sg (mkF m 7 #[.val (.ref a1c), .val (.int 1)] [(.int 1), (.ref a1c)]) (fun t k => XS.iloadN X863.here hx rfl (hb hby d19_6) rfl k) ?_
  obtain ⟨_, T869, L869, X869, hQ869, st869⟩ := own_callS X863 hx hZ hown (y := Y18) (ww hw 77 rfl) (ww hw 78 rfl) (ww hw 17 rfl) (ww hw 79 rfl) (by decide) 0 (rm18_15 l Z a0 hw [] a1c ka1c x1c x2c x3c x4c x5c x6c x7c x8c h0 n0  P0 P1 P2 P3    ) (by decide) (by decide) e863 (by decide) (by decide) (g := (mkF m 7 #[.val (.ref a1c), .val (.int 1)] [(.int 1), (.ref a1c)])) rfl (by rw [hml]; rfl) (argsL := [(.ref a1c), (.int (1 : Int32))]) (rest := []) (lenOf pd_285bBI29C rfl) rfl (by show 2 * 0 + _ ≤ _; exact Nat.le_of_eq rfl) (hb hby d19_7)
  obtain ⟨rfl, N869q, e869⟩ := hQ869
  have N869 := Fr.app N863 N869q
  refine GoW.sg (mkF m 10 #[.val (.ref a1c), .val (.int 1)] [(.int (nar .char (((x3c &&& (255 : Int32)) <<< ((0 : Int32) &&& 31)) ||| ((x4c &&& (255 : Int32)) <<< ((8 : Int32) &&& 31))).toUInt32.toUInt16.toUInt32.toInt32))]) (fun t k => st869 t k) ?_
  refine GoW.retN X869 hx (t := .char) Bd.returns (by simp) (hb hby d19_10) Bd.notSynchronized ?_ (by decide) (by decide)
  rw [e869]
  exact ⟨rfl, N869, rfl⟩
def Q9_74 (Z : State) (a1c : Addr) (a2c : Addr) (ka2c : ClassId) (x1c : Int32) (x2c : Int32) (x3c : Int32) (x4c : Int32) (x5c : Int32) (h0 : Heap) (n0 : Nat) (v : Option Value) (h : Heap) (L : List Loc) : Prop := v = some (.int (nar .char (nar .char (x2c &&& (255 : Int32)).toUInt32.toUInt16.toUInt32.toInt32))) ∧ Fr n0 L ∧ (h = h0)
theorem ef9_rm9_74 (m : MethodId) (a1c : Addr) : entryFrame m #[(.ref a1c), (.int (1 : Int32))] 2 = (mkF m 0 #[.val (.ref a1c), .val (.int 1)] []) := by first | (simp [entryFrame, mkF, argsToLocals, Value.category, maxLocals]; done) | rfl
set_option maxRecDepth 65536 in
set_option maxHeartbeats 40000000 in
theorem rm9_74 (l : Launch) (Z : State) (a0 : Array Value) (hw : ∀ d ∈ tables_1, d.before a0 Z = true) (ws : List Jvm.Cond) (a1c : Addr) (a2c : Addr) (ka2c : ClassId) (x1c : Int32) (x2c : Int32) (x3c : Int32) (x4c : Int32) (x5c : Int32) (h0 : Heap) (n0 : Nat) (P0 : Exa Z h0 a1c "java/lang/String") (P1 : Fld Z h0 a1c "java/lang/String" "coder" "B" (.int (0 : Int32))) (P2 : Fld Z h0 a1c "java/lang/String" "value" "[B" (.ref a2c)) (P3 : Arv Z h0 a2c ka2c .byte (4 : Int32) [(.int x1c), (.int x2c), (.int x3c), (.int x4c)] (.int (0 : Int32))) (P4 : Sta Z h0 "java/lang/String" "COMPACT_STRINGS" "Z" (.int x5c)) (P5 : Sta Z h0 "jdk/internal/util/Preconditions" "SIOOBE_FORMATTER" "Ljava/util/function/BiFunction;" .null)   (u0 : ¬ (x5c = (0 : Int32)))   :
    MetFree l Y9 (head1 (Jvm.Cond.code Y9 jdk_42_method_56_code 2 (some .char) :: ws) ({ frames := 4, cells := 0, slots := 0, locals := 53 } : Room)) (fun a U => a = #[(.ref a1c), (.int (1 : Int32))] ∧ Z.Warmed39 U.vm ∧ U.heap = h0) (fun _ _ _ _ _ => True) (fun _ U o U' => ∃ v L, o = .returned v ∧ (Q9_74 Z a1c a2c ka2c x1c x2c x3c x4c x5c h0 n0) v U'.heap L ∧ FrameEnd U o U' L 0 0) := by
  refine MetFree.of_bodySF (plainFor_of_name pn_java_lang_String) hisR ?_
  intro p e s m args below meth c s₁ Bd hml0 hP hK
  obtain ⟨rfl, hZ, hh⟩ := hP
  have hx := Bd.exec
  have hby := Bd.bytes
  have hml : c.maxLocals = 2 := hml0
  have hown : s.vm.findClass "java/lang/String" = some m.cls := findClass_of_methodNamed Bd.named
  have hnm := (name_of_methodNamed Bd.named Bd.method).1
  have X0 : Stand p l e ({ frames := 4, cells := 0, slots := 0, locals := 53 } : Room) s m #[(.ref a1c), (.int (1 : Int32))] below meth c s₁ [] 0 0 := Stand.of_body Bd
  have e0 : s₁.heap = h0 := by rw [← hh, Bd.state]; rfl
  have N0 := Fr.nil n0
  refine GoW.mk ?_
  refine GoW.st (fun t k => castTop (ef9_rm9_74 m a1c) k) ?_
  show GoW p e below s (Q9_74 Z a1c a2c ka2c x1c x2c x3c x4c x5c h0 n0) 0 0 (s₁.setTop (mkF m 0 #[.val (.ref a1c), .val (.int 1)] []))
  refine GoW.sg (mkF m 1 #[.val (.ref a1c), .val (.int 1)] [(.ref a1c)]) (fun t k => XS.aloadN X0.here hx rfl (hb hby d9_0) rfl rfl k) ?_
  obtain ⟨cq877, kq877, q877a, q877b, q877c⟩ := isOf hZ e0 P0
  obtain ⟨_, _, ⟨T877, L877, k877, n877⟩, -, X877, ⟨Lc877, hQ877, l877, y877, z877⟩, st877⟩ := X0.virtualBack hx (y := (⟨"java/lang/String", "isLatin1", "()Z"⟩ : MethodName)) (z := Y10) hown (mvT hZ (ww hw 44 rfl)) (mvT hZ (ww hw 45 rfl)) (notFace_of_selects (args := #[]) (mvT hZ (ww hw 47 rfl))) (mvT hZ (ww hw 47 rfl)) (mvT hZ (ww hw 46 rfl)) (by decide) (backOf (W := 0) (rm10_39 l Z a0 hw [] a1c x5c h0 n0  P0 P1 P4   u0 ) hZ (ww hw 48 rfl) (ww hw 3 rfl) (by decide) (by decide)) q877a q877c (g := (mkF m 1 #[.val (.ref a1c), .val (.int 1)] [(.ref a1c)])) rfl (by rw [hml]; rfl) (Steps.refl _) (argsL := []) (rest := []) (lenOf pd_2829Z rfl) rfl (by show 2 * 0 + _ ≤ _; exact Nat.le_of_eq rfl) (hb hby d9_1) (fun _ _ => ⟨rfl, e0, (by decide : 0 + 0 ≤ _), (by decide : 0 + 0 ≤ _)⟩)
  dsimp only [Pt.U, Pt.locs, Pt.cells, Pt.slots] at X877 l877 y877 z877 st877 hQ877
  subst l877 y877 z877
  obtain ⟨rfl, N877q, e877⟩ := hQ877
  have N877 := Fr.app N0 N877q
  refine GoW.sg (mkF m 4 #[.val (.ref a1c), .val (.int 1)] [(.int 1)]) (fun t k => st877.trans k) ?_
  refine GoW.sg (mkF m 7 #[.val (.ref a1c), .val (.int 1)] []) (fun t k => XS.ifNo X877.here hx rfl (hb hby d9_4) rfl (by decide) k) ?_
  refine GoW.sg (mkF m 8 #[.val (.ref a1c), .val (.int 1)] [(.ref a1c)]) (fun t k => XS.aloadN X877.here hx rfl (hb hby d9_7) rfl rfl k) ?_
  obtain ⟨T878, X878, e878, st878⟩ := getF X877 hx hZ hown (host := "") (Or.inl (ww hw 28 rfl)) Via.refl e877 P2 (g := (mkF m 8 #[.val (.ref a1c), .val (.int 1)] [(.ref a1c)])) rfl rfl (hb hby d9_8)
  refine GoW.sg (mkF m 11 #[.val (.ref a1c), .val (.int 1)] [(.ref a2c)]) (fun t k => st878 t k) ?_
  refine GoW.sg (mkF m 12 #[.val (.ref a1c), .val (.int 1)] [(.int 1), (.ref a2c)]) (fun t k => XS.iloadN X878.here hx rfl (hb hby d9_11) rfl k) ?_
  obtain ⟨_, T879, L879, X879, hQ879, st879⟩ := own_callS X878 hx hZ hown (y := Y11) (ww hw 49 rfl) (ww hw 50 rfl) (ww hw 51 rfl) (ww hw 52 rfl) (by decide) 0 (rm11_62 l Z a0 hw [] a2c ka2c x1c x2c x3c x4c h0 n0  P3 P5    ) (by decide) (by decide) e878 (by decide) (by decide) (g := (mkF m 12 #[.val (.ref a1c), .val (.int 1)] [(.int 1), (.ref a2c)])) rfl (by rw [hml]; rfl) (argsL := [(.ref a2c), (.int (1 : Int32))]) (rest := []) (lenOf pd_285bBI29C rfl) rfl (by show 2 * 0 + _ ≤ _; exact Nat.le_of_eq rfl) (hb hby d9_12)
  obtain ⟨rfl, N879q, e879⟩ := hQ879
  have N879 := Fr.app N877 N879q
  refine GoW.sg (mkF m 15 #[.val (.ref a1c), .val (.int 1)] [(.int (nar .char (x2c &&& (255 : Int32)).toUInt32.toUInt16.toUInt32.toInt32))]) (fun t k => st879 t k) ?_
  refine GoW.retN X879 hx (t := .char) Bd.returns (by simp) (hb hby d9_15) Bd.notSynchronized ?_ (by decide) (by decide)
  rw [e879]
  exact ⟨rfl, N879, rfl⟩
def Q9_75 (Z : State) (a1c : Addr) (a2c : Addr) (ka2c : ClassId) (x1c : Int32) (x2c : Int32) (x3c : Int32) (x4c : Int32) (x5c : Int32) (a3c : Addr) (h0 : Heap) (n0 : Nat) (v : Option Value) (h : Heap) (L : List Loc) : Prop := v = some (.int (nar .char (nar .char (x2c &&& (255 : Int32)).toUInt32.toUInt16.toUInt32.toInt32))) ∧ Fr n0 L ∧ (h = h0)
theorem ef9_rm9_75 (m : MethodId) (a1c : Addr) : entryFrame m #[(.ref a1c), (.int (1 : Int32))] 2 = (mkF m 0 #[.val (.ref a1c), .val (.int 1)] []) := by first | (simp [entryFrame, mkF, argsToLocals, Value.category, maxLocals]; done) | rfl
set_option maxRecDepth 65536 in
set_option maxHeartbeats 40000000 in
theorem rm9_75 (l : Launch) (Z : State) (a0 : Array Value) (hw : ∀ d ∈ tables_1, d.before a0 Z = true) (ws : List Jvm.Cond) (a1c : Addr) (a2c : Addr) (ka2c : ClassId) (x1c : Int32) (x2c : Int32) (x3c : Int32) (x4c : Int32) (x5c : Int32) (a3c : Addr) (h0 : Heap) (n0 : Nat) (P0 : Exa Z h0 a1c "java/lang/String") (P1 : Fld Z h0 a1c "java/lang/String" "coder" "B" (.int (0 : Int32))) (P2 : Fld Z h0 a1c "java/lang/String" "value" "[B" (.ref a2c)) (P3 : Arv Z h0 a2c ka2c .byte (4 : Int32) [(.int x1c), (.int x2c), (.int x3c), (.int x4c)] (.int (0 : Int32))) (P4 : Sta Z h0 "java/lang/String" "COMPACT_STRINGS" "Z" (.int x5c)) (P5 : Sta Z h0 "jdk/internal/util/Preconditions" "SIOOBE_FORMATTER" "Ljava/util/function/BiFunction;" (.ref a3c))   (u0 : ¬ (x5c = (0 : Int32)))   :
    MetFree l Y9 (head1 (Jvm.Cond.code Y9 jdk_42_method_56_code 2 (some .char) :: ws) ({ frames := 4, cells := 0, slots := 0, locals := 53 } : Room)) (fun a U => a = #[(.ref a1c), (.int (1 : Int32))] ∧ Z.Warmed39 U.vm ∧ U.heap = h0) (fun _ _ _ _ _ => True) (fun _ U o U' => ∃ v L, o = .returned v ∧ (Q9_75 Z a1c a2c ka2c x1c x2c x3c x4c x5c a3c h0 n0) v U'.heap L ∧ FrameEnd U o U' L 0 0) := by
  refine MetFree.of_bodySF (plainFor_of_name pn_java_lang_String) hisR ?_
  intro p e s m args below meth c s₁ Bd hml0 hP hK
  obtain ⟨rfl, hZ, hh⟩ := hP
  have hx := Bd.exec
  have hby := Bd.bytes
  have hml : c.maxLocals = 2 := hml0
  have hown : s.vm.findClass "java/lang/String" = some m.cls := findClass_of_methodNamed Bd.named
  have hnm := (name_of_methodNamed Bd.named Bd.method).1
  have X0 : Stand p l e ({ frames := 4, cells := 0, slots := 0, locals := 53 } : Room) s m #[(.ref a1c), (.int (1 : Int32))] below meth c s₁ [] 0 0 := Stand.of_body Bd
  have e0 : s₁.heap = h0 := by rw [← hh, Bd.state]; rfl
  have N0 := Fr.nil n0
  refine GoW.mk ?_
  refine GoW.st (fun t k => castTop (ef9_rm9_75 m a1c) k) ?_
  show GoW p e below s (Q9_75 Z a1c a2c ka2c x1c x2c x3c x4c x5c a3c h0 n0) 0 0 (s₁.setTop (mkF m 0 #[.val (.ref a1c), .val (.int 1)] []))
  refine GoW.sg (mkF m 1 #[.val (.ref a1c), .val (.int 1)] [(.ref a1c)]) (fun t k => XS.aloadN X0.here hx rfl (hb hby d9_0) rfl rfl k) ?_
  obtain ⟨cq883, kq883, q883a, q883b, q883c⟩ := isOf hZ e0 P0
  obtain ⟨_, _, ⟨T883, L883, k883, n883⟩, -, X883, ⟨Lc883, hQ883, l883, y883, z883⟩, st883⟩ := X0.virtualBack hx (y := (⟨"java/lang/String", "isLatin1", "()Z"⟩ : MethodName)) (z := Y10) hown (mvT hZ (ww hw 44 rfl)) (mvT hZ (ww hw 45 rfl)) (notFace_of_selects (args := #[]) (mvT hZ (ww hw 47 rfl))) (mvT hZ (ww hw 47 rfl)) (mvT hZ (ww hw 46 rfl)) (by decide) (backOf (W := 0) (rm10_39 l Z a0 hw [] a1c x5c h0 n0  P0 P1 P4   u0 ) hZ (ww hw 48 rfl) (ww hw 3 rfl) (by decide) (by decide)) q883a q883c (g := (mkF m 1 #[.val (.ref a1c), .val (.int 1)] [(.ref a1c)])) rfl (by rw [hml]; rfl) (Steps.refl _) (argsL := []) (rest := []) (lenOf pd_2829Z rfl) rfl (by show 2 * 0 + _ ≤ _; exact Nat.le_of_eq rfl) (hb hby d9_1) (fun _ _ => ⟨rfl, e0, (by decide : 0 + 0 ≤ _), (by decide : 0 + 0 ≤ _)⟩)
  dsimp only [Pt.U, Pt.locs, Pt.cells, Pt.slots] at X883 l883 y883 z883 st883 hQ883
  subst l883 y883 z883
  obtain ⟨rfl, N883q, e883⟩ := hQ883
  have N883 := Fr.app N0 N883q
  refine GoW.sg (mkF m 4 #[.val (.ref a1c), .val (.int 1)] [(.int 1)]) (fun t k => st883.trans k) ?_
  refine GoW.sg (mkF m 7 #[.val (.ref a1c), .val (.int 1)] []) (fun t k => XS.ifNo X883.here hx rfl (hb hby d9_4) rfl (by decide) k) ?_
  refine GoW.sg (mkF m 8 #[.val (.ref a1c), .val (.int 1)] [(.ref a1c)]) (fun t k => XS.aloadN X883.here hx rfl (hb hby d9_7) rfl rfl k) ?_
  obtain ⟨T884, X884, e884, st884⟩ := getF X883 hx hZ hown (host := "") (Or.inl (ww hw 28 rfl)) Via.refl e883 P2 (g := (mkF m 8 #[.val (.ref a1c), .val (.int 1)] [(.ref a1c)])) rfl rfl (hb hby d9_8)
  refine GoW.sg (mkF m 11 #[.val (.ref a1c), .val (.int 1)] [(.ref a2c)]) (fun t k => st884 t k) ?_
  refine GoW.sg (mkF m 12 #[.val (.ref a1c), .val (.int 1)] [(.int 1), (.ref a2c)]) (fun t k => XS.iloadN X884.here hx rfl (hb hby d9_11) rfl k) ?_
  obtain ⟨_, T885, L885, X885, hQ885, st885⟩ := own_callS X884 hx hZ hown (y := Y11) (ww hw 49 rfl) (ww hw 50 rfl) (ww hw 51 rfl) (ww hw 52 rfl) (by decide) 0 (rm11_66 l Z a0 hw [] a2c ka2c x1c x2c x3c x4c a3c h0 n0  P3 P5    ) (by decide) (by decide) e884 (by decide) (by decide) (g := (mkF m 12 #[.val (.ref a1c), .val (.int 1)] [(.int 1), (.ref a2c)])) rfl (by rw [hml]; rfl) (argsL := [(.ref a2c), (.int (1 : Int32))]) (rest := []) (lenOf pd_285bBI29C rfl) rfl (by show 2 * 0 + _ ≤ _; exact Nat.le_of_eq rfl) (hb hby d9_12)
  obtain ⟨rfl, N885q, e885⟩ := hQ885
  have N885 := Fr.app N883 N885q
  refine GoW.sg (mkF m 15 #[.val (.ref a1c), .val (.int 1)] [(.int (nar .char (x2c &&& (255 : Int32)).toUInt32.toUInt16.toUInt32.toInt32))]) (fun t k => st885 t k) ?_
  refine GoW.retN X885 hx (t := .char) Bd.returns (by simp) (hb hby d9_15) Bd.notSynchronized ?_ (by decide) (by decide)
  rw [e885]
  exact ⟨rfl, N885, rfl⟩
def Q9_76 (Z : State) (a1c : Addr) (a2c : Addr) (ka2c : ClassId) (x1c : Int32) (x2c : Int32) (x3c : Int32) (x4c : Int32) (x5c : Int32) (x6c : Int32) (x7c : Int32) (x8c : Int32) (x9c : Int32) (h0 : Heap) (n0 : Nat) (v : Option Value) (h : Heap) (L : List Loc) : Prop := v = some (.int (nar .char (nar .char (nar .char (((x3c &&& (255 : Int32)) <<< ((0 : Int32) &&& 31)) ||| ((x4c &&& (255 : Int32)) <<< ((8 : Int32) &&& 31))).toUInt32.toUInt16.toUInt32.toInt32)))) ∧ Fr n0 L ∧ (h = h0)
theorem ef9_rm9_76 (m : MethodId) (a1c : Addr) : entryFrame m #[(.ref a1c), (.int (1 : Int32))] 2 = (mkF m 0 #[.val (.ref a1c), .val (.int 1)] []) := by first | (simp [entryFrame, mkF, argsToLocals, Value.category, maxLocals]; done) | rfl
set_option maxRecDepth 65536 in
set_option maxHeartbeats 40000000 in
theorem rm9_76 (l : Launch) (Z : State) (a0 : Array Value) (hw : ∀ d ∈ tables_1, d.before a0 Z = true) (ws : List Jvm.Cond) (a1c : Addr) (a2c : Addr) (ka2c : ClassId) (x1c : Int32) (x2c : Int32) (x3c : Int32) (x4c : Int32) (x5c : Int32) (x6c : Int32) (x7c : Int32) (x8c : Int32) (x9c : Int32) (h0 : Heap) (n0 : Nat) (P0 : Exa Z h0 a1c "java/lang/String") (P1 : Fld Z h0 a1c "java/lang/String" "coder" "B" (.int (1 : Int32))) (P2 : Fld Z h0 a1c "java/lang/String" "value" "[B" (.ref a2c)) (P3 : Arv Z h0 a2c ka2c .byte (8 : Int32) [(.int x1c), (.int x2c), (.int x3c), (.int x4c), (.int x5c), (.int x6c), (.int x7c), (.int x8c)] (.int (0 : Int32))) (P4 : Sta Z h0 "java/lang/String" "COMPACT_STRINGS" "Z" (.int x9c)) (P5 : Sta Z h0 "java/lang/StringUTF16" "$assertionsDisabled" "Z" (.int (1 : Int32))) (P6 : Sta Z h0 "java/lang/StringUTF16" "HI_BYTE_SHIFT" "I" (.int (0 : Int32))) (P7 : Sta Z h0 "java/lang/StringUTF16" "LO_BYTE_SHIFT" "I" (.int (8 : Int32))) (P8 : Sta Z h0 "jdk/internal/util/Preconditions" "SIOOBE_FORMATTER" "Ljava/util/function/BiFunction;" .null)   (u0 : ¬ (x9c = (0 : Int32)))   :
    MetFree l Y9 (head1 (Jvm.Cond.code Y9 jdk_42_method_56_code 2 (some .char) :: ws) ({ frames := 4, cells := 0, slots := 0, locals := 53 } : Room)) (fun a U => a = #[(.ref a1c), (.int (1 : Int32))] ∧ Z.Warmed39 U.vm ∧ U.heap = h0) (fun _ _ _ _ _ => True) (fun _ U o U' => ∃ v L, o = .returned v ∧ (Q9_76 Z a1c a2c ka2c x1c x2c x3c x4c x5c x6c x7c x8c x9c h0 n0) v U'.heap L ∧ FrameEnd U o U' L 0 0) := by
  refine MetFree.of_bodySF (plainFor_of_name pn_java_lang_String) hisR ?_
  intro p e s m args below meth c s₁ Bd hml0 hP hK
  obtain ⟨rfl, hZ, hh⟩ := hP
  have hx := Bd.exec
  have hby := Bd.bytes
  have hml : c.maxLocals = 2 := hml0
  have hown : s.vm.findClass "java/lang/String" = some m.cls := findClass_of_methodNamed Bd.named
  have hnm := (name_of_methodNamed Bd.named Bd.method).1
  have X0 : Stand p l e ({ frames := 4, cells := 0, slots := 0, locals := 53 } : Room) s m #[(.ref a1c), (.int (1 : Int32))] below meth c s₁ [] 0 0 := Stand.of_body Bd
  have e0 : s₁.heap = h0 := by rw [← hh, Bd.state]; rfl
  have N0 := Fr.nil n0
  refine GoW.mk ?_
  refine GoW.st (fun t k => castTop (ef9_rm9_76 m a1c) k) ?_
  show GoW p e below s (Q9_76 Z a1c a2c ka2c x1c x2c x3c x4c x5c x6c x7c x8c x9c h0 n0) 0 0 (s₁.setTop (mkF m 0 #[.val (.ref a1c), .val (.int 1)] []))
  refine GoW.sg (mkF m 1 #[.val (.ref a1c), .val (.int 1)] [(.ref a1c)]) (fun t k => XS.aloadN X0.here hx rfl (hb hby d9_0) rfl rfl k) ?_
  obtain ⟨cq889, kq889, q889a, q889b, q889c⟩ := isOf hZ e0 P0
  obtain ⟨_, _, ⟨T889, L889, k889, n889⟩, -, X889, ⟨Lc889, hQ889, l889, y889, z889⟩, st889⟩ := X0.virtualBack hx (y := (⟨"java/lang/String", "isLatin1", "()Z"⟩ : MethodName)) (z := Y10) hown (mvT hZ (ww hw 44 rfl)) (mvT hZ (ww hw 45 rfl)) (notFace_of_selects (args := #[]) (mvT hZ (ww hw 47 rfl))) (mvT hZ (ww hw 47 rfl)) (mvT hZ (ww hw 46 rfl)) (by decide) (backOf (W := 0) (rm10_48 l Z a0 hw [] a1c x9c h0 n0  P0 P1 P4   u0 ) hZ (ww hw 48 rfl) (ww hw 3 rfl) (by decide) (by decide)) q889a q889c (g := (mkF m 1 #[.val (.ref a1c), .val (.int 1)] [(.ref a1c)])) rfl (by rw [hml]; rfl) (Steps.refl _) (argsL := []) (rest := []) (lenOf pd_2829Z rfl) rfl (by show 2 * 0 + _ ≤ _; exact Nat.le_of_eq rfl) (hb hby d9_1) (fun _ _ => ⟨rfl, e0, (by decide : 0 + 0 ≤ _), (by decide : 0 + 0 ≤ _)⟩)
  dsimp only [Pt.U, Pt.locs, Pt.cells, Pt.slots] at X889 l889 y889 z889 st889 hQ889
  subst l889 y889 z889
  obtain ⟨rfl, N889q, e889⟩ := hQ889
  have N889 := Fr.app N0 N889q
  refine GoW.sg (mkF m 4 #[.val (.ref a1c), .val (.int 1)] [(.int 0)]) (fun t k => st889.trans k) ?_
  refine GoW.sg (mkF m 16 #[.val (.ref a1c), .val (.int 1)] []) (fun t k => XS.ifYes X889.here hx rfl (pc0 := 4) (pc' := 16) rfl (hb hby d9_4) rfl (by decide) (by decide) (by decide) k) ?_
  refine GoW.sg (mkF m 17 #[.val (.ref a1c), .val (.int 1)] [(.ref a1c)]) (fun t k => XS.aloadN X889.here hx rfl (hb hby d9_16) rfl rfl k) ?_
  obtain ⟨T890, X890, e890, st890⟩ := getF X889 hx hZ hown (host := "") (Or.inl (ww hw 28 rfl)) Via.refl e889 P2 (g := (mkF m 17 #[.val (.ref a1c), .val (.int 1)] [(.ref a1c)])) rfl rfl (hb hby d9_17)
  refine GoW.sg (mkF m 20 #[.val (.ref a1c), .val (.int 1)] [(.ref a2c)]) (fun t k => st890 t k) ?_
  refine GoW.sg (mkF m 21 #[.val (.ref a1c), .val (.int 1)] [(.int 1), (.ref a2c)]) (fun t k => XS.iloadN X890.here hx rfl (hb hby d9_20) rfl k) ?_
  obtain ⟨_, T891, L891, X891, hQ891, st891⟩ := own_callS X890 hx hZ hown (y := Y19) (ww hw 80 rfl) (ww hw 81 rfl) (ww hw 17 rfl) (ww hw 82 rfl) (by decide) 0 (rm19_69 l Z a0 hw [] a2c ka2c x1c x2c x3c x4c x5c x6c x7c x8c h0 n0  P3 P5 P6 P7 P8    ) (by decide) (by decide) e890 (by decide) (by decide) (g := (mkF m 21 #[.val (.ref a1c), .val (.int 1)] [(.int 1), (.ref a2c)])) rfl (by rw [hml]; rfl) (argsL := [(.ref a2c), (.int (1 : Int32))]) (rest := []) (lenOf pd_285bBI29C rfl) rfl (by show 2 * 0 + _ ≤ _; exact Nat.le_of_eq rfl) (hb hby d9_21)
  obtain ⟨rfl, N891q, e891⟩ := hQ891
  have N891 := Fr.app N889 N891q
  refine GoW.sg (mkF m 24 #[.val (.ref a1c), .val (.int 1)] [(.int (nar .char (nar .char (((x3c &&& (255 : Int32)) <<< ((0 : Int32) &&& 31)) ||| ((x4c &&& (255 : Int32)) <<< ((8 : Int32) &&& 31))).toUInt32.toUInt16.toUInt32.toInt32)))]) (fun t k => st891 t k) ?_
  refine GoW.retN X891 hx (t := .char) Bd.returns (by simp) (hb hby d9_24) Bd.notSynchronized ?_ (by decide) (by decide)
  rw [e891]
  exact ⟨rfl, N891, rfl⟩
def Q9_77 (Z : State) (a1c : Addr) (a2c : Addr) (ka2c : ClassId) (x1c : Int32) (x2c : Int32) (x3c : Int32) (x4c : Int32) (x5c : Int32) (x6c : Int32) (x7c : Int32) (x8c : Int32) (x9c : Int32) (a3c : Addr) (h0 : Heap) (n0 : Nat) (v : Option Value) (h : Heap) (L : List Loc) : Prop := v = some (.int (nar .char (nar .char (nar .char (((x3c &&& (255 : Int32)) <<< ((0 : Int32) &&& 31)) ||| ((x4c &&& (255 : Int32)) <<< ((8 : Int32) &&& 31))).toUInt32.toUInt16.toUInt32.toInt32)))) ∧ Fr n0 L ∧ (h = h0)
theorem ef9_rm9_77 (m : MethodId) (a1c : Addr) : entryFrame m #[(.ref a1c), (.int (1 : Int32))] 2 = (mkF m 0 #[.val (.ref a1c), .val (.int 1)] []) := by first | (simp [entryFrame, mkF, argsToLocals, Value.category, maxLocals]; done) | rfl
set_option maxRecDepth 65536 in
set_option maxHeartbeats 40000000 in
theorem rm9_77 (l : Launch) (Z : State) (a0 : Array Value) (hw : ∀ d ∈ tables_1, d.before a0 Z = true) (ws : List Jvm.Cond) (a1c : Addr) (a2c : Addr) (ka2c : ClassId) (x1c : Int32) (x2c : Int32) (x3c : Int32) (x4c : Int32) (x5c : Int32) (x6c : Int32) (x7c : Int32) (x8c : Int32) (x9c : Int32) (a3c : Addr) (h0 : Heap) (n0 : Nat) (P0 : Exa Z h0 a1c "java/lang/String") (P1 : Fld Z h0 a1c "java/lang/String" "coder" "B" (.int (1 : Int32))) (P2 : Fld Z h0 a1c "java/lang/String" "value" "[B" (.ref a2c)) (P3 : Arv Z h0 a2c ka2c .byte (8 : Int32) [(.int x1c), (.int x2c), (.int x3c), (.int x4c), (.int x5c), (.int x6c), (.int x7c), (.int x8c)] (.int (0 : Int32))) (P4 : Sta Z h0 "java/lang/String" "COMPACT_STRINGS" "Z" (.int x9c)) (P5 : Sta Z h0 "java/lang/StringUTF16" "$assertionsDisabled" "Z" (.int (1 : Int32))) (P6 : Sta Z h0 "java/lang/StringUTF16" "HI_BYTE_SHIFT" "I" (.int (0 : Int32))) (P7 : Sta Z h0 "java/lang/StringUTF16" "LO_BYTE_SHIFT" "I" (.int (8 : Int32))) (P8 : Sta Z h0 "jdk/internal/util/Preconditions" "SIOOBE_FORMATTER" "Ljava/util/function/BiFunction;" (.ref a3c))   (u0 : ¬ (x9c = (0 : Int32)))   :
    MetFree l Y9 (head1 (Jvm.Cond.code Y9 jdk_42_method_56_code 2 (some .char) :: ws) ({ frames := 4, cells := 0, slots := 0, locals := 53 } : Room)) (fun a U => a = #[(.ref a1c), (.int (1 : Int32))] ∧ Z.Warmed39 U.vm ∧ U.heap = h0) (fun _ _ _ _ _ => True) (fun _ U o U' => ∃ v L, o = .returned v ∧ (Q9_77 Z a1c a2c ka2c x1c x2c x3c x4c x5c x6c x7c x8c x9c a3c h0 n0) v U'.heap L ∧ FrameEnd U o U' L 0 0) := by
  refine MetFree.of_bodySF (plainFor_of_name pn_java_lang_String) hisR ?_
  intro p e s m args below meth c s₁ Bd hml0 hP hK
  obtain ⟨rfl, hZ, hh⟩ := hP
  have hx := Bd.exec
  have hby := Bd.bytes
  have hml : c.maxLocals = 2 := hml0
  have hown : s.vm.findClass "java/lang/String" = some m.cls := findClass_of_methodNamed Bd.named
  have hnm := (name_of_methodNamed Bd.named Bd.method).1
  have X0 : Stand p l e ({ frames := 4, cells := 0, slots := 0, locals := 53 } : Room) s m #[(.ref a1c), (.int (1 : Int32))] below meth c s₁ [] 0 0 := Stand.of_body Bd
  have e0 : s₁.heap = h0 := by rw [← hh, Bd.state]; rfl
  have N0 := Fr.nil n0
  refine GoW.mk ?_
  refine GoW.st (fun t k => castTop (ef9_rm9_77 m a1c) k) ?_
  show GoW p e below s (Q9_77 Z a1c a2c ka2c x1c x2c x3c x4c x5c x6c x7c x8c x9c a3c h0 n0) 0 0 (s₁.setTop (mkF m 0 #[.val (.ref a1c), .val (.int 1)] []))
  refine GoW.sg (mkF m 1 #[.val (.ref a1c), .val (.int 1)] [(.ref a1c)]) (fun t k => XS.aloadN X0.here hx rfl (hb hby d9_0) rfl rfl k) ?_
  obtain ⟨cq895, kq895, q895a, q895b, q895c⟩ := isOf hZ e0 P0
  obtain ⟨_, _, ⟨T895, L895, k895, n895⟩, -, X895, ⟨Lc895, hQ895, l895, y895, z895⟩, st895⟩ := X0.virtualBack hx (y := (⟨"java/lang/String", "isLatin1", "()Z"⟩ : MethodName)) (z := Y10) hown (mvT hZ (ww hw 44 rfl)) (mvT hZ (ww hw 45 rfl)) (notFace_of_selects (args := #[]) (mvT hZ (ww hw 47 rfl))) (mvT hZ (ww hw 47 rfl)) (mvT hZ (ww hw 46 rfl)) (by decide) (backOf (W := 0) (rm10_48 l Z a0 hw [] a1c x9c h0 n0  P0 P1 P4   u0 ) hZ (ww hw 48 rfl) (ww hw 3 rfl) (by decide) (by decide)) q895a q895c (g := (mkF m 1 #[.val (.ref a1c), .val (.int 1)] [(.ref a1c)])) rfl (by rw [hml]; rfl) (Steps.refl _) (argsL := []) (rest := []) (lenOf pd_2829Z rfl) rfl (by show 2 * 0 + _ ≤ _; exact Nat.le_of_eq rfl) (hb hby d9_1) (fun _ _ => ⟨rfl, e0, (by decide : 0 + 0 ≤ _), (by decide : 0 + 0 ≤ _)⟩)
  dsimp only [Pt.U, Pt.locs, Pt.cells, Pt.slots] at X895 l895 y895 z895 st895 hQ895
  subst l895 y895 z895
  obtain ⟨rfl, N895q, e895⟩ := hQ895
  have N895 := Fr.app N0 N895q
  refine GoW.sg (mkF m 4 #[.val (.ref a1c), .val (.int 1)] [(.int 0)]) (fun t k => st895.trans k) ?_
  refine GoW.sg (mkF m 16 #[.val (.ref a1c), .val (.int 1)] []) (fun t k => XS.ifYes X895.here hx rfl (pc0 := 4) (pc' := 16) rfl (hb hby d9_4) rfl (by decide) (by decide) (by decide) k) ?_
  refine GoW.sg (mkF m 17 #[.val (.ref a1c), .val (.int 1)] [(.ref a1c)]) (fun t k => XS.aloadN X895.here hx rfl (hb hby d9_16) rfl rfl k) ?_
  obtain ⟨T896, X896, e896, st896⟩ := getF X895 hx hZ hown (host := "") (Or.inl (ww hw 28 rfl)) Via.refl e895 P2 (g := (mkF m 17 #[.val (.ref a1c), .val (.int 1)] [(.ref a1c)])) rfl rfl (hb hby d9_17)
  refine GoW.sg (mkF m 20 #[.val (.ref a1c), .val (.int 1)] [(.ref a2c)]) (fun t k => st896 t k) ?_
  refine GoW.sg (mkF m 21 #[.val (.ref a1c), .val (.int 1)] [(.int 1), (.ref a2c)]) (fun t k => XS.iloadN X896.here hx rfl (hb hby d9_20) rfl k) ?_
  obtain ⟨_, T897, L897, X897, hQ897, st897⟩ := own_callS X896 hx hZ hown (y := Y19) (ww hw 80 rfl) (ww hw 81 rfl) (ww hw 17 rfl) (ww hw 82 rfl) (by decide) 0 (rm19_72 l Z a0 hw [] a2c ka2c x1c x2c x3c x4c x5c x6c x7c x8c a3c h0 n0  P3 P5 P6 P7 P8    ) (by decide) (by decide) e896 (by decide) (by decide) (g := (mkF m 21 #[.val (.ref a1c), .val (.int 1)] [(.int 1), (.ref a2c)])) rfl (by rw [hml]; rfl) (argsL := [(.ref a2c), (.int (1 : Int32))]) (rest := []) (lenOf pd_285bBI29C rfl) rfl (by show 2 * 0 + _ ≤ _; exact Nat.le_of_eq rfl) (hb hby d9_21)
  obtain ⟨rfl, N897q, e897⟩ := hQ897
  have N897 := Fr.app N895 N897q
  refine GoW.sg (mkF m 24 #[.val (.ref a1c), .val (.int 1)] [(.int (nar .char (nar .char (((x3c &&& (255 : Int32)) <<< ((0 : Int32) &&& 31)) ||| ((x4c &&& (255 : Int32)) <<< ((8 : Int32) &&& 31))).toUInt32.toUInt16.toUInt32.toInt32)))]) (fun t k => st897 t k) ?_
  refine GoW.retN X897 hx (t := .char) Bd.returns (by simp) (hb hby d9_24) Bd.notSynchronized ?_ (by decide) (by decide)
  rw [e897]
  exact ⟨rfl, N897, rfl⟩
set_option maxRecDepth 65536 in
set_option maxHeartbeats 40000000 in
theorem rmCh1 (l : Launch) (Z : State) (a0 : Array Value) (hw : ∀ d ∈ tables_1, d.before a0 Z = true) (a1 : Addr) (c0 : Int32) (c1 : Int32) (c2 : Int32) (c3 : Int32) (cs : Int32) (vf : Value) (h0 : Heap) (n0 : Nat) (PE : Exa Z h0 a1 "java/lang/String") (hS : Str4 Z h0 a1 c0 c1 c2 c3) (PC : Sta Z h0 "java/lang/String" "COMPACT_STRINGS" "Z" (.int cs)) (PA : Sta Z h0 "java/lang/StringUTF16" "$assertionsDisabled" "Z" (.int (1 : Int32))) (PH : Sta Z h0 "java/lang/StringUTF16" "HI_BYTE_SHIFT" "I" (.int (0 : Int32))) (PL : Sta Z h0 "java/lang/StringUTF16" "LO_BYTE_SHIFT" "I" (.int (8 : Int32))) (PF : Sta Z h0 "jdk/internal/util/Preconditions" "SIOOBE_FORMATTER" "Ljava/util/function/BiFunction;" vf) (hvf : vf.isRef = true) (lo_c0 : ¬ (c0 < (0 : Int32))) (hi_c0 : ¬ ((65535 : Int32) < c0)) (lo_c1 : ¬ (c1 < (0 : Int32))) (hi_c1 : ¬ ((65535 : Int32) < c1)) (lo_c2 : ¬ (c2 < (0 : Int32))) (hi_c2 : ¬ ((65535 : Int32) < c2)) (lo_c3 : ¬ (c3 < (0 : Int32))) (hi_c3 : ¬ ((65535 : Int32) < c3)) (ncs : ¬ (cs = (0 : Int32))) :
    MetFree l Y9 (head1 [Jvm.Cond.code Y9 jdk_42_method_56_code 2 (some .char)] ({ frames := 4, cells := 0, slots := 0, locals := 53 } : Room)) (fun a U => a = #[(.ref a1), (.int (1 : Int32))] ∧ Z.Warmed39 U.vm ∧ U.heap = h0) (fun _ _ _ _ _ => True) (fun _ U o U' => ∃ v L, o = .returned v ∧ PureQ (.int c1) h0 n0 v U'.heap L ∧ FrameEnd U o U' L 0 0) := by
  rcases hS with ⟨b, kb, PV, PK, PB, b0, b1, b2, b3⟩ | ⟨b, kb, PV, PK, PB⟩
  · rcases ref_cases hvf with rfl | ⟨af, rfl⟩
    · exact (rm9_74 l Z a0 hw [] a1 b kb (lat8 c0) (lat8 c1) (lat8 c2) (lat8 c3) cs h0 n0  PE PK PV PB PC PF   ncs).mono (fun _ _ h => h) (fun _ _ _ _ _ h => h) (fun _ _ _ _ _ h => by obtain ⟨v, L, q1, ⟨q2, q3⟩, q4⟩ := h; refine ⟨v, L, q1, ⟨q2.trans ?_, q3⟩, q4⟩; simp only [own_lat c1 lo_c1 b1, own_nc c1 lo_c1 hi_c1])
    · exact (rm9_75 l Z a0 hw [] a1 b kb (lat8 c0) (lat8 c1) (lat8 c2) (lat8 c3) cs af h0 n0  PE PK PV PB PC PF   ncs).mono (fun _ _ h => h) (fun _ _ _ _ _ h => h) (fun _ _ _ _ _ h => by obtain ⟨v, L, q1, ⟨q2, q3⟩, q4⟩ := h; refine ⟨v, L, q1, ⟨q2.trans ?_, q3⟩, q4⟩; simp only [own_lat c1 lo_c1 b1, own_nc c1 lo_c1 hi_c1])
  · rcases ref_cases hvf with rfl | ⟨af, rfl⟩
    · exact (rm9_76 l Z a0 hw [] a1 b kb (lo8 c0) (hi8 c0) (lo8 c1) (hi8 c1) (lo8 c2) (hi8 c2) (lo8 c3) (hi8 c3) cs h0 n0  PE PK PV PB PC PA PH PL PF   ncs).mono (fun _ _ h => h) (fun _ _ _ _ _ h => h) (fun _ _ _ _ _ h => by obtain ⟨v, L, q1, ⟨q2, q3⟩, q4⟩ := h; refine ⟨v, L, q1, ⟨q2.trans ?_, q3⟩, q4⟩; simp only [own_join c1 lo_c1 hi_c1, own_nc c1 lo_c1 hi_c1])
    · exact (rm9_77 l Z a0 hw [] a1 b kb (lo8 c0) (hi8 c0) (lo8 c1) (hi8 c1) (lo8 c2) (hi8 c2) (lo8 c3) (hi8 c3) cs af h0 n0  PE PK PV PB PC PA PH PL PF   ncs).mono (fun _ _ h => h) (fun _ _ _ _ _ h => h) (fun _ _ _ _ _ h => by obtain ⟨v, L, q1, ⟨q2, q3⟩, q4⟩ := h; refine ⟨v, L, q1, ⟨q2.trans ?_, q3⟩, q4⟩; simp only [own_join c1 lo_c1 hi_c1, own_nc c1 lo_c1 hi_c1])
def Q13_78 (Z : State)  (h0 : Heap) (n0 : Nat) (v : Option Value) (h : Heap) (L : List Loc) : Prop := v = some (.int (2 : Int32)) ∧ Fr n0 L ∧ (h = h0)
theorem ef13_rm13_78 (m : MethodId)  : entryFrame m #[(.int (2 : Int32)), (.int (4 : Int32)), .null] 3 = (mkF m 0 #[.val (.int 2), .val (.int 4), .val .null] []) := by first | (simp [entryFrame, mkF, argsToLocals, Value.category, maxLocals]; done) | rfl
set_option maxRecDepth 65536 in
set_option maxHeartbeats 40000000 in
theorem rm13_78 (l : Launch) (Z : State) (a0 : Array Value) (hw : ∀ d ∈ tables_1, d.before a0 Z = true) (ws : List Jvm.Cond)   (h0 : Heap) (n0 : Nat)       :
    MetFree l Y13 (head1 (Jvm.Cond.code Y13 jdk_41_method_11_code 3 (some .int) :: ws) ({ frames := 0, cells := 0, slots := 0, locals := 0 } : Room)) (fun a U => a = #[(.int (2 : Int32)), (.int (4 : Int32)), .null] ∧ Z.Warmed39 U.vm ∧ U.heap = h0) (fun _ _ _ _ _ => True) (fun _ U o U' => ∃ v L, o = .returned v ∧ (Q13_78 Z  h0 n0) v U'.heap L ∧ FrameEnd U o U' L 0 0) := by
  refine MetFree.of_bodySF (plainFor_of_name pn_jdk_internal_util_Preconditions) hisR ?_
  intro p e s m args below meth c s₁ Bd hml0 hP hK
  obtain ⟨rfl, hZ, hh⟩ := hP
  have hx := Bd.exec
  have hby := Bd.bytes
  have hml : c.maxLocals = 3 := hml0
  have hown : s.vm.findClass "jdk/internal/util/Preconditions" = some m.cls := findClass_of_methodNamed Bd.named
  have hnm := (name_of_methodNamed Bd.named Bd.method).1
  have X0 : Stand p l e ({ frames := 0, cells := 0, slots := 0, locals := 0 } : Room) s m #[(.int (2 : Int32)), (.int (4 : Int32)), .null] below meth c s₁ [] 0 0 := Stand.of_body Bd
  have e0 : s₁.heap = h0 := by rw [← hh, Bd.state]; rfl
  have N0 := Fr.nil n0
  refine GoW.mk ?_
  refine GoW.st (fun t k => castTop (ef13_rm13_78 m ) k) ?_
  show GoW p e below s (Q13_78 Z  h0 n0) 0 0 (s₁.setTop (mkF m 0 (Sh13 2 4) []))
  refine GoW.sg (mkF m 1 (Sh13 2 4) [(.int 2)]) (fun t k => XS.iloadN X0.here hx rfl (hb hby d13_0) rfl k) ?_
  refine GoW.sg (mkF m 4 (Sh13 2 4) []) (fun t k => XS.ifNo X0.here hx rfl (hb hby d13_1) rfl (by decide) k) ?_
  refine GoW.sg (mkF m 5 (Sh13 2 4) [(.int 2)]) (fun t k => XS.iloadN X0.here hx rfl (hb hby d13_4) rfl k) ?_
  refine GoW.sg (mkF m 6 (Sh13 2 4) [(.int 4), (.int 2)]) (fun t k => XS.iloadN X0.here hx rfl (hb hby d13_5) rfl k) ?_
  refine GoW.sg (mkF m 16 (Sh13 2 4) []) (fun t k => XS.icmpYes X0.here hx rfl (pc0 := 6) (pc' := 16) rfl (hb hby d13_6) rfl (by decide) (by decide) (by decide) k) ?_
  refine GoW.sg (mkF m 17 (Sh13 2 4) [(.int 2)]) (fun t k => XS.iloadN X0.here hx rfl (hb hby d13_16) rfl k) ?_
  refine GoW.retI X0 hx Bd.returns (hb hby d13_17) Bd.notSynchronized ?_ (by decide) (by decide)
  rw [e0]
  exact ⟨rfl, N0, rfl⟩
def Q12_79 (Z : State)  (h0 : Heap) (n0 : Nat) (v : Option Value) (h : Heap) (L : List Loc) : Prop := v = none ∧ Fr n0 L ∧ (h = h0)
theorem ef12_rm12_79 (m : MethodId)  : entryFrame m #[(.int (2 : Int32)), (.int (4 : Int32))] 2 = (mkF m 0 #[.val (.int 2), .val (.int 4)] []) := by first | (simp [entryFrame, mkF, argsToLocals, Value.category, maxLocals]; done) | rfl
set_option maxRecDepth 65536 in
set_option maxHeartbeats 40000000 in
theorem rm12_79 (l : Launch) (Z : State) (a0 : Array Value) (hw : ∀ d ∈ tables_1, d.before a0 Z = true) (ws : List Jvm.Cond)   (h0 : Heap) (n0 : Nat) (P0 : Sta Z h0 "jdk/internal/util/Preconditions" "SIOOBE_FORMATTER" "Ljava/util/function/BiFunction;" .null)      :
    MetFree l Y12 (head1 (Jvm.Cond.code Y12 jdk_42_method_155_code 2 none :: ws) ({ frames := 1, cells := 0, slots := 0, locals := 14 } : Room)) (fun a U => a = #[(.int (2 : Int32)), (.int (4 : Int32))] ∧ Z.Warmed39 U.vm ∧ U.heap = h0) (fun _ _ _ _ _ => True) (fun _ U o U' => ∃ v L, o = .returned v ∧ (Q12_79 Z  h0 n0) v U'.heap L ∧ FrameEnd U o U' L 0 0) := by
  refine MetFree.of_bodySF (plainFor_of_name pn_java_lang_String) hisR ?_
  intro p e s m args below meth c s₁ Bd hml0 hP hK
  obtain ⟨rfl, hZ, hh⟩ := hP
  have hx := Bd.exec
  have hby := Bd.bytes
  have hml : c.maxLocals = 2 := hml0
  have hown : s.vm.findClass "java/lang/String" = some m.cls := findClass_of_methodNamed Bd.named
  have hnm := (name_of_methodNamed Bd.named Bd.method).1
  have X0 : Stand p l e ({ frames := 1, cells := 0, slots := 0, locals := 14 } : Room) s m #[(.int (2 : Int32)), (.int (4 : Int32))] below meth c s₁ [] 0 0 := Stand.of_body Bd
  have e0 : s₁.heap = h0 := by rw [← hh, Bd.state]; rfl
  have N0 := Fr.nil n0
  refine GoW.mk ?_
  refine GoW.st (fun t k => castTop (ef12_rm12_79 m ) k) ?_
  show GoW p e below s (Q12_79 Z  h0 n0) 0 0 (s₁.setTop (mkF m 0 #[.val (.int 2), .val (.int 4)] []))
  refine GoW.sg (mkF m 1 #[.val (.int 2), .val (.int 4)] [(.int 2)]) (fun t k => XS.iloadN X0.here hx rfl (hb hby d12_0) rfl k) ?_
  refine GoW.sg (mkF m 2 #[.val (.int 2), .val (.int 4)] [(.int 4), (.int 2)]) (fun t k => XS.iloadN X0.here hx rfl (hb hby d12_1) rfl k) ?_
  obtain ⟨T903, X903, e903, st903⟩ := getS (host := "") X0 hx hZ hown (ww hw 56 rfl) Via.refl e0 P0 (g := (mkF m 2 #[.val (.int 2), .val (.int 4)] [(.int 4), (.int 2)])) rfl (hb hby d12_2)
  refine GoW.sg (mkF m 5 #[.val (.int 2), .val (.int 4)] [.null, (.int 4), (.int 2)]) (fun t k => st903 t k) ?_
  obtain ⟨_, T904, L904, X904, hQ904, st904⟩ := own_callS X903 hx hZ hown (y := Y13) (ww hw 58 rfl) (ww hw 59 rfl) (ww hw 57 rfl) (ww hw 60 rfl) (by decide) 0 (rm13_78 l Z a0 hw []   h0 n0      ) (by decide) (by decide) e903 (by decide) (by decide) (g := (mkF m 5 #[.val (.int 2), .val (.int 4)] [.null, (.int 4), (.int 2)])) rfl (by rw [hml]; rfl) (argsL := [(.int (2 : Int32)), (.int (4 : Int32)), .null]) (rest := []) (lenOf pd_28IILjava2futil2ffunction2fBiFunction3b29I rfl) rfl (by show 2 * 0 + _ ≤ _; exact Nat.le_of_eq rfl) (hb hby d12_5)
  obtain ⟨rfl, N904q, e904⟩ := hQ904
  have N904 := Fr.app N0 N904q
  refine GoW.sg (mkF m 8 #[.val (.int 2), .val (.int 4)] [(.int 2)]) (fun t k => st904 t k) ?_
  refine GoW.sg (mkF m 9 #[.val (.int 2), .val (.int 4)] []) (fun t k => XS.pop X904.here hx rfl (hb hby d12_8) rfl rfl k) ?_
  refine GoW.retV X904 hx Bd.returns (hb hby d12_9) Bd.notSynchronized ?_ (by decide) (by decide)
  rw [e904]
  exact ⟨rfl, N904, rfl⟩
def Q11_80 (Z : State) (a1c : Addr) (ka1c : ClassId) (x1c : Int32) (x2c : Int32) (x3c : Int32) (x4c : Int32) (h0 : Heap) (n0 : Nat) (v : Option Value) (h : Heap) (L : List Loc) : Prop := v = some (.int (nar .char (x3c &&& (255 : Int32)).toUInt32.toUInt16.toUInt32.toInt32)) ∧ Fr n0 L ∧ (h = h0)
theorem ef11_rm11_80 (m : MethodId) (a1c : Addr) : entryFrame m #[(.ref a1c), (.int (2 : Int32))] 2 = (mkF m 0 #[.val (.ref a1c), .val (.int 2)] []) := by first | (simp [entryFrame, mkF, argsToLocals, Value.category, maxLocals]; done) | rfl
set_option maxRecDepth 65536 in
set_option maxHeartbeats 40000000 in
theorem rm11_80 (l : Launch) (Z : State) (a0 : Array Value) (hw : ∀ d ∈ tables_1, d.before a0 Z = true) (ws : List Jvm.Cond) (a1c : Addr) (ka1c : ClassId) (x1c : Int32) (x2c : Int32) (x3c : Int32) (x4c : Int32) (h0 : Heap) (n0 : Nat) (P0 : Arv Z h0 a1c ka1c .byte (4 : Int32) [(.int x1c), (.int x2c), (.int x3c), (.int x4c)] (.int (0 : Int32))) (P1 : Sta Z h0 "jdk/internal/util/Preconditions" "SIOOBE_FORMATTER" "Ljava/util/function/BiFunction;" .null)      :
    MetFree l Y11 (head1 (Jvm.Cond.code Y11 jdk_43_method_2_code 2 (some .char) :: ws) ({ frames := 2, cells := 0, slots := 0, locals := 27 } : Room)) (fun a U => a = #[(.ref a1c), (.int (2 : Int32))] ∧ Z.Warmed39 U.vm ∧ U.heap = h0) (fun _ _ _ _ _ => True) (fun _ U o U' => ∃ v L, o = .returned v ∧ (Q11_80 Z a1c ka1c x1c x2c x3c x4c h0 n0) v U'.heap L ∧ FrameEnd U o U' L 0 0) := by
  refine MetFree.of_bodySF (plainFor_of_name pn_java_lang_StringLatin1) hisR ?_
  intro p e s m args below meth c s₁ Bd hml0 hP hK
  obtain ⟨rfl, hZ, hh⟩ := hP
  have hx := Bd.exec
  have hby := Bd.bytes
  have hml : c.maxLocals = 2 := hml0
  have hown : s.vm.findClass "java/lang/StringLatin1" = some m.cls := findClass_of_methodNamed Bd.named
  have hnm := (name_of_methodNamed Bd.named Bd.method).1
  have X0 : Stand p l e ({ frames := 2, cells := 0, slots := 0, locals := 27 } : Room) s m #[(.ref a1c), (.int (2 : Int32))] below meth c s₁ [] 0 0 := Stand.of_body Bd
  have e0 : s₁.heap = h0 := by rw [← hh, Bd.state]; rfl
  have N0 := Fr.nil n0
  refine GoW.mk ?_
  refine GoW.st (fun t k => castTop (ef11_rm11_80 m a1c) k) ?_
  show GoW p e below s (Q11_80 Z a1c ka1c x1c x2c x3c x4c h0 n0) 0 0 (s₁.setTop (mkF m 0 #[.val (.ref a1c), .val (.int 2)] []))
  refine GoW.sg (mkF m 1 #[.val (.ref a1c), .val (.int 2)] [(.int 2)]) (fun t k => XS.iloadN X0.here hx rfl (hb hby d11_0) rfl k) ?_
  refine GoW.sg (mkF m 2 #[.val (.ref a1c), .val (.int 2)] [(.ref a1c), (.int 2)]) (fun t k => XS.aloadN X0.here hx rfl (hb hby d11_1) rfl rfl k) ?_
  obtain ⟨cl907, Ar907, q907, Sz907, Nn907, Hh907, Gg907⟩ := id P0
  have st907 := X0.arraylength hx (hq_ e0 Ar907.1) (State.isArrayOf_alike hZ.alike Ar907.2.1) (g := (mkF m 2 #[.val (.ref a1c), .val (.int 2)] [(.ref a1c), (.int 2)])) rfl rfl (hb hby d11_2)
  rw [len_of Sz907 Nn907] at st907
  refine GoW.sg (mkF m 3 #[.val (.ref a1c), .val (.int 2)] [(.int 4), (.int 2)]) (fun t k => st907 t k) ?_
  obtain ⟨_, T910, L910, X910, hQ910, st910⟩ := own_callS X0 hx hZ hown (y := Y12) (ww hw 53 rfl) (ww hw 54 rfl) (ww hw 3 rfl) (ww hw 55 rfl) (by decide) 0 (rm12_79 l Z a0 hw []   h0 n0  P1    ) (by decide) (by decide) e0 (by decide) (by decide) (g := (mkF m 3 #[.val (.ref a1c), .val (.int 2)] [(.int 4), (.int 2)])) rfl (by rw [hml]; rfl) (argsL := [(.int (2 : Int32)), (.int (4 : Int32))]) (rest := []) (lenOf pd_28II29V rfl) rfl (by show 2 * 0 + _ ≤ _; exact Nat.le_of_eq rfl) (hb hby d11_3)
  obtain ⟨rfl, N910q, e910⟩ := hQ910
  have N910 := Fr.app N0 N910q
  refine GoW.sg (mkF m 6 #[.val (.ref a1c), .val (.int 2)] []) (fun t k => st910 t k) ?_
  refine GoW.sg (mkF m 7 #[.val (.ref a1c), .val (.int 2)] [(.ref a1c)]) (fun t k => XS.aloadN X910.here hx rfl (hb hby d11_6) rfl rfl k) ?_
  refine GoW.sg (mkF m 8 #[.val (.ref a1c), .val (.int 2)] [(.int 2), (.ref a1c)]) (fun t k => XS.iloadN X910.here hx rfl (hb hby d11_7) rfl k) ?_
  obtain ⟨cl911, Ar911, q911, Sz911, Nn911, Hh911, Gg911⟩ := id P0
  have hin911 : ¬ ((2 : Int32) < 0 ∨ cl911.slots.size ≤ ((2 : Int32)).toNatClampNeg) := inb_of Sz911 ⟨by decide, by decide⟩
  refine GoW.sg (mkF m 9 #[.val (.ref a1c), .val (.int 2)] [(.int x3c)]) (fun t k => X910.baloadBytes hx (j := (2 : Int32)) (v := (.int x3c)) (hq_ e910 Ar911.1) (State.isArrayOf_alike hZ.alike Ar911.2.1) Ar911.2.2 hin911 (Hh911.at hin911 rfl) (g := (mkF m 8 #[.val (.ref a1c), .val (.int 2)] [(.int 2), (.ref a1c)])) rfl rfl (hb hby d11_8) t k) ?_
  refine GoW.sg (mkF m 12 #[.val (.ref a1c), .val (.int 2)] [(.int 255), (.int x3c)]) (fun t k => XS.sipush X910.here hx rfl (hb hby d11_9) k) ?_
  refine GoW.sg (mkF m 13 #[.val (.ref a1c), .val (.int 2)] [(.int (x3c &&& (255 : Int32)))]) (fun t k => XS.iand X910.here hx rfl (hb hby d11_12) rfl k) ?_
  refine GoW.sg (mkF m 14 #[.val (.ref a1c), .val (.int 2)] [(.int (x3c &&& (255 : Int32)).toUInt32.toUInt16.toUInt32.toInt32)]) (fun t k => XS.i2c X910.here hx rfl (hb hby d11_13) rfl k) ?_
  refine GoW.retN X910 hx (t := .char) Bd.returns (by simp) (hb hby d11_14) Bd.notSynchronized ?_ (by decide) (by decide)
  rw [e910]
  exact ⟨rfl, N910, rfl⟩
def Q13_82 (Z : State) (a1c : Addr) (h0 : Heap) (n0 : Nat) (v : Option Value) (h : Heap) (L : List Loc) : Prop := v = some (.int (2 : Int32)) ∧ Fr n0 L ∧ (h = h0)
theorem ef13_rm13_82 (m : MethodId) (a1c : Addr) : entryFrame m #[(.int (2 : Int32)), (.int (4 : Int32)), (.ref a1c)] 3 = (mkF m 0 #[.val (.int 2), .val (.int 4), .val (.ref a1c)] []) := by first | (simp [entryFrame, mkF, argsToLocals, Value.category, maxLocals]; done) | rfl
set_option maxRecDepth 65536 in
set_option maxHeartbeats 40000000 in
theorem rm13_82 (l : Launch) (Z : State) (a0 : Array Value) (hw : ∀ d ∈ tables_1, d.before a0 Z = true) (ws : List Jvm.Cond) (a1c : Addr)  (h0 : Heap) (n0 : Nat)       :
    MetFree l Y13 (head1 (Jvm.Cond.code Y13 jdk_41_method_11_code 3 (some .int) :: ws) ({ frames := 0, cells := 0, slots := 0, locals := 0 } : Room)) (fun a U => a = #[(.int (2 : Int32)), (.int (4 : Int32)), (.ref a1c)] ∧ Z.Warmed39 U.vm ∧ U.heap = h0) (fun _ _ _ _ _ => True) (fun _ U o U' => ∃ v L, o = .returned v ∧ (Q13_82 Z a1c h0 n0) v U'.heap L ∧ FrameEnd U o U' L 0 0) := by
  refine MetFree.of_bodySF (plainFor_of_name pn_jdk_internal_util_Preconditions) hisR ?_
  intro p e s m args below meth c s₁ Bd hml0 hP hK
  obtain ⟨rfl, hZ, hh⟩ := hP
  have hx := Bd.exec
  have hby := Bd.bytes
  have hml : c.maxLocals = 3 := hml0
  have hown : s.vm.findClass "jdk/internal/util/Preconditions" = some m.cls := findClass_of_methodNamed Bd.named
  have hnm := (name_of_methodNamed Bd.named Bd.method).1
  have X0 : Stand p l e ({ frames := 0, cells := 0, slots := 0, locals := 0 } : Room) s m #[(.int (2 : Int32)), (.int (4 : Int32)), (.ref a1c)] below meth c s₁ [] 0 0 := Stand.of_body Bd
  have e0 : s₁.heap = h0 := by rw [← hh, Bd.state]; rfl
  have N0 := Fr.nil n0
  refine GoW.mk ?_
  refine GoW.st (fun t k => castTop (ef13_rm13_82 m a1c) k) ?_
  show GoW p e below s (Q13_82 Z a1c h0 n0) 0 0 (s₁.setTop (mkF m 0 (Sh14 2 4 a1c) []))
  refine GoW.sg (mkF m 1 (Sh14 2 4 a1c) [(.int 2)]) (fun t k => XS.iloadN X0.here hx rfl (hb hby d13_0) rfl k) ?_
  refine GoW.sg (mkF m 4 (Sh14 2 4 a1c) []) (fun t k => XS.ifNo X0.here hx rfl (hb hby d13_1) rfl (by decide) k) ?_
  refine GoW.sg (mkF m 5 (Sh14 2 4 a1c) [(.int 2)]) (fun t k => XS.iloadN X0.here hx rfl (hb hby d13_4) rfl k) ?_
  refine GoW.sg (mkF m 6 (Sh14 2 4 a1c) [(.int 4), (.int 2)]) (fun t k => XS.iloadN X0.here hx rfl (hb hby d13_5) rfl k) ?_
  refine GoW.sg (mkF m 16 (Sh14 2 4 a1c) []) (fun t k => XS.icmpYes X0.here hx rfl (pc0 := 6) (pc' := 16) rfl (hb hby d13_6) rfl (by decide) (by decide) (by decide) k) ?_
  refine GoW.sg (mkF m 17 (Sh14 2 4 a1c) [(.int 2)]) (fun t k => XS.iloadN X0.here hx rfl (hb hby d13_16) rfl k) ?_
  refine GoW.retI X0 hx Bd.returns (hb hby d13_17) Bd.notSynchronized ?_ (by decide) (by decide)
  rw [e0]
  exact ⟨rfl, N0, rfl⟩
def Q12_83 (Z : State) (a1c : Addr) (h0 : Heap) (n0 : Nat) (v : Option Value) (h : Heap) (L : List Loc) : Prop := v = none ∧ Fr n0 L ∧ (h = h0)
theorem ef12_rm12_83 (m : MethodId)  : entryFrame m #[(.int (2 : Int32)), (.int (4 : Int32))] 2 = (mkF m 0 #[.val (.int 2), .val (.int 4)] []) := by first | (simp [entryFrame, mkF, argsToLocals, Value.category, maxLocals]; done) | rfl
set_option maxRecDepth 65536 in
set_option maxHeartbeats 40000000 in
theorem rm12_83 (l : Launch) (Z : State) (a0 : Array Value) (hw : ∀ d ∈ tables_1, d.before a0 Z = true) (ws : List Jvm.Cond)  (a1c : Addr) (h0 : Heap) (n0 : Nat) (P0 : Sta Z h0 "jdk/internal/util/Preconditions" "SIOOBE_FORMATTER" "Ljava/util/function/BiFunction;" (.ref a1c))      :
    MetFree l Y12 (head1 (Jvm.Cond.code Y12 jdk_42_method_155_code 2 none :: ws) ({ frames := 1, cells := 0, slots := 0, locals := 14 } : Room)) (fun a U => a = #[(.int (2 : Int32)), (.int (4 : Int32))] ∧ Z.Warmed39 U.vm ∧ U.heap = h0) (fun _ _ _ _ _ => True) (fun _ U o U' => ∃ v L, o = .returned v ∧ (Q12_83 Z a1c h0 n0) v U'.heap L ∧ FrameEnd U o U' L 0 0) := by
  refine MetFree.of_bodySF (plainFor_of_name pn_java_lang_String) hisR ?_
  intro p e s m args below meth c s₁ Bd hml0 hP hK
  obtain ⟨rfl, hZ, hh⟩ := hP
  have hx := Bd.exec
  have hby := Bd.bytes
  have hml : c.maxLocals = 2 := hml0
  have hown : s.vm.findClass "java/lang/String" = some m.cls := findClass_of_methodNamed Bd.named
  have hnm := (name_of_methodNamed Bd.named Bd.method).1
  have X0 : Stand p l e ({ frames := 1, cells := 0, slots := 0, locals := 14 } : Room) s m #[(.int (2 : Int32)), (.int (4 : Int32))] below meth c s₁ [] 0 0 := Stand.of_body Bd
  have e0 : s₁.heap = h0 := by rw [← hh, Bd.state]; rfl
  have N0 := Fr.nil n0
  refine GoW.mk ?_
  refine GoW.st (fun t k => castTop (ef12_rm12_83 m ) k) ?_
  show GoW p e below s (Q12_83 Z a1c h0 n0) 0 0 (s₁.setTop (mkF m 0 #[.val (.int 2), .val (.int 4)] []))
  refine GoW.sg (mkF m 1 #[.val (.int 2), .val (.int 4)] [(.int 2)]) (fun t k => XS.iloadN X0.here hx rfl (hb hby d12_0) rfl k) ?_
  refine GoW.sg (mkF m 2 #[.val (.int 2), .val (.int 4)] [(.int 4), (.int 2)]) (fun t k => XS.iloadN X0.here hx rfl (hb hby d12_1) rfl k) ?_
  obtain ⟨T926, X926, e926, st926⟩ := getS (host := "") X0 hx hZ hown (ww hw 56 rfl) Via.refl e0 P0 (g := (mkF m 2 #[.val (.int 2), .val (.int 4)] [(.int 4), (.int 2)])) rfl (hb hby d12_2)
  refine GoW.sg (mkF m 5 #[.val (.int 2), .val (.int 4)] [(.ref a1c), (.int 4), (.int 2)]) (fun t k => st926 t k) ?_
  obtain ⟨_, T927, L927, X927, hQ927, st927⟩ := own_callS X926 hx hZ hown (y := Y13) (ww hw 58 rfl) (ww hw 59 rfl) (ww hw 57 rfl) (ww hw 60 rfl) (by decide) 0 (rm13_82 l Z a0 hw [] a1c  h0 n0      ) (by decide) (by decide) e926 (by decide) (by decide) (g := (mkF m 5 #[.val (.int 2), .val (.int 4)] [(.ref a1c), (.int 4), (.int 2)])) rfl (by rw [hml]; rfl) (argsL := [(.int (2 : Int32)), (.int (4 : Int32)), (.ref a1c)]) (rest := []) (lenOf pd_28IILjava2futil2ffunction2fBiFunction3b29I rfl) rfl (by show 2 * 0 + _ ≤ _; exact Nat.le_of_eq rfl) (hb hby d12_5)
  obtain ⟨rfl, N927q, e927⟩ := hQ927
  have N927 := Fr.app N0 N927q
  refine GoW.sg (mkF m 8 #[.val (.int 2), .val (.int 4)] [(.int 2)]) (fun t k => st927 t k) ?_
  refine GoW.sg (mkF m 9 #[.val (.int 2), .val (.int 4)] []) (fun t k => XS.pop X927.here hx rfl (hb hby d12_8) rfl rfl k) ?_
  refine GoW.retV X927 hx Bd.returns (hb hby d12_9) Bd.notSynchronized ?_ (by decide) (by decide)
  rw [e927]
  exact ⟨rfl, N927, rfl⟩
def Q11_84 (Z : State) (a1c : Addr) (ka1c : ClassId) (x1c : Int32) (x2c : Int32) (x3c : Int32) (x4c : Int32) (a2c : Addr) (h0 : Heap) (n0 : Nat) (v : Option Value) (h : Heap) (L : List Loc) : Prop := v = some (.int (nar .char (x3c &&& (255 : Int32)).toUInt32.toUInt16.toUInt32.toInt32)) ∧ Fr n0 L ∧ (h = h0)
theorem ef11_rm11_84 (m : MethodId) (a1c : Addr) : entryFrame m #[(.ref a1c), (.int (2 : Int32))] 2 = (mkF m 0 #[.val (.ref a1c), .val (.int 2)] []) := by first | (simp [entryFrame, mkF, argsToLocals, Value.category, maxLocals]; done) | rfl
set_option maxRecDepth 65536 in
set_option maxHeartbeats 40000000 in
theorem rm11_84 (l : Launch) (Z : State) (a0 : Array Value) (hw : ∀ d ∈ tables_1, d.before a0 Z = true) (ws : List Jvm.Cond) (a1c : Addr) (ka1c : ClassId) (x1c : Int32) (x2c : Int32) (x3c : Int32) (x4c : Int32) (a2c : Addr) (h0 : Heap) (n0 : Nat) (P0 : Arv Z h0 a1c ka1c .byte (4 : Int32) [(.int x1c), (.int x2c), (.int x3c), (.int x4c)] (.int (0 : Int32))) (P1 : Sta Z h0 "jdk/internal/util/Preconditions" "SIOOBE_FORMATTER" "Ljava/util/function/BiFunction;" (.ref a2c))      :
    MetFree l Y11 (head1 (Jvm.Cond.code Y11 jdk_43_method_2_code 2 (some .char) :: ws) ({ frames := 2, cells := 0, slots := 0, locals := 27 } : Room)) (fun a U => a = #[(.ref a1c), (.int (2 : Int32))] ∧ Z.Warmed39 U.vm ∧ U.heap = h0) (fun _ _ _ _ _ => True) (fun _ U o U' => ∃ v L, o = .returned v ∧ (Q11_84 Z a1c ka1c x1c x2c x3c x4c a2c h0 n0) v U'.heap L ∧ FrameEnd U o U' L 0 0) := by
  refine MetFree.of_bodySF (plainFor_of_name pn_java_lang_StringLatin1) hisR ?_
  intro p e s m args below meth c s₁ Bd hml0 hP hK
  obtain ⟨rfl, hZ, hh⟩ := hP
  have hx := Bd.exec
  have hby := Bd.bytes
  have hml : c.maxLocals = 2 := hml0
  have hown : s.vm.findClass "java/lang/StringLatin1" = some m.cls := findClass_of_methodNamed Bd.named
  have hnm := (name_of_methodNamed Bd.named Bd.method).1
  have X0 : Stand p l e ({ frames := 2, cells := 0, slots := 0, locals := 27 } : Room) s m #[(.ref a1c), (.int (2 : Int32))] below meth c s₁ [] 0 0 := Stand.of_body Bd
  have e0 : s₁.heap = h0 := by rw [← hh, Bd.state]; rfl
  have N0 := Fr.nil n0
  refine GoW.mk ?_
  refine GoW.st (fun t k => castTop (ef11_rm11_84 m a1c) k) ?_
  show GoW p e below s (Q11_84 Z a1c ka1c x1c x2c x3c x4c a2c h0 n0) 0 0 (s₁.setTop (mkF m 0 #[.val (.ref a1c), .val (.int 2)] []))
  refine GoW.sg (mkF m 1 #[.val (.ref a1c), .val (.int 2)] [(.int 2)]) (fun t k => XS.iloadN X0.here hx rfl (hb hby d11_0) rfl k) ?_
  refine GoW.sg (mkF m 2 #[.val (.ref a1c), .val (.int 2)] [(.ref a1c), (.int 2)]) (fun t k => XS.aloadN X0.here hx rfl (hb hby d11_1) rfl rfl k) ?_
  obtain ⟨cl930, Ar930, q930, Sz930, Nn930, Hh930, Gg930⟩ := id P0
  have st930 := X0.arraylength hx (hq_ e0 Ar930.1) (State.isArrayOf_alike hZ.alike Ar930.2.1) (g := (mkF m 2 #[.val (.ref a1c), .val (.int 2)] [(.ref a1c), (.int 2)])) rfl rfl (hb hby d11_2)
  rw [len_of Sz930 Nn930] at st930
  refine GoW.sg (mkF m 3 #[.val (.ref a1c), .val (.int 2)] [(.int 4), (.int 2)]) (fun t k => st930 t k) ?_
  obtain ⟨_, T933, L933, X933, hQ933, st933⟩ := own_callS X0 hx hZ hown (y := Y12) (ww hw 53 rfl) (ww hw 54 rfl) (ww hw 3 rfl) (ww hw 55 rfl) (by decide) 0 (rm12_83 l Z a0 hw []  a2c h0 n0  P1    ) (by decide) (by decide) e0 (by decide) (by decide) (g := (mkF m 3 #[.val (.ref a1c), .val (.int 2)] [(.int 4), (.int 2)])) rfl (by rw [hml]; rfl) (argsL := [(.int (2 : Int32)), (.int (4 : Int32))]) (rest := []) (lenOf pd_28II29V rfl) rfl (by show 2 * 0 + _ ≤ _; exact Nat.le_of_eq rfl) (hb hby d11_3)
  obtain ⟨rfl, N933q, e933⟩ := hQ933
  have N933 := Fr.app N0 N933q
  refine GoW.sg (mkF m 6 #[.val (.ref a1c), .val (.int 2)] []) (fun t k => st933 t k) ?_
  refine GoW.sg (mkF m 7 #[.val (.ref a1c), .val (.int 2)] [(.ref a1c)]) (fun t k => XS.aloadN X933.here hx rfl (hb hby d11_6) rfl rfl k) ?_
  refine GoW.sg (mkF m 8 #[.val (.ref a1c), .val (.int 2)] [(.int 2), (.ref a1c)]) (fun t k => XS.iloadN X933.here hx rfl (hb hby d11_7) rfl k) ?_
  obtain ⟨cl934, Ar934, q934, Sz934, Nn934, Hh934, Gg934⟩ := id P0
  have hin934 : ¬ ((2 : Int32) < 0 ∨ cl934.slots.size ≤ ((2 : Int32)).toNatClampNeg) := inb_of Sz934 ⟨by decide, by decide⟩
  refine GoW.sg (mkF m 9 #[.val (.ref a1c), .val (.int 2)] [(.int x3c)]) (fun t k => X933.baloadBytes hx (j := (2 : Int32)) (v := (.int x3c)) (hq_ e933 Ar934.1) (State.isArrayOf_alike hZ.alike Ar934.2.1) Ar934.2.2 hin934 (Hh934.at hin934 rfl) (g := (mkF m 8 #[.val (.ref a1c), .val (.int 2)] [(.int 2), (.ref a1c)])) rfl rfl (hb hby d11_8) t k) ?_
  refine GoW.sg (mkF m 12 #[.val (.ref a1c), .val (.int 2)] [(.int 255), (.int x3c)]) (fun t k => XS.sipush X933.here hx rfl (hb hby d11_9) k) ?_
  refine GoW.sg (mkF m 13 #[.val (.ref a1c), .val (.int 2)] [(.int (x3c &&& (255 : Int32)))]) (fun t k => XS.iand X933.here hx rfl (hb hby d11_12) rfl k) ?_
  refine GoW.sg (mkF m 14 #[.val (.ref a1c), .val (.int 2)] [(.int (x3c &&& (255 : Int32)).toUInt32.toUInt16.toUInt32.toInt32)]) (fun t k => XS.i2c X933.here hx rfl (hb hby d11_13) rfl k) ?_
  refine GoW.retN X933 hx (t := .char) Bd.returns (by simp) (hb hby d11_14) Bd.notSynchronized ?_ (by decide) (by decide)
  rw [e933]
  exact ⟨rfl, N933, rfl⟩
def Q20_86 (Z : State) (a1c : Addr) (ka1c : ClassId) (x1c : Int32) (x2c : Int32) (x3c : Int32) (x4c : Int32) (x5c : Int32) (x6c : Int32) (x7c : Int32) (x8c : Int32) (h0 : Heap) (n0 : Nat) (v : Option Value) (h : Heap) (L : List Loc) : Prop := v = none ∧ Fr n0 L ∧ (h = h0)
theorem ef20_rm20_86 (m : MethodId) (a1c : Addr) : entryFrame m #[(.int (2 : Int32)), (.ref a1c)] 2 = (mkF m 0 #[.val (.int 2), .val (.ref a1c)] []) := by first | (simp [entryFrame, mkF, argsToLocals, Value.category, maxLocals]; done) | rfl
set_option maxRecDepth 65536 in
set_option maxHeartbeats 40000000 in
theorem rm20_86 (l : Launch) (Z : State) (a0 : Array Value) (hw : ∀ d ∈ tables_1, d.before a0 Z = true) (ws : List Jvm.Cond) (a1c : Addr) (ka1c : ClassId) (x1c : Int32) (x2c : Int32) (x3c : Int32) (x4c : Int32) (x5c : Int32) (x6c : Int32) (x7c : Int32) (x8c : Int32) (h0 : Heap) (n0 : Nat) (P0 : Arv Z h0 a1c ka1c .byte (8 : Int32) [(.int x1c), (.int x2c), (.int x3c), (.int x4c), (.int x5c), (.int x6c), (.int x7c), (.int x8c)] (.int (0 : Int32))) (P1 : Sta Z h0 "jdk/internal/util/Preconditions" "SIOOBE_FORMATTER" "Ljava/util/function/BiFunction;" .null)      :
    MetFree l Y20 (head1 (Jvm.Cond.code Y20 jdk_52_method_91_code 2 none :: ws) ({ frames := 2, cells := 0, slots := 0, locals := 27 } : Room)) (fun a U => a = #[(.int (2 : Int32)), (.ref a1c)] ∧ Z.Warmed39 U.vm ∧ U.heap = h0) (fun _ _ _ _ _ => True) (fun _ U o U' => ∃ v L, o = .returned v ∧ (Q20_86 Z a1c ka1c x1c x2c x3c x4c x5c x6c x7c x8c h0 n0) v U'.heap L ∧ FrameEnd U o U' L 0 0) := by
  refine MetFree.of_bodySF (plainFor_of_name pn_java_lang_StringUTF16) hisR ?_
  intro p e s m args below meth c s₁ Bd hml0 hP hK
  obtain ⟨rfl, hZ, hh⟩ := hP
  have hx := Bd.exec
  have hby := Bd.bytes
  have hml : c.maxLocals = 2 := hml0
  have hown : s.vm.findClass "java/lang/StringUTF16" = some m.cls := findClass_of_methodNamed Bd.named
  have hnm := (name_of_methodNamed Bd.named Bd.method).1
  have X0 : Stand p l e ({ frames := 2, cells := 0, slots := 0, locals := 27 } : Room) s m #[(.int (2 : Int32)), (.ref a1c)] below meth c s₁ [] 0 0 := Stand.of_body Bd
  have e0 : s₁.heap = h0 := by rw [← hh, Bd.state]; rfl
  have N0 := Fr.nil n0
  refine GoW.mk ?_
  refine GoW.st (fun t k => castTop (ef20_rm20_86 m a1c) k) ?_
  show GoW p e below s (Q20_86 Z a1c ka1c x1c x2c x3c x4c x5c x6c x7c x8c h0 n0) 0 0 (s₁.setTop (mkF m 0 #[.val (.int 2), .val (.ref a1c)] []))
  refine GoW.sg (mkF m 1 #[.val (.int 2), .val (.ref a1c)] [(.int 2)]) (fun t k => XS.iloadN X0.here hx rfl (hb hby d20_0) rfl k) ?_
  refine GoW.sg (mkF m 2 #[.val (.int 2), .val (.ref a1c)] [(.ref a1c), (.int 2)]) (fun t k => XS.aloadN X0.here hx rfl (hb hby d20_1) rfl rfl k) ?_
  obtain ⟨_, T948, L948, X948, hQ948, st948⟩ := own_callS X0 hx hZ hown (y := Y21) (ww hw 86 rfl) (ww hw 87 rfl) (ww hw 17 rfl) (ww hw 88 rfl) (by decide) 1 (rm21_49 l Z a0 hw [] a1c ka1c x1c x2c x3c x4c x5c x6c x7c x8c h0 n0  P0    ) (by decide) (by decide) e0 (by decide) (by decide) (g := (mkF m 2 #[.val (.int 2), .val (.ref a1c)] [(.ref a1c), (.int 2)])) rfl (by rw [hml]; rfl) (argsL := [(.ref a1c)]) (rest := [(.int (2 : Int32))]) (lenOf pd_285bB29I rfl) rfl (by show 2 * 0 + _ ≤ _; exact Nat.le_of_eq rfl) (hb hby d20_2)
  obtain ⟨rfl, N948q, e948⟩ := hQ948
  have N948 := Fr.app N0 N948q
  refine GoW.sg (mkF m 5 #[.val (.int 2), .val (.ref a1c)] [(.int 4), (.int 2)]) (fun t k => st948 t k) ?_
  obtain ⟨_, T949, L949, X949, hQ949, st949⟩ := own_callS X948 hx hZ hown (y := Y12) (ww hw 89 rfl) (ww hw 54 rfl) (ww hw 3 rfl) (ww hw 55 rfl) (by decide) 0 (rm12_79 l Z a0 hw []   h0 n0  P1    ) (by decide) (by decide) e948 (by decide) (by decide) (g := (mkF m 5 #[.val (.int 2), .val (.ref a1c)] [(.int 4), (.int 2)])) rfl (by rw [hml]; rfl) (argsL := [(.int (2 : Int32)), (.int (4 : Int32))]) (rest := []) (lenOf pd_28II29V rfl) rfl (by show 2 * 0 + _ ≤ _; exact Nat.le_of_eq rfl) (hb hby d20_5)
  obtain ⟨rfl, N949q, e949⟩ := hQ949
  have N949 := Fr.app N948 N949q
  refine GoW.sg (mkF m 8 #[.val (.int 2), .val (.ref a1c)] []) (fun t k => st949 t k) ?_
  refine GoW.retV X949 hx Bd.returns (hb hby d20_8) Bd.notSynchronized ?_ (by decide) (by decide)
  rw [e949]
  exact ⟨rfl, N949, rfl⟩
def Q19_87 (Z : State) (a1c : Addr) (ka1c : ClassId) (x1c : Int32) (x2c : Int32) (x3c : Int32) (x4c : Int32) (x5c : Int32) (x6c : Int32) (x7c : Int32) (x8c : Int32) (h0 : Heap) (n0 : Nat) (v : Option Value) (h : Heap) (L : List Loc) : Prop := v = some (.int (nar .char (nar .char (((x5c &&& (255 : Int32)) <<< ((0 : Int32) &&& 31)) ||| ((x6c &&& (255 : Int32)) <<< ((8 : Int32) &&& 31))).toUInt32.toUInt16.toUInt32.toInt32))) ∧ Fr n0 L ∧ (h = h0)
theorem ef19_rm19_87 (m : MethodId) (a1c : Addr) : entryFrame m #[(.ref a1c), (.int (2 : Int32))] 2 = (mkF m 0 #[.val (.ref a1c), .val (.int 2)] []) := by first | (simp [entryFrame, mkF, argsToLocals, Value.category, maxLocals]; done) | rfl
set_option maxRecDepth 65536 in
set_option maxHeartbeats 40000000 in
theorem rm19_87 (l : Launch) (Z : State) (a0 : Array Value) (hw : ∀ d ∈ tables_1, d.before a0 Z = true) (ws : List Jvm.Cond) (a1c : Addr) (ka1c : ClassId) (x1c : Int32) (x2c : Int32) (x3c : Int32) (x4c : Int32) (x5c : Int32) (x6c : Int32) (x7c : Int32) (x8c : Int32) (h0 : Heap) (n0 : Nat) (P0 : Arv Z h0 a1c ka1c .byte (8 : Int32) [(.int x1c), (.int x2c), (.int x3c), (.int x4c), (.int x5c), (.int x6c), (.int x7c), (.int x8c)] (.int (0 : Int32))) (P1 : Sta Z h0 "java/lang/StringUTF16" "$assertionsDisabled" "Z" (.int (1 : Int32))) (P2 : Sta Z h0 "java/lang/StringUTF16" "HI_BYTE_SHIFT" "I" (.int (0 : Int32))) (P3 : Sta Z h0 "java/lang/StringUTF16" "LO_BYTE_SHIFT" "I" (.int (8 : Int32))) (P4 : Sta Z h0 "jdk/internal/util/Preconditions" "SIOOBE_FORMATTER" "Ljava/util/function/BiFunction;" .null)      :
    MetFree l Y19 (head1 (Jvm.Cond.code Y19 jdk_52_method_83_code 2 (some .char) :: ws) ({ frames := 3, cells := 0, slots := 0, locals := 40 } : Room)) (fun a U => a = #[(.ref a1c), (.int (2 : Int32))] ∧ Z.Warmed39 U.vm ∧ U.heap = h0) (fun _ _ _ _ _ => True) (fun _ U o U' => ∃ v L, o = .returned v ∧ (Q19_87 Z a1c ka1c x1c x2c x3c x4c x5c x6c x7c x8c h0 n0) v U'.heap L ∧ FrameEnd U o U' L 0 0) := by
  refine MetFree.of_bodySF (plainFor_of_name pn_java_lang_StringUTF16) hisR ?_
  intro p e s m args below meth c s₁ Bd hml0 hP hK
  obtain ⟨rfl, hZ, hh⟩ := hP
  have hx := Bd.exec
  have hby := Bd.bytes
  have hml : c.maxLocals = 2 := hml0
  have hown : s.vm.findClass "java/lang/StringUTF16" = some m.cls := findClass_of_methodNamed Bd.named
  have hnm := (name_of_methodNamed Bd.named Bd.method).1
  have X0 : Stand p l e ({ frames := 3, cells := 0, slots := 0, locals := 40 } : Room) s m #[(.ref a1c), (.int (2 : Int32))] below meth c s₁ [] 0 0 := Stand.of_body Bd
  have e0 : s₁.heap = h0 := by rw [← hh, Bd.state]; rfl
  have N0 := Fr.nil n0
  refine GoW.mk ?_
  refine GoW.st (fun t k => castTop (ef19_rm19_87 m a1c) k) ?_
  show GoW p e below s (Q19_87 Z a1c ka1c x1c x2c x3c x4c x5c x6c x7c x8c h0 n0) 0 0 (s₁.setTop (mkF m 0 #[.val (.ref a1c), .val (.int 2)] []))
  refine GoW.sg (mkF m 1 #[.val (.ref a1c), .val (.int 2)] [(.int 2)]) (fun t k => XS.iloadN X0.here hx rfl (hb hby d19_0) rfl k) ?_
  refine GoW.sg (mkF m 2 #[.val (.ref a1c), .val (.int 2)] [(.ref a1c), (.int 2)]) (fun t k => XS.aloadN X0.here hx rfl (hb hby d19_1) rfl rfl k) ?_
  obtain ⟨_, T961, L961, X961, hQ961, st961⟩ := own_callS X0 hx hZ hown (y := Y20) (ww hw 83 rfl) (ww hw 84 rfl) (ww hw 17 rfl) (ww hw 85 rfl) (by decide) 0 (rm20_86 l Z a0 hw [] a1c ka1c x1c x2c x3c x4c x5c x6c x7c x8c h0 n0  P0 P4    ) (by decide) (by decide) e0 (by decide) (by decide) (g := (mkF m 2 #[.val (.ref a1c), .val (.int 2)] [(.ref a1c), (.int 2)])) rfl (by rw [hml]; rfl) (argsL := [(.int (2 : Int32)), (.ref a1c)]) (rest := []) (lenOf pd_28I5bB29V rfl) rfl (by show 2 * 0 + _ ≤ _; exact Nat.le_of_eq rfl) (hb hby d19_2)
  obtain ⟨rfl, N961q, e961⟩ := hQ961
  have N961 := Fr.app N0 N961q
  refine GoW.sg (mkF m 5 #[.val (.ref a1c), .val (.int 2)] []) (fun t k => st961 t k) ?_
  refine GoW.sg (mkF m 6 #[.val (.ref a1c), .val (.int 2)] [(.ref a1c)]) (fun t k => XS.aloadN X961.here hx rfl (hb hby d19_5) rfl rfl k) ?_
  refine GoW.sg (mkF m 7 #[.val (.ref a1c), .val (.int 2)] [(.int 2), (.ref a1c)]) (fun t k => XS.iloadN X961.here hx rfl (hb hby d19_6) rfl k) ?_
  obtain ⟨_, T967, L967, X967, hQ967, st967⟩ := own_callS X961 hx hZ hown (y := Y18) (ww hw 77 rfl) (ww hw 78 rfl) (ww hw 17 rfl) (ww hw 79 rfl) (by decide) 0 (rm18_20 l Z a0 hw [] a1c ka1c x1c x2c x3c x4c x5c x6c x7c x8c h0 n0  P0 P1 P2 P3    ) (by decide) (by decide) e961 (by decide) (by decide) (g := (mkF m 7 #[.val (.ref a1c), .val (.int 2)] [(.int 2), (.ref a1c)])) rfl (by rw [hml]; rfl) (argsL := [(.ref a1c), (.int (2 : Int32))]) (rest := []) (lenOf pd_285bBI29C rfl) rfl (by show 2 * 0 + _ ≤ _; exact Nat.le_of_eq rfl) (hb hby d19_7)
  obtain ⟨rfl, N967q, e967⟩ := hQ967
  have N967 := Fr.app N961 N967q
  refine GoW.sg (mkF m 10 #[.val (.ref a1c), .val (.int 2)] [(.int (nar .char (((x5c &&& (255 : Int32)) <<< ((0 : Int32) &&& 31)) ||| ((x6c &&& (255 : Int32)) <<< ((8 : Int32) &&& 31))).toUInt32.toUInt16.toUInt32.toInt32))]) (fun t k => st967 t k) ?_
  refine GoW.retN X967 hx (t := .char) Bd.returns (by simp) (hb hby d19_10) Bd.notSynchronized ?_ (by decide) (by decide)
  rw [e967]
  exact ⟨rfl, N967, rfl⟩
def Q20_89 (Z : State) (a1c : Addr) (ka1c : ClassId) (x1c : Int32) (x2c : Int32) (x3c : Int32) (x4c : Int32) (x5c : Int32) (x6c : Int32) (x7c : Int32) (x8c : Int32) (a2c : Addr) (h0 : Heap) (n0 : Nat) (v : Option Value) (h : Heap) (L : List Loc) : Prop := v = none ∧ Fr n0 L ∧ (h = h0)
theorem ef20_rm20_89 (m : MethodId) (a1c : Addr) : entryFrame m #[(.int (2 : Int32)), (.ref a1c)] 2 = (mkF m 0 #[.val (.int 2), .val (.ref a1c)] []) := by first | (simp [entryFrame, mkF, argsToLocals, Value.category, maxLocals]; done) | rfl
set_option maxRecDepth 65536 in
set_option maxHeartbeats 40000000 in
theorem rm20_89 (l : Launch) (Z : State) (a0 : Array Value) (hw : ∀ d ∈ tables_1, d.before a0 Z = true) (ws : List Jvm.Cond) (a1c : Addr) (ka1c : ClassId) (x1c : Int32) (x2c : Int32) (x3c : Int32) (x4c : Int32) (x5c : Int32) (x6c : Int32) (x7c : Int32) (x8c : Int32) (a2c : Addr) (h0 : Heap) (n0 : Nat) (P0 : Arv Z h0 a1c ka1c .byte (8 : Int32) [(.int x1c), (.int x2c), (.int x3c), (.int x4c), (.int x5c), (.int x6c), (.int x7c), (.int x8c)] (.int (0 : Int32))) (P1 : Sta Z h0 "jdk/internal/util/Preconditions" "SIOOBE_FORMATTER" "Ljava/util/function/BiFunction;" (.ref a2c))      :
    MetFree l Y20 (head1 (Jvm.Cond.code Y20 jdk_52_method_91_code 2 none :: ws) ({ frames := 2, cells := 0, slots := 0, locals := 27 } : Room)) (fun a U => a = #[(.int (2 : Int32)), (.ref a1c)] ∧ Z.Warmed39 U.vm ∧ U.heap = h0) (fun _ _ _ _ _ => True) (fun _ U o U' => ∃ v L, o = .returned v ∧ (Q20_89 Z a1c ka1c x1c x2c x3c x4c x5c x6c x7c x8c a2c h0 n0) v U'.heap L ∧ FrameEnd U o U' L 0 0) := by
  refine MetFree.of_bodySF (plainFor_of_name pn_java_lang_StringUTF16) hisR ?_
  intro p e s m args below meth c s₁ Bd hml0 hP hK
  obtain ⟨rfl, hZ, hh⟩ := hP
  have hx := Bd.exec
  have hby := Bd.bytes
  have hml : c.maxLocals = 2 := hml0
  have hown : s.vm.findClass "java/lang/StringUTF16" = some m.cls := findClass_of_methodNamed Bd.named
  have hnm := (name_of_methodNamed Bd.named Bd.method).1
  have X0 : Stand p l e ({ frames := 2, cells := 0, slots := 0, locals := 27 } : Room) s m #[(.int (2 : Int32)), (.ref a1c)] below meth c s₁ [] 0 0 := Stand.of_body Bd
  have e0 : s₁.heap = h0 := by rw [← hh, Bd.state]; rfl
  have N0 := Fr.nil n0
  refine GoW.mk ?_
  refine GoW.st (fun t k => castTop (ef20_rm20_89 m a1c) k) ?_
  show GoW p e below s (Q20_89 Z a1c ka1c x1c x2c x3c x4c x5c x6c x7c x8c a2c h0 n0) 0 0 (s₁.setTop (mkF m 0 #[.val (.int 2), .val (.ref a1c)] []))
  refine GoW.sg (mkF m 1 #[.val (.int 2), .val (.ref a1c)] [(.int 2)]) (fun t k => XS.iloadN X0.here hx rfl (hb hby d20_0) rfl k) ?_
  refine GoW.sg (mkF m 2 #[.val (.int 2), .val (.ref a1c)] [(.ref a1c), (.int 2)]) (fun t k => XS.aloadN X0.here hx rfl (hb hby d20_1) rfl rfl k) ?_
  obtain ⟨_, T976, L976, X976, hQ976, st976⟩ := own_callS X0 hx hZ hown (y := Y21) (ww hw 86 rfl) (ww hw 87 rfl) (ww hw 17 rfl) (ww hw 88 rfl) (by decide) 1 (rm21_49 l Z a0 hw [] a1c ka1c x1c x2c x3c x4c x5c x6c x7c x8c h0 n0  P0    ) (by decide) (by decide) e0 (by decide) (by decide) (g := (mkF m 2 #[.val (.int 2), .val (.ref a1c)] [(.ref a1c), (.int 2)])) rfl (by rw [hml]; rfl) (argsL := [(.ref a1c)]) (rest := [(.int (2 : Int32))]) (lenOf pd_285bB29I rfl) rfl (by show 2 * 0 + _ ≤ _; exact Nat.le_of_eq rfl) (hb hby d20_2)
  obtain ⟨rfl, N976q, e976⟩ := hQ976
  have N976 := Fr.app N0 N976q
  refine GoW.sg (mkF m 5 #[.val (.int 2), .val (.ref a1c)] [(.int 4), (.int 2)]) (fun t k => st976 t k) ?_
  obtain ⟨_, T977, L977, X977, hQ977, st977⟩ := own_callS X976 hx hZ hown (y := Y12) (ww hw 89 rfl) (ww hw 54 rfl) (ww hw 3 rfl) (ww hw 55 rfl) (by decide) 0 (rm12_83 l Z a0 hw []  a2c h0 n0  P1    ) (by decide) (by decide) e976 (by decide) (by decide) (g := (mkF m 5 #[.val (.int 2), .val (.ref a1c)] [(.int 4), (.int 2)])) rfl (by rw [hml]; rfl) (argsL := [(.int (2 : Int32)), (.int (4 : Int32))]) (rest := []) (lenOf pd_28II29V rfl) rfl (by show 2 * 0 + _ ≤ _; exact Nat.le_of_eq rfl) (hb hby d20_5)
  obtain ⟨rfl, N977q, e977⟩ := hQ977
  have N977 := Fr.app N976 N977q
  refine GoW.sg (mkF m 8 #[.val (.int 2), .val (.ref a1c)] []) (fun t k => st977 t k) ?_
  refine GoW.retV X977 hx Bd.returns (hb hby d20_8) Bd.notSynchronized ?_ (by decide) (by decide)
  rw [e977]
  exact ⟨rfl, N977, rfl⟩
def Q19_90 (Z : State) (a1c : Addr) (ka1c : ClassId) (x1c : Int32) (x2c : Int32) (x3c : Int32) (x4c : Int32) (x5c : Int32) (x6c : Int32) (x7c : Int32) (x8c : Int32) (a2c : Addr) (h0 : Heap) (n0 : Nat) (v : Option Value) (h : Heap) (L : List Loc) : Prop := v = some (.int (nar .char (nar .char (((x5c &&& (255 : Int32)) <<< ((0 : Int32) &&& 31)) ||| ((x6c &&& (255 : Int32)) <<< ((8 : Int32) &&& 31))).toUInt32.toUInt16.toUInt32.toInt32))) ∧ Fr n0 L ∧ (h = h0)
theorem ef19_rm19_90 (m : MethodId) (a1c : Addr) : entryFrame m #[(.ref a1c), (.int (2 : Int32))] 2 = (mkF m 0 #[.val (.ref a1c), .val (.int 2)] []) := by first | (simp [entryFrame, mkF, argsToLocals, Value.category, maxLocals]; done) | rfl
set_option maxRecDepth 65536 in
set_option maxHeartbeats 40000000 in
theorem rm19_90 (l : Launch) (Z : State) (a0 : Array Value) (hw : ∀ d ∈ tables_1, d.before a0 Z = true) (ws : List Jvm.Cond) (a1c : Addr) (ka1c : ClassId) (x1c : Int32) (x2c : Int32) (x3c : Int32) (x4c : Int32) (x5c : Int32) (x6c : Int32) (x7c : Int32) (x8c : Int32) (a2c : Addr) (h0 : Heap) (n0 : Nat) (P0 : Arv Z h0 a1c ka1c .byte (8 : Int32) [(.int x1c), (.int x2c), (.int x3c), (.int x4c), (.int x5c), (.int x6c), (.int x7c), (.int x8c)] (.int (0 : Int32))) (P1 : Sta Z h0 "java/lang/StringUTF16" "$assertionsDisabled" "Z" (.int (1 : Int32))) (P2 : Sta Z h0 "java/lang/StringUTF16" "HI_BYTE_SHIFT" "I" (.int (0 : Int32))) (P3 : Sta Z h0 "java/lang/StringUTF16" "LO_BYTE_SHIFT" "I" (.int (8 : Int32))) (P4 : Sta Z h0 "jdk/internal/util/Preconditions" "SIOOBE_FORMATTER" "Ljava/util/function/BiFunction;" (.ref a2c))      :
    MetFree l Y19 (head1 (Jvm.Cond.code Y19 jdk_52_method_83_code 2 (some .char) :: ws) ({ frames := 3, cells := 0, slots := 0, locals := 40 } : Room)) (fun a U => a = #[(.ref a1c), (.int (2 : Int32))] ∧ Z.Warmed39 U.vm ∧ U.heap = h0) (fun _ _ _ _ _ => True) (fun _ U o U' => ∃ v L, o = .returned v ∧ (Q19_90 Z a1c ka1c x1c x2c x3c x4c x5c x6c x7c x8c a2c h0 n0) v U'.heap L ∧ FrameEnd U o U' L 0 0) := by
  refine MetFree.of_bodySF (plainFor_of_name pn_java_lang_StringUTF16) hisR ?_
  intro p e s m args below meth c s₁ Bd hml0 hP hK
  obtain ⟨rfl, hZ, hh⟩ := hP
  have hx := Bd.exec
  have hby := Bd.bytes
  have hml : c.maxLocals = 2 := hml0
  have hown : s.vm.findClass "java/lang/StringUTF16" = some m.cls := findClass_of_methodNamed Bd.named
  have hnm := (name_of_methodNamed Bd.named Bd.method).1
  have X0 : Stand p l e ({ frames := 3, cells := 0, slots := 0, locals := 40 } : Room) s m #[(.ref a1c), (.int (2 : Int32))] below meth c s₁ [] 0 0 := Stand.of_body Bd
  have e0 : s₁.heap = h0 := by rw [← hh, Bd.state]; rfl
  have N0 := Fr.nil n0
  refine GoW.mk ?_
  refine GoW.st (fun t k => castTop (ef19_rm19_90 m a1c) k) ?_
  show GoW p e below s (Q19_90 Z a1c ka1c x1c x2c x3c x4c x5c x6c x7c x8c a2c h0 n0) 0 0 (s₁.setTop (mkF m 0 #[.val (.ref a1c), .val (.int 2)] []))
  refine GoW.sg (mkF m 1 #[.val (.ref a1c), .val (.int 2)] [(.int 2)]) (fun t k => XS.iloadN X0.here hx rfl (hb hby d19_0) rfl k) ?_
  refine GoW.sg (mkF m 2 #[.val (.ref a1c), .val (.int 2)] [(.ref a1c), (.int 2)]) (fun t k => XS.aloadN X0.here hx rfl (hb hby d19_1) rfl rfl k) ?_
  obtain ⟨_, T989, L989, X989, hQ989, st989⟩ := own_callS X0 hx hZ hown (y := Y20) (ww hw 83 rfl) (ww hw 84 rfl) (ww hw 17 rfl) (ww hw 85 rfl) (by decide) 0 (rm20_89 l Z a0 hw [] a1c ka1c x1c x2c x3c x4c x5c x6c x7c x8c a2c h0 n0  P0 P4    ) (by decide) (by decide) e0 (by decide) (by decide) (g := (mkF m 2 #[.val (.ref a1c), .val (.int 2)] [(.ref a1c), (.int 2)])) rfl (by rw [hml]; rfl) (argsL := [(.int (2 : Int32)), (.ref a1c)]) (rest := []) (lenOf pd_28I5bB29V rfl) rfl (by show 2 * 0 + _ ≤ _; exact Nat.le_of_eq rfl) (hb hby d19_2)
  obtain ⟨rfl, N989q, e989⟩ := hQ989
  have N989 := Fr.app N0 N989q
  refine GoW.sg (mkF m 5 #[.val (.ref a1c), .val (.int 2)] []) (fun t k => st989 t k) ?_
  refine GoW.sg (mkF m 6 #[.val (.ref a1c), .val (.int 2)] [(.ref a1c)]) (fun t k => XS.aloadN X989.here hx rfl (hb hby d19_5) rfl rfl k) ?_
  refine GoW.sg (mkF m 7 #[.val (.ref a1c), .val (.int 2)] [(.int 2), (.ref a1c)]) (fun t k => XS.iloadN X989.here hx rfl (hb hby d19_6) rfl k) ?_
  obtain ⟨_, T995, L995, X995, hQ995, st995⟩ := own_callS X989 hx hZ hown (y := Y18) (ww hw 77 rfl) (ww hw 78 rfl) (ww hw 17 rfl) (ww hw 79 rfl) (by decide) 0 (rm18_20 l Z a0 hw [] a1c ka1c x1c x2c x3c x4c x5c x6c x7c x8c h0 n0  P0 P1 P2 P3    ) (by decide) (by decide) e989 (by decide) (by decide) (g := (mkF m 7 #[.val (.ref a1c), .val (.int 2)] [(.int 2), (.ref a1c)])) rfl (by rw [hml]; rfl) (argsL := [(.ref a1c), (.int (2 : Int32))]) (rest := []) (lenOf pd_285bBI29C rfl) rfl (by show 2 * 0 + _ ≤ _; exact Nat.le_of_eq rfl) (hb hby d19_7)
  obtain ⟨rfl, N995q, e995⟩ := hQ995
  have N995 := Fr.app N989 N995q
  refine GoW.sg (mkF m 10 #[.val (.ref a1c), .val (.int 2)] [(.int (nar .char (((x5c &&& (255 : Int32)) <<< ((0 : Int32) &&& 31)) ||| ((x6c &&& (255 : Int32)) <<< ((8 : Int32) &&& 31))).toUInt32.toUInt16.toUInt32.toInt32))]) (fun t k => st995 t k) ?_
  refine GoW.retN X995 hx (t := .char) Bd.returns (by simp) (hb hby d19_10) Bd.notSynchronized ?_ (by decide) (by decide)
  rw [e995]
  exact ⟨rfl, N995, rfl⟩
def Q9_92 (Z : State) (a1c : Addr) (a2c : Addr) (ka2c : ClassId) (x1c : Int32) (x2c : Int32) (x3c : Int32) (x4c : Int32) (x5c : Int32) (h0 : Heap) (n0 : Nat) (v : Option Value) (h : Heap) (L : List Loc) : Prop := v = some (.int (nar .char (nar .char (x3c &&& (255 : Int32)).toUInt32.toUInt16.toUInt32.toInt32))) ∧ Fr n0 L ∧ (h = h0)
theorem ef9_rm9_92 (m : MethodId) (a1c : Addr) : entryFrame m #[(.ref a1c), (.int (2 : Int32))] 2 = (mkF m 0 #[.val (.ref a1c), .val (.int 2)] []) := by first | (simp [entryFrame, mkF, argsToLocals, Value.category, maxLocals]; done) | rfl
set_option maxRecDepth 65536 in
set_option maxHeartbeats 40000000 in
theorem rm9_92 (l : Launch) (Z : State) (a0 : Array Value) (hw : ∀ d ∈ tables_1, d.before a0 Z = true) (ws : List Jvm.Cond) (a1c : Addr) (a2c : Addr) (ka2c : ClassId) (x1c : Int32) (x2c : Int32) (x3c : Int32) (x4c : Int32) (x5c : Int32) (h0 : Heap) (n0 : Nat) (P0 : Exa Z h0 a1c "java/lang/String") (P1 : Fld Z h0 a1c "java/lang/String" "coder" "B" (.int (0 : Int32))) (P2 : Fld Z h0 a1c "java/lang/String" "value" "[B" (.ref a2c)) (P3 : Arv Z h0 a2c ka2c .byte (4 : Int32) [(.int x1c), (.int x2c), (.int x3c), (.int x4c)] (.int (0 : Int32))) (P4 : Sta Z h0 "java/lang/String" "COMPACT_STRINGS" "Z" (.int x5c)) (P5 : Sta Z h0 "jdk/internal/util/Preconditions" "SIOOBE_FORMATTER" "Ljava/util/function/BiFunction;" .null)   (u0 : ¬ (x5c = (0 : Int32)))   :
    MetFree l Y9 (head1 (Jvm.Cond.code Y9 jdk_42_method_56_code 2 (some .char) :: ws) ({ frames := 4, cells := 0, slots := 0, locals := 53 } : Room)) (fun a U => a = #[(.ref a1c), (.int (2 : Int32))] ∧ Z.Warmed39 U.vm ∧ U.heap = h0) (fun _ _ _ _ _ => True) (fun _ U o U' => ∃ v L, o = .returned v ∧ (Q9_92 Z a1c a2c ka2c x1c x2c x3c x4c x5c h0 n0) v U'.heap L ∧ FrameEnd U o U' L 0 0) := by
  refine MetFree.of_bodySF (plainFor_of_name pn_java_lang_String) hisR ?_
  intro p e s m args below meth c s₁ Bd hml0 hP hK
  obtain ⟨rfl, hZ, hh⟩ := hP
  have hx := Bd.exec
  have hby := Bd.bytes
  have hml : c.maxLocals = 2 := hml0
  have hown : s.vm.findClass "java/lang/String" = some m.cls := findClass_of_methodNamed Bd.named
  have hnm := (name_of_methodNamed Bd.named Bd.method).1
  have X0 : Stand p l e ({ frames := 4, cells := 0, slots := 0, locals := 53 } : Room) s m #[(.ref a1c), (.int (2 : Int32))] below meth c s₁ [] 0 0 := Stand.of_body Bd
  have e0 : s₁.heap = h0 := by rw [← hh, Bd.state]; rfl
  have N0 := Fr.nil n0
  refine GoW.mk ?_
  refine GoW.st (fun t k => castTop (ef9_rm9_92 m a1c) k) ?_
  show GoW p e below s (Q9_92 Z a1c a2c ka2c x1c x2c x3c x4c x5c h0 n0) 0 0 (s₁.setTop (mkF m 0 #[.val (.ref a1c), .val (.int 2)] []))
  refine GoW.sg (mkF m 1 #[.val (.ref a1c), .val (.int 2)] [(.ref a1c)]) (fun t k => XS.aloadN X0.here hx rfl (hb hby d9_0) rfl rfl k) ?_
  obtain ⟨cq1003, kq1003, q1003a, q1003b, q1003c⟩ := isOf hZ e0 P0
  obtain ⟨_, _, ⟨T1003, L1003, k1003, n1003⟩, -, X1003, ⟨Lc1003, hQ1003, l1003, y1003, z1003⟩, st1003⟩ := X0.virtualBack hx (y := (⟨"java/lang/String", "isLatin1", "()Z"⟩ : MethodName)) (z := Y10) hown (mvT hZ (ww hw 44 rfl)) (mvT hZ (ww hw 45 rfl)) (notFace_of_selects (args := #[]) (mvT hZ (ww hw 47 rfl))) (mvT hZ (ww hw 47 rfl)) (mvT hZ (ww hw 46 rfl)) (by decide) (backOf (W := 0) (rm10_39 l Z a0 hw [] a1c x5c h0 n0  P0 P1 P4   u0 ) hZ (ww hw 48 rfl) (ww hw 3 rfl) (by decide) (by decide)) q1003a q1003c (g := (mkF m 1 #[.val (.ref a1c), .val (.int 2)] [(.ref a1c)])) rfl (by rw [hml]; rfl) (Steps.refl _) (argsL := []) (rest := []) (lenOf pd_2829Z rfl) rfl (by show 2 * 0 + _ ≤ _; exact Nat.le_of_eq rfl) (hb hby d9_1) (fun _ _ => ⟨rfl, e0, (by decide : 0 + 0 ≤ _), (by decide : 0 + 0 ≤ _)⟩)
  dsimp only [Pt.U, Pt.locs, Pt.cells, Pt.slots] at X1003 l1003 y1003 z1003 st1003 hQ1003
  subst l1003 y1003 z1003
  obtain ⟨rfl, N1003q, e1003⟩ := hQ1003
  have N1003 := Fr.app N0 N1003q
  refine GoW.sg (mkF m 4 #[.val (.ref a1c), .val (.int 2)] [(.int 1)]) (fun t k => st1003.trans k) ?_
  refine GoW.sg (mkF m 7 #[.val (.ref a1c), .val (.int 2)] []) (fun t k => XS.ifNo X1003.here hx rfl (hb hby d9_4) rfl (by decide) k) ?_
  refine GoW.sg (mkF m 8 #[.val (.ref a1c), .val (.int 2)] [(.ref a1c)]) (fun t k => XS.aloadN X1003.here hx rfl (hb hby d9_7) rfl rfl k) ?_
  obtain ⟨T1004, X1004, e1004, st1004⟩ := getF X1003 hx hZ hown (host := "") (Or.inl (ww hw 28 rfl)) Via.refl e1003 P2 (g := (mkF m 8 #[.val (.ref a1c), .val (.int 2)] [(.ref a1c)])) rfl rfl (hb hby d9_8)
  refine GoW.sg (mkF m 11 #[.val (.ref a1c), .val (.int 2)] [(.ref a2c)]) (fun t k => st1004 t k) ?_
  refine GoW.sg (mkF m 12 #[.val (.ref a1c), .val (.int 2)] [(.int 2), (.ref a2c)]) (fun t k => XS.iloadN X1004.here hx rfl (hb hby d9_11) rfl k) ?_
  obtain ⟨_, T1005, L1005, X1005, hQ1005, st1005⟩ := own_callS X1004 hx hZ hown (y := Y11) (ww hw 49 rfl) (ww hw 50 rfl) (ww hw 51 rfl) (ww hw 52 rfl) (by decide) 0 (rm11_80 l Z a0 hw [] a2c ka2c x1c x2c x3c x4c h0 n0  P3 P5    ) (by decide) (by decide) e1004 (by decide) (by decide) (g := (mkF m 12 #[.val (.ref a1c), .val (.int 2)] [(.int 2), (.ref a2c)])) rfl (by rw [hml]; rfl) (argsL := [(.ref a2c), (.int (2 : Int32))]) (rest := []) (lenOf pd_285bBI29C rfl) rfl (by show 2 * 0 + _ ≤ _; exact Nat.le_of_eq rfl) (hb hby d9_12)
  obtain ⟨rfl, N1005q, e1005⟩ := hQ1005
  have N1005 := Fr.app N1003 N1005q
  refine GoW.sg (mkF m 15 #[.val (.ref a1c), .val (.int 2)] [(.int (nar .char (x3c &&& (255 : Int32)).toUInt32.toUInt16.toUInt32.toInt32))]) (fun t k => st1005 t k) ?_
  refine GoW.retN X1005 hx (t := .char) Bd.returns (by simp) (hb hby d9_15) Bd.notSynchronized ?_ (by decide) (by decide)
  rw [e1005]
  exact ⟨rfl, N1005, rfl⟩
def Q9_93 (Z : State) (a1c : Addr) (a2c : Addr) (ka2c : ClassId) (x1c : Int32) (x2c : Int32) (x3c : Int32) (x4c : Int32) (x5c : Int32) (a3c : Addr) (h0 : Heap) (n0 : Nat) (v : Option Value) (h : Heap) (L : List Loc) : Prop := v = some (.int (nar .char (nar .char (x3c &&& (255 : Int32)).toUInt32.toUInt16.toUInt32.toInt32))) ∧ Fr n0 L ∧ (h = h0)
theorem ef9_rm9_93 (m : MethodId) (a1c : Addr) : entryFrame m #[(.ref a1c), (.int (2 : Int32))] 2 = (mkF m 0 #[.val (.ref a1c), .val (.int 2)] []) := by first | (simp [entryFrame, mkF, argsToLocals, Value.category, maxLocals]; done) | rfl
set_option maxRecDepth 65536 in
set_option maxHeartbeats 40000000 in
theorem rm9_93 (l : Launch) (Z : State) (a0 : Array Value) (hw : ∀ d ∈ tables_1, d.before a0 Z = true) (ws : List Jvm.Cond) (a1c : Addr) (a2c : Addr) (ka2c : ClassId) (x1c : Int32) (x2c : Int32) (x3c : Int32) (x4c : Int32) (x5c : Int32) (a3c : Addr) (h0 : Heap) (n0 : Nat) (P0 : Exa Z h0 a1c "java/lang/String") (P1 : Fld Z h0 a1c "java/lang/String" "coder" "B" (.int (0 : Int32))) (P2 : Fld Z h0 a1c "java/lang/String" "value" "[B" (.ref a2c)) (P3 : Arv Z h0 a2c ka2c .byte (4 : Int32) [(.int x1c), (.int x2c), (.int x3c), (.int x4c)] (.int (0 : Int32))) (P4 : Sta Z h0 "java/lang/String" "COMPACT_STRINGS" "Z" (.int x5c)) (P5 : Sta Z h0 "jdk/internal/util/Preconditions" "SIOOBE_FORMATTER" "Ljava/util/function/BiFunction;" (.ref a3c))   (u0 : ¬ (x5c = (0 : Int32)))   :
    MetFree l Y9 (head1 (Jvm.Cond.code Y9 jdk_42_method_56_code 2 (some .char) :: ws) ({ frames := 4, cells := 0, slots := 0, locals := 53 } : Room)) (fun a U => a = #[(.ref a1c), (.int (2 : Int32))] ∧ Z.Warmed39 U.vm ∧ U.heap = h0) (fun _ _ _ _ _ => True) (fun _ U o U' => ∃ v L, o = .returned v ∧ (Q9_93 Z a1c a2c ka2c x1c x2c x3c x4c x5c a3c h0 n0) v U'.heap L ∧ FrameEnd U o U' L 0 0) := by
  refine MetFree.of_bodySF (plainFor_of_name pn_java_lang_String) hisR ?_
  intro p e s m args below meth c s₁ Bd hml0 hP hK
  obtain ⟨rfl, hZ, hh⟩ := hP
  have hx := Bd.exec
  have hby := Bd.bytes
  have hml : c.maxLocals = 2 := hml0
  have hown : s.vm.findClass "java/lang/String" = some m.cls := findClass_of_methodNamed Bd.named
  have hnm := (name_of_methodNamed Bd.named Bd.method).1
  have X0 : Stand p l e ({ frames := 4, cells := 0, slots := 0, locals := 53 } : Room) s m #[(.ref a1c), (.int (2 : Int32))] below meth c s₁ [] 0 0 := Stand.of_body Bd
  have e0 : s₁.heap = h0 := by rw [← hh, Bd.state]; rfl
  have N0 := Fr.nil n0
  refine GoW.mk ?_
  refine GoW.st (fun t k => castTop (ef9_rm9_93 m a1c) k) ?_
  show GoW p e below s (Q9_93 Z a1c a2c ka2c x1c x2c x3c x4c x5c a3c h0 n0) 0 0 (s₁.setTop (mkF m 0 #[.val (.ref a1c), .val (.int 2)] []))
  refine GoW.sg (mkF m 1 #[.val (.ref a1c), .val (.int 2)] [(.ref a1c)]) (fun t k => XS.aloadN X0.here hx rfl (hb hby d9_0) rfl rfl k) ?_
  obtain ⟨cq1009, kq1009, q1009a, q1009b, q1009c⟩ := isOf hZ e0 P0
  obtain ⟨_, _, ⟨T1009, L1009, k1009, n1009⟩, -, X1009, ⟨Lc1009, hQ1009, l1009, y1009, z1009⟩, st1009⟩ := X0.virtualBack hx (y := (⟨"java/lang/String", "isLatin1", "()Z"⟩ : MethodName)) (z := Y10) hown (mvT hZ (ww hw 44 rfl)) (mvT hZ (ww hw 45 rfl)) (notFace_of_selects (args := #[]) (mvT hZ (ww hw 47 rfl))) (mvT hZ (ww hw 47 rfl)) (mvT hZ (ww hw 46 rfl)) (by decide) (backOf (W := 0) (rm10_39 l Z a0 hw [] a1c x5c h0 n0  P0 P1 P4   u0 ) hZ (ww hw 48 rfl) (ww hw 3 rfl) (by decide) (by decide)) q1009a q1009c (g := (mkF m 1 #[.val (.ref a1c), .val (.int 2)] [(.ref a1c)])) rfl (by rw [hml]; rfl) (Steps.refl _) (argsL := []) (rest := []) (lenOf pd_2829Z rfl) rfl (by show 2 * 0 + _ ≤ _; exact Nat.le_of_eq rfl) (hb hby d9_1) (fun _ _ => ⟨rfl, e0, (by decide : 0 + 0 ≤ _), (by decide : 0 + 0 ≤ _)⟩)
  dsimp only [Pt.U, Pt.locs, Pt.cells, Pt.slots] at X1009 l1009 y1009 z1009 st1009 hQ1009
  subst l1009 y1009 z1009
  obtain ⟨rfl, N1009q, e1009⟩ := hQ1009
  have N1009 := Fr.app N0 N1009q
  refine GoW.sg (mkF m 4 #[.val (.ref a1c), .val (.int 2)] [(.int 1)]) (fun t k => st1009.trans k) ?_
  refine GoW.sg (mkF m 7 #[.val (.ref a1c), .val (.int 2)] []) (fun t k => XS.ifNo X1009.here hx rfl (hb hby d9_4) rfl (by decide) k) ?_
  refine GoW.sg (mkF m 8 #[.val (.ref a1c), .val (.int 2)] [(.ref a1c)]) (fun t k => XS.aloadN X1009.here hx rfl (hb hby d9_7) rfl rfl k) ?_
  obtain ⟨T1010, X1010, e1010, st1010⟩ := getF X1009 hx hZ hown (host := "") (Or.inl (ww hw 28 rfl)) Via.refl e1009 P2 (g := (mkF m 8 #[.val (.ref a1c), .val (.int 2)] [(.ref a1c)])) rfl rfl (hb hby d9_8)
  refine GoW.sg (mkF m 11 #[.val (.ref a1c), .val (.int 2)] [(.ref a2c)]) (fun t k => st1010 t k) ?_
  refine GoW.sg (mkF m 12 #[.val (.ref a1c), .val (.int 2)] [(.int 2), (.ref a2c)]) (fun t k => XS.iloadN X1010.here hx rfl (hb hby d9_11) rfl k) ?_
  obtain ⟨_, T1011, L1011, X1011, hQ1011, st1011⟩ := own_callS X1010 hx hZ hown (y := Y11) (ww hw 49 rfl) (ww hw 50 rfl) (ww hw 51 rfl) (ww hw 52 rfl) (by decide) 0 (rm11_84 l Z a0 hw [] a2c ka2c x1c x2c x3c x4c a3c h0 n0  P3 P5    ) (by decide) (by decide) e1010 (by decide) (by decide) (g := (mkF m 12 #[.val (.ref a1c), .val (.int 2)] [(.int 2), (.ref a2c)])) rfl (by rw [hml]; rfl) (argsL := [(.ref a2c), (.int (2 : Int32))]) (rest := []) (lenOf pd_285bBI29C rfl) rfl (by show 2 * 0 + _ ≤ _; exact Nat.le_of_eq rfl) (hb hby d9_12)
  obtain ⟨rfl, N1011q, e1011⟩ := hQ1011
  have N1011 := Fr.app N1009 N1011q
  refine GoW.sg (mkF m 15 #[.val (.ref a1c), .val (.int 2)] [(.int (nar .char (x3c &&& (255 : Int32)).toUInt32.toUInt16.toUInt32.toInt32))]) (fun t k => st1011 t k) ?_
  refine GoW.retN X1011 hx (t := .char) Bd.returns (by simp) (hb hby d9_15) Bd.notSynchronized ?_ (by decide) (by decide)
  rw [e1011]
  exact ⟨rfl, N1011, rfl⟩
def Q9_94 (Z : State) (a1c : Addr) (a2c : Addr) (ka2c : ClassId) (x1c : Int32) (x2c : Int32) (x3c : Int32) (x4c : Int32) (x5c : Int32) (x6c : Int32) (x7c : Int32) (x8c : Int32) (x9c : Int32) (h0 : Heap) (n0 : Nat) (v : Option Value) (h : Heap) (L : List Loc) : Prop := v = some (.int (nar .char (nar .char (nar .char (((x5c &&& (255 : Int32)) <<< ((0 : Int32) &&& 31)) ||| ((x6c &&& (255 : Int32)) <<< ((8 : Int32) &&& 31))).toUInt32.toUInt16.toUInt32.toInt32)))) ∧ Fr n0 L ∧ (h = h0)
theorem ef9_rm9_94 (m : MethodId) (a1c : Addr) : entryFrame m #[(.ref a1c), (.int (2 : Int32))] 2 = (mkF m 0 #[.val (.ref a1c), .val (.int 2)] []) := by first | (simp [entryFrame, mkF, argsToLocals, Value.category, maxLocals]; done) | rfl
set_option maxRecDepth 65536 in
set_option maxHeartbeats 40000000 in
theorem rm9_94 (l : Launch) (Z : State) (a0 : Array Value) (hw : ∀ d ∈ tables_1, d.before a0 Z = true) (ws : List Jvm.Cond) (a1c : Addr) (a2c : Addr) (ka2c : ClassId) (x1c : Int32) (x2c : Int32) (x3c : Int32) (x4c : Int32) (x5c : Int32) (x6c : Int32) (x7c : Int32) (x8c : Int32) (x9c : Int32) (h0 : Heap) (n0 : Nat) (P0 : Exa Z h0 a1c "java/lang/String") (P1 : Fld Z h0 a1c "java/lang/String" "coder" "B" (.int (1 : Int32))) (P2 : Fld Z h0 a1c "java/lang/String" "value" "[B" (.ref a2c)) (P3 : Arv Z h0 a2c ka2c .byte (8 : Int32) [(.int x1c), (.int x2c), (.int x3c), (.int x4c), (.int x5c), (.int x6c), (.int x7c), (.int x8c)] (.int (0 : Int32))) (P4 : Sta Z h0 "java/lang/String" "COMPACT_STRINGS" "Z" (.int x9c)) (P5 : Sta Z h0 "java/lang/StringUTF16" "$assertionsDisabled" "Z" (.int (1 : Int32))) (P6 : Sta Z h0 "java/lang/StringUTF16" "HI_BYTE_SHIFT" "I" (.int (0 : Int32))) (P7 : Sta Z h0 "java/lang/StringUTF16" "LO_BYTE_SHIFT" "I" (.int (8 : Int32))) (P8 : Sta Z h0 "jdk/internal/util/Preconditions" "SIOOBE_FORMATTER" "Ljava/util/function/BiFunction;" .null)   (u0 : ¬ (x9c = (0 : Int32)))   :
    MetFree l Y9 (head1 (Jvm.Cond.code Y9 jdk_42_method_56_code 2 (some .char) :: ws) ({ frames := 4, cells := 0, slots := 0, locals := 53 } : Room)) (fun a U => a = #[(.ref a1c), (.int (2 : Int32))] ∧ Z.Warmed39 U.vm ∧ U.heap = h0) (fun _ _ _ _ _ => True) (fun _ U o U' => ∃ v L, o = .returned v ∧ (Q9_94 Z a1c a2c ka2c x1c x2c x3c x4c x5c x6c x7c x8c x9c h0 n0) v U'.heap L ∧ FrameEnd U o U' L 0 0) := by
  refine MetFree.of_bodySF (plainFor_of_name pn_java_lang_String) hisR ?_
  intro p e s m args below meth c s₁ Bd hml0 hP hK
  obtain ⟨rfl, hZ, hh⟩ := hP
  have hx := Bd.exec
  have hby := Bd.bytes
  have hml : c.maxLocals = 2 := hml0
  have hown : s.vm.findClass "java/lang/String" = some m.cls := findClass_of_methodNamed Bd.named
  have hnm := (name_of_methodNamed Bd.named Bd.method).1
  have X0 : Stand p l e ({ frames := 4, cells := 0, slots := 0, locals := 53 } : Room) s m #[(.ref a1c), (.int (2 : Int32))] below meth c s₁ [] 0 0 := Stand.of_body Bd
  have e0 : s₁.heap = h0 := by rw [← hh, Bd.state]; rfl
  have N0 := Fr.nil n0
  refine GoW.mk ?_
  refine GoW.st (fun t k => castTop (ef9_rm9_94 m a1c) k) ?_
  show GoW p e below s (Q9_94 Z a1c a2c ka2c x1c x2c x3c x4c x5c x6c x7c x8c x9c h0 n0) 0 0 (s₁.setTop (mkF m 0 #[.val (.ref a1c), .val (.int 2)] []))
  refine GoW.sg (mkF m 1 #[.val (.ref a1c), .val (.int 2)] [(.ref a1c)]) (fun t k => XS.aloadN X0.here hx rfl (hb hby d9_0) rfl rfl k) ?_
  obtain ⟨cq1015, kq1015, q1015a, q1015b, q1015c⟩ := isOf hZ e0 P0
  obtain ⟨_, _, ⟨T1015, L1015, k1015, n1015⟩, -, X1015, ⟨Lc1015, hQ1015, l1015, y1015, z1015⟩, st1015⟩ := X0.virtualBack hx (y := (⟨"java/lang/String", "isLatin1", "()Z"⟩ : MethodName)) (z := Y10) hown (mvT hZ (ww hw 44 rfl)) (mvT hZ (ww hw 45 rfl)) (notFace_of_selects (args := #[]) (mvT hZ (ww hw 47 rfl))) (mvT hZ (ww hw 47 rfl)) (mvT hZ (ww hw 46 rfl)) (by decide) (backOf (W := 0) (rm10_48 l Z a0 hw [] a1c x9c h0 n0  P0 P1 P4   u0 ) hZ (ww hw 48 rfl) (ww hw 3 rfl) (by decide) (by decide)) q1015a q1015c (g := (mkF m 1 #[.val (.ref a1c), .val (.int 2)] [(.ref a1c)])) rfl (by rw [hml]; rfl) (Steps.refl _) (argsL := []) (rest := []) (lenOf pd_2829Z rfl) rfl (by show 2 * 0 + _ ≤ _; exact Nat.le_of_eq rfl) (hb hby d9_1) (fun _ _ => ⟨rfl, e0, (by decide : 0 + 0 ≤ _), (by decide : 0 + 0 ≤ _)⟩)
  dsimp only [Pt.U, Pt.locs, Pt.cells, Pt.slots] at X1015 l1015 y1015 z1015 st1015 hQ1015
  subst l1015 y1015 z1015
  obtain ⟨rfl, N1015q, e1015⟩ := hQ1015
  have N1015 := Fr.app N0 N1015q
  refine GoW.sg (mkF m 4 #[.val (.ref a1c), .val (.int 2)] [(.int 0)]) (fun t k => st1015.trans k) ?_
  refine GoW.sg (mkF m 16 #[.val (.ref a1c), .val (.int 2)] []) (fun t k => XS.ifYes X1015.here hx rfl (pc0 := 4) (pc' := 16) rfl (hb hby d9_4) rfl (by decide) (by decide) (by decide) k) ?_
  refine GoW.sg (mkF m 17 #[.val (.ref a1c), .val (.int 2)] [(.ref a1c)]) (fun t k => XS.aloadN X1015.here hx rfl (hb hby d9_16) rfl rfl k) ?_
  obtain ⟨T1016, X1016, e1016, st1016⟩ := getF X1015 hx hZ hown (host := "") (Or.inl (ww hw 28 rfl)) Via.refl e1015 P2 (g := (mkF m 17 #[.val (.ref a1c), .val (.int 2)] [(.ref a1c)])) rfl rfl (hb hby d9_17)
  refine GoW.sg (mkF m 20 #[.val (.ref a1c), .val (.int 2)] [(.ref a2c)]) (fun t k => st1016 t k) ?_
  refine GoW.sg (mkF m 21 #[.val (.ref a1c), .val (.int 2)] [(.int 2), (.ref a2c)]) (fun t k => XS.iloadN X1016.here hx rfl (hb hby d9_20) rfl k) ?_
  obtain ⟨_, T1017, L1017, X1017, hQ1017, st1017⟩ := own_callS X1016 hx hZ hown (y := Y19) (ww hw 80 rfl) (ww hw 81 rfl) (ww hw 17 rfl) (ww hw 82 rfl) (by decide) 0 (rm19_87 l Z a0 hw [] a2c ka2c x1c x2c x3c x4c x5c x6c x7c x8c h0 n0  P3 P5 P6 P7 P8    ) (by decide) (by decide) e1016 (by decide) (by decide) (g := (mkF m 21 #[.val (.ref a1c), .val (.int 2)] [(.int 2), (.ref a2c)])) rfl (by rw [hml]; rfl) (argsL := [(.ref a2c), (.int (2 : Int32))]) (rest := []) (lenOf pd_285bBI29C rfl) rfl (by show 2 * 0 + _ ≤ _; exact Nat.le_of_eq rfl) (hb hby d9_21)
  obtain ⟨rfl, N1017q, e1017⟩ := hQ1017
  have N1017 := Fr.app N1015 N1017q
  refine GoW.sg (mkF m 24 #[.val (.ref a1c), .val (.int 2)] [(.int (nar .char (nar .char (((x5c &&& (255 : Int32)) <<< ((0 : Int32) &&& 31)) ||| ((x6c &&& (255 : Int32)) <<< ((8 : Int32) &&& 31))).toUInt32.toUInt16.toUInt32.toInt32)))]) (fun t k => st1017 t k) ?_
  refine GoW.retN X1017 hx (t := .char) Bd.returns (by simp) (hb hby d9_24) Bd.notSynchronized ?_ (by decide) (by decide)
  rw [e1017]
  exact ⟨rfl, N1017, rfl⟩
def Q9_95 (Z : State) (a1c : Addr) (a2c : Addr) (ka2c : ClassId) (x1c : Int32) (x2c : Int32) (x3c : Int32) (x4c : Int32) (x5c : Int32) (x6c : Int32) (x7c : Int32) (x8c : Int32) (x9c : Int32) (a3c : Addr) (h0 : Heap) (n0 : Nat) (v : Option Value) (h : Heap) (L : List Loc) : Prop := v = some (.int (nar .char (nar .char (nar .char (((x5c &&& (255 : Int32)) <<< ((0 : Int32) &&& 31)) ||| ((x6c &&& (255 : Int32)) <<< ((8 : Int32) &&& 31))).toUInt32.toUInt16.toUInt32.toInt32)))) ∧ Fr n0 L ∧ (h = h0)
theorem ef9_rm9_95 (m : MethodId) (a1c : Addr) : entryFrame m #[(.ref a1c), (.int (2 : Int32))] 2 = (mkF m 0 #[.val (.ref a1c), .val (.int 2)] []) := by first | (simp [entryFrame, mkF, argsToLocals, Value.category, maxLocals]; done) | rfl
set_option maxRecDepth 65536 in
set_option maxHeartbeats 40000000 in
theorem rm9_95 (l : Launch) (Z : State) (a0 : Array Value) (hw : ∀ d ∈ tables_1, d.before a0 Z = true) (ws : List Jvm.Cond) (a1c : Addr) (a2c : Addr) (ka2c : ClassId) (x1c : Int32) (x2c : Int32) (x3c : Int32) (x4c : Int32) (x5c : Int32) (x6c : Int32) (x7c : Int32) (x8c : Int32) (x9c : Int32) (a3c : Addr) (h0 : Heap) (n0 : Nat) (P0 : Exa Z h0 a1c "java/lang/String") (P1 : Fld Z h0 a1c "java/lang/String" "coder" "B" (.int (1 : Int32))) (P2 : Fld Z h0 a1c "java/lang/String" "value" "[B" (.ref a2c)) (P3 : Arv Z h0 a2c ka2c .byte (8 : Int32) [(.int x1c), (.int x2c), (.int x3c), (.int x4c), (.int x5c), (.int x6c), (.int x7c), (.int x8c)] (.int (0 : Int32))) (P4 : Sta Z h0 "java/lang/String" "COMPACT_STRINGS" "Z" (.int x9c)) (P5 : Sta Z h0 "java/lang/StringUTF16" "$assertionsDisabled" "Z" (.int (1 : Int32))) (P6 : Sta Z h0 "java/lang/StringUTF16" "HI_BYTE_SHIFT" "I" (.int (0 : Int32))) (P7 : Sta Z h0 "java/lang/StringUTF16" "LO_BYTE_SHIFT" "I" (.int (8 : Int32))) (P8 : Sta Z h0 "jdk/internal/util/Preconditions" "SIOOBE_FORMATTER" "Ljava/util/function/BiFunction;" (.ref a3c))   (u0 : ¬ (x9c = (0 : Int32)))   :
    MetFree l Y9 (head1 (Jvm.Cond.code Y9 jdk_42_method_56_code 2 (some .char) :: ws) ({ frames := 4, cells := 0, slots := 0, locals := 53 } : Room)) (fun a U => a = #[(.ref a1c), (.int (2 : Int32))] ∧ Z.Warmed39 U.vm ∧ U.heap = h0) (fun _ _ _ _ _ => True) (fun _ U o U' => ∃ v L, o = .returned v ∧ (Q9_95 Z a1c a2c ka2c x1c x2c x3c x4c x5c x6c x7c x8c x9c a3c h0 n0) v U'.heap L ∧ FrameEnd U o U' L 0 0) := by
  refine MetFree.of_bodySF (plainFor_of_name pn_java_lang_String) hisR ?_
  intro p e s m args below meth c s₁ Bd hml0 hP hK
  obtain ⟨rfl, hZ, hh⟩ := hP
  have hx := Bd.exec
  have hby := Bd.bytes
  have hml : c.maxLocals = 2 := hml0
  have hown : s.vm.findClass "java/lang/String" = some m.cls := findClass_of_methodNamed Bd.named
  have hnm := (name_of_methodNamed Bd.named Bd.method).1
  have X0 : Stand p l e ({ frames := 4, cells := 0, slots := 0, locals := 53 } : Room) s m #[(.ref a1c), (.int (2 : Int32))] below meth c s₁ [] 0 0 := Stand.of_body Bd
  have e0 : s₁.heap = h0 := by rw [← hh, Bd.state]; rfl
  have N0 := Fr.nil n0
  refine GoW.mk ?_
  refine GoW.st (fun t k => castTop (ef9_rm9_95 m a1c) k) ?_
  show GoW p e below s (Q9_95 Z a1c a2c ka2c x1c x2c x3c x4c x5c x6c x7c x8c x9c a3c h0 n0) 0 0 (s₁.setTop (mkF m 0 #[.val (.ref a1c), .val (.int 2)] []))
  refine GoW.sg (mkF m 1 #[.val (.ref a1c), .val (.int 2)] [(.ref a1c)]) (fun t k => XS.aloadN X0.here hx rfl (hb hby d9_0) rfl rfl k) ?_
  obtain ⟨cq1021, kq1021, q1021a, q1021b, q1021c⟩ := isOf hZ e0 P0
  obtain ⟨_, _, ⟨T1021, L1021, k1021, n1021⟩, -, X1021, ⟨Lc1021, hQ1021, l1021, y1021, z1021⟩, st1021⟩ := X0.virtualBack hx (y := (⟨"java/lang/String", "isLatin1", "()Z"⟩ : MethodName)) (z := Y10) hown (mvT hZ (ww hw 44 rfl)) (mvT hZ (ww hw 45 rfl)) (notFace_of_selects (args := #[]) (mvT hZ (ww hw 47 rfl))) (mvT hZ (ww hw 47 rfl)) (mvT hZ (ww hw 46 rfl)) (by decide) (backOf (W := 0) (rm10_48 l Z a0 hw [] a1c x9c h0 n0  P0 P1 P4   u0 ) hZ (ww hw 48 rfl) (ww hw 3 rfl) (by decide) (by decide)) q1021a q1021c (g := (mkF m 1 #[.val (.ref a1c), .val (.int 2)] [(.ref a1c)])) rfl (by rw [hml]; rfl) (Steps.refl _) (argsL := []) (rest := []) (lenOf pd_2829Z rfl) rfl (by show 2 * 0 + _ ≤ _; exact Nat.le_of_eq rfl) (hb hby d9_1) (fun _ _ => ⟨rfl, e0, (by decide : 0 + 0 ≤ _), (by decide : 0 + 0 ≤ _)⟩)
  dsimp only [Pt.U, Pt.locs, Pt.cells, Pt.slots] at X1021 l1021 y1021 z1021 st1021 hQ1021
  subst l1021 y1021 z1021
  obtain ⟨rfl, N1021q, e1021⟩ := hQ1021
  have N1021 := Fr.app N0 N1021q
  refine GoW.sg (mkF m 4 #[.val (.ref a1c), .val (.int 2)] [(.int 0)]) (fun t k => st1021.trans k) ?_
  refine GoW.sg (mkF m 16 #[.val (.ref a1c), .val (.int 2)] []) (fun t k => XS.ifYes X1021.here hx rfl (pc0 := 4) (pc' := 16) rfl (hb hby d9_4) rfl (by decide) (by decide) (by decide) k) ?_
  refine GoW.sg (mkF m 17 #[.val (.ref a1c), .val (.int 2)] [(.ref a1c)]) (fun t k => XS.aloadN X1021.here hx rfl (hb hby d9_16) rfl rfl k) ?_
  obtain ⟨T1022, X1022, e1022, st1022⟩ := getF X1021 hx hZ hown (host := "") (Or.inl (ww hw 28 rfl)) Via.refl e1021 P2 (g := (mkF m 17 #[.val (.ref a1c), .val (.int 2)] [(.ref a1c)])) rfl rfl (hb hby d9_17)
  refine GoW.sg (mkF m 20 #[.val (.ref a1c), .val (.int 2)] [(.ref a2c)]) (fun t k => st1022 t k) ?_
  refine GoW.sg (mkF m 21 #[.val (.ref a1c), .val (.int 2)] [(.int 2), (.ref a2c)]) (fun t k => XS.iloadN X1022.here hx rfl (hb hby d9_20) rfl k) ?_
  obtain ⟨_, T1023, L1023, X1023, hQ1023, st1023⟩ := own_callS X1022 hx hZ hown (y := Y19) (ww hw 80 rfl) (ww hw 81 rfl) (ww hw 17 rfl) (ww hw 82 rfl) (by decide) 0 (rm19_90 l Z a0 hw [] a2c ka2c x1c x2c x3c x4c x5c x6c x7c x8c a3c h0 n0  P3 P5 P6 P7 P8    ) (by decide) (by decide) e1022 (by decide) (by decide) (g := (mkF m 21 #[.val (.ref a1c), .val (.int 2)] [(.int 2), (.ref a2c)])) rfl (by rw [hml]; rfl) (argsL := [(.ref a2c), (.int (2 : Int32))]) (rest := []) (lenOf pd_285bBI29C rfl) rfl (by show 2 * 0 + _ ≤ _; exact Nat.le_of_eq rfl) (hb hby d9_21)
  obtain ⟨rfl, N1023q, e1023⟩ := hQ1023
  have N1023 := Fr.app N1021 N1023q
  refine GoW.sg (mkF m 24 #[.val (.ref a1c), .val (.int 2)] [(.int (nar .char (nar .char (((x5c &&& (255 : Int32)) <<< ((0 : Int32) &&& 31)) ||| ((x6c &&& (255 : Int32)) <<< ((8 : Int32) &&& 31))).toUInt32.toUInt16.toUInt32.toInt32)))]) (fun t k => st1023 t k) ?_
  refine GoW.retN X1023 hx (t := .char) Bd.returns (by simp) (hb hby d9_24) Bd.notSynchronized ?_ (by decide) (by decide)
  rw [e1023]
  exact ⟨rfl, N1023, rfl⟩
set_option maxRecDepth 65536 in
set_option maxHeartbeats 40000000 in
theorem rmCh2 (l : Launch) (Z : State) (a0 : Array Value) (hw : ∀ d ∈ tables_1, d.before a0 Z = true) (a1 : Addr) (c0 : Int32) (c1 : Int32) (c2 : Int32) (c3 : Int32) (cs : Int32) (vf : Value) (h0 : Heap) (n0 : Nat) (PE : Exa Z h0 a1 "java/lang/String") (hS : Str4 Z h0 a1 c0 c1 c2 c3) (PC : Sta Z h0 "java/lang/String" "COMPACT_STRINGS" "Z" (.int cs)) (PA : Sta Z h0 "java/lang/StringUTF16" "$assertionsDisabled" "Z" (.int (1 : Int32))) (PH : Sta Z h0 "java/lang/StringUTF16" "HI_BYTE_SHIFT" "I" (.int (0 : Int32))) (PL : Sta Z h0 "java/lang/StringUTF16" "LO_BYTE_SHIFT" "I" (.int (8 : Int32))) (PF : Sta Z h0 "jdk/internal/util/Preconditions" "SIOOBE_FORMATTER" "Ljava/util/function/BiFunction;" vf) (hvf : vf.isRef = true) (lo_c0 : ¬ (c0 < (0 : Int32))) (hi_c0 : ¬ ((65535 : Int32) < c0)) (lo_c1 : ¬ (c1 < (0 : Int32))) (hi_c1 : ¬ ((65535 : Int32) < c1)) (lo_c2 : ¬ (c2 < (0 : Int32))) (hi_c2 : ¬ ((65535 : Int32) < c2)) (lo_c3 : ¬ (c3 < (0 : Int32))) (hi_c3 : ¬ ((65535 : Int32) < c3)) (ncs : ¬ (cs = (0 : Int32))) :
    MetFree l Y9 (head1 [Jvm.Cond.code Y9 jdk_42_method_56_code 2 (some .char)] ({ frames := 4, cells := 0, slots := 0, locals := 53 } : Room)) (fun a U => a = #[(.ref a1), (.int (2 : Int32))] ∧ Z.Warmed39 U.vm ∧ U.heap = h0) (fun _ _ _ _ _ => True) (fun _ U o U' => ∃ v L, o = .returned v ∧ PureQ (.int c2) h0 n0 v U'.heap L ∧ FrameEnd U o U' L 0 0) := by
  rcases hS with ⟨b, kb, PV, PK, PB, b0, b1, b2, b3⟩ | ⟨b, kb, PV, PK, PB⟩
  · rcases ref_cases hvf with rfl | ⟨af, rfl⟩
    · exact (rm9_92 l Z a0 hw [] a1 b kb (lat8 c0) (lat8 c1) (lat8 c2) (lat8 c3) cs h0 n0  PE PK PV PB PC PF   ncs).mono (fun _ _ h => h) (fun _ _ _ _ _ h => h) (fun _ _ _ _ _ h => by obtain ⟨v, L, q1, ⟨q2, q3⟩, q4⟩ := h; refine ⟨v, L, q1, ⟨q2.trans ?_, q3⟩, q4⟩; simp only [own_lat c2 lo_c2 b2, own_nc c2 lo_c2 hi_c2])
    · exact (rm9_93 l Z a0 hw [] a1 b kb (lat8 c0) (lat8 c1) (lat8 c2) (lat8 c3) cs af h0 n0  PE PK PV PB PC PF   ncs).mono (fun _ _ h => h) (fun _ _ _ _ _ h => h) (fun _ _ _ _ _ h => by obtain ⟨v, L, q1, ⟨q2, q3⟩, q4⟩ := h; refine ⟨v, L, q1, ⟨q2.trans ?_, q3⟩, q4⟩; simp only [own_lat c2 lo_c2 b2, own_nc c2 lo_c2 hi_c2])
  · rcases ref_cases hvf with rfl | ⟨af, rfl⟩
    · exact (rm9_94 l Z a0 hw [] a1 b kb (lo8 c0) (hi8 c0) (lo8 c1) (hi8 c1) (lo8 c2) (hi8 c2) (lo8 c3) (hi8 c3) cs h0 n0  PE PK PV PB PC PA PH PL PF   ncs).mono (fun _ _ h => h) (fun _ _ _ _ _ h => h) (fun _ _ _ _ _ h => by obtain ⟨v, L, q1, ⟨q2, q3⟩, q4⟩ := h; refine ⟨v, L, q1, ⟨q2.trans ?_, q3⟩, q4⟩; simp only [own_join c2 lo_c2 hi_c2, own_nc c2 lo_c2 hi_c2])
    · exact (rm9_95 l Z a0 hw [] a1 b kb (lo8 c0) (hi8 c0) (lo8 c1) (hi8 c1) (lo8 c2) (hi8 c2) (lo8 c3) (hi8 c3) cs af h0 n0  PE PK PV PB PC PA PH PL PF   ncs).mono (fun _ _ h => h) (fun _ _ _ _ _ h => h) (fun _ _ _ _ _ h => by obtain ⟨v, L, q1, ⟨q2, q3⟩, q4⟩ := h; refine ⟨v, L, q1, ⟨q2.trans ?_, q3⟩, q4⟩; simp only [own_join c2 lo_c2 hi_c2, own_nc c2 lo_c2 hi_c2])
def Q13_96 (Z : State)  (h0 : Heap) (n0 : Nat) (v : Option Value) (h : Heap) (L : List Loc) : Prop := v = some (.int (3 : Int32)) ∧ Fr n0 L ∧ (h = h0)
theorem ef13_rm13_96 (m : MethodId)  : entryFrame m #[(.int (3 : Int32)), (.int (4 : Int32)), .null] 3 = (mkF m 0 #[.val (.int 3), .val (.int 4), .val .null] []) := by first | (simp [entryFrame, mkF, argsToLocals, Value.category, maxLocals]; done) | rfl
set_option maxRecDepth 65536 in
set_option maxHeartbeats 40000000 in
theorem rm13_96 (l : Launch) (Z : State) (a0 : Array Value) (hw : ∀ d ∈ tables_1, d.before a0 Z = true) (ws : List Jvm.Cond)   (h0 : Heap) (n0 : Nat)       :
    MetFree l Y13 (head1 (Jvm.Cond.code Y13 jdk_41_method_11_code 3 (some .int) :: ws) ({ frames := 0, cells := 0, slots := 0, locals := 0 } : Room)) (fun a U => a = #[(.int (3 : Int32)), (.int (4 : Int32)), .null] ∧ Z.Warmed39 U.vm ∧ U.heap = h0) (fun _ _ _ _ _ => True) (fun _ U o U' => ∃ v L, o = .returned v ∧ (Q13_96 Z  h0 n0) v U'.heap L ∧ FrameEnd U o U' L 0 0) := by
  refine MetFree.of_bodySF (plainFor_of_name pn_jdk_internal_util_Preconditions) hisR ?_
  intro p e s m args below meth c s₁ Bd hml0 hP hK
  obtain ⟨rfl, hZ, hh⟩ := hP
  have hx := Bd.exec
  have hby := Bd.bytes
  have hml : c.maxLocals = 3 := hml0
  have hown : s.vm.findClass "jdk/internal/util/Preconditions" = some m.cls := findClass_of_methodNamed Bd.named
  have hnm := (name_of_methodNamed Bd.named Bd.method).1
  have X0 : Stand p l e ({ frames := 0, cells := 0, slots := 0, locals := 0 } : Room) s m #[(.int (3 : Int32)), (.int (4 : Int32)), .null] below meth c s₁ [] 0 0 := Stand.of_body Bd
  have e0 : s₁.heap = h0 := by rw [← hh, Bd.state]; rfl
  have N0 := Fr.nil n0
  refine GoW.mk ?_
  refine GoW.st (fun t k => castTop (ef13_rm13_96 m ) k) ?_
  show GoW p e below s (Q13_96 Z  h0 n0) 0 0 (s₁.setTop (mkF m 0 (Sh13 3 4) []))
  refine GoW.sg (mkF m 1 (Sh13 3 4) [(.int 3)]) (fun t k => XS.iloadN X0.here hx rfl (hb hby d13_0) rfl k) ?_
  refine GoW.sg (mkF m 4 (Sh13 3 4) []) (fun t k => XS.ifNo X0.here hx rfl (hb hby d13_1) rfl (by decide) k) ?_
  refine GoW.sg (mkF m 5 (Sh13 3 4) [(.int 3)]) (fun t k => XS.iloadN X0.here hx rfl (hb hby d13_4) rfl k) ?_
  refine GoW.sg (mkF m 6 (Sh13 3 4) [(.int 4), (.int 3)]) (fun t k => XS.iloadN X0.here hx rfl (hb hby d13_5) rfl k) ?_
  refine GoW.sg (mkF m 16 (Sh13 3 4) []) (fun t k => XS.icmpYes X0.here hx rfl (pc0 := 6) (pc' := 16) rfl (hb hby d13_6) rfl (by decide) (by decide) (by decide) k) ?_
  refine GoW.sg (mkF m 17 (Sh13 3 4) [(.int 3)]) (fun t k => XS.iloadN X0.here hx rfl (hb hby d13_16) rfl k) ?_
  refine GoW.retI X0 hx Bd.returns (hb hby d13_17) Bd.notSynchronized ?_ (by decide) (by decide)
  rw [e0]
  exact ⟨rfl, N0, rfl⟩
def Q12_97 (Z : State)  (h0 : Heap) (n0 : Nat) (v : Option Value) (h : Heap) (L : List Loc) : Prop := v = none ∧ Fr n0 L ∧ (h = h0)
theorem ef12_rm12_97 (m : MethodId)  : entryFrame m #[(.int (3 : Int32)), (.int (4 : Int32))] 2 = (mkF m 0 #[.val (.int 3), .val (.int 4)] []) := by first | (simp [entryFrame, mkF, argsToLocals, Value.category, maxLocals]; done) | rfl
set_option maxRecDepth 65536 in
set_option maxHeartbeats 40000000 in
theorem rm12_97 (l : Launch) (Z : State) (a0 : Array Value) (hw : ∀ d ∈ tables_1, d.before a0 Z = true) (ws : List Jvm.Cond)   (h0 : Heap) (n0 : Nat) (P0 : Sta Z h0 "jdk/internal/util/Preconditions" "SIOOBE_FORMATTER" "Ljava/util/function/BiFunction;" .null)      :
    MetFree l Y12 (head1 (Jvm.Cond.code Y12 jdk_42_method_155_code 2 none :: ws) ({ frames := 1, cells := 0, slots := 0, locals := 14 } : Room)) (fun a U => a = #[(.int (3 : Int32)), (.int (4 : Int32))] ∧ Z.Warmed39 U.vm ∧ U.heap = h0) (fun _ _ _ _ _ => True) (fun _ U o U' => ∃ v L, o = .returned v ∧ (Q12_97 Z  h0 n0) v U'.heap L ∧ FrameEnd U o U' L 0 0) := by
  refine MetFree.of_bodySF (plainFor_of_name pn_java_lang_String) hisR ?_
  intro p e s m args below meth c s₁ Bd hml0 hP hK
  obtain ⟨rfl, hZ, hh⟩ := hP
  have hx := Bd.exec
  have hby := Bd.bytes
  have hml : c.maxLocals = 2 := hml0
  have hown : s.vm.findClass "java/lang/String" = some m.cls := findClass_of_methodNamed Bd.named
  have hnm := (name_of_methodNamed Bd.named Bd.method).1
  have X0 : Stand p l e ({ frames := 1, cells := 0, slots := 0, locals := 14 } : Room) s m #[(.int (3 : Int32)), (.int (4 : Int32))] below meth c s₁ [] 0 0 := Stand.of_body Bd
  have e0 : s₁.heap = h0 := by rw [← hh, Bd.state]; rfl
  have N0 := Fr.nil n0
  refine GoW.mk ?_
  refine GoW.st (fun t k => castTop (ef12_rm12_97 m ) k) ?_
  show GoW p e below s (Q12_97 Z  h0 n0) 0 0 (s₁.setTop (mkF m 0 #[.val (.int 3), .val (.int 4)] []))
  refine GoW.sg (mkF m 1 #[.val (.int 3), .val (.int 4)] [(.int 3)]) (fun t k => XS.iloadN X0.here hx rfl (hb hby d12_0) rfl k) ?_
  refine GoW.sg (mkF m 2 #[.val (.int 3), .val (.int 4)] [(.int 4), (.int 3)]) (fun t k => XS.iloadN X0.here hx rfl (hb hby d12_1) rfl k) ?_
  obtain ⟨T1029, X1029, e1029, st1029⟩ := getS (host := "") X0 hx hZ hown (ww hw 56 rfl) Via.refl e0 P0 (g := (mkF m 2 #[.val (.int 3), .val (.int 4)] [(.int 4), (.int 3)])) rfl (hb hby d12_2)
  refine GoW.sg (mkF m 5 #[.val (.int 3), .val (.int 4)] [.null, (.int 4), (.int 3)]) (fun t k => st1029 t k) ?_
  obtain ⟨_, T1030, L1030, X1030, hQ1030, st1030⟩ := own_callS X1029 hx hZ hown (y := Y13) (ww hw 58 rfl) (ww hw 59 rfl) (ww hw 57 rfl) (ww hw 60 rfl) (by decide) 0 (rm13_96 l Z a0 hw []   h0 n0      ) (by decide) (by decide) e1029 (by decide) (by decide) (g := (mkF m 5 #[.val (.int 3), .val (.int 4)] [.null, (.int 4), (.int 3)])) rfl (by rw [hml]; rfl) (argsL := [(.int (3 : Int32)), (.int (4 : Int32)), .null]) (rest := []) (lenOf pd_28IILjava2futil2ffunction2fBiFunction3b29I rfl) rfl (by show 2 * 0 + _ ≤ _; exact Nat.le_of_eq rfl) (hb hby d12_5)
  obtain ⟨rfl, N1030q, e1030⟩ := hQ1030
  have N1030 := Fr.app N0 N1030q
  refine GoW.sg (mkF m 8 #[.val (.int 3), .val (.int 4)] [(.int 3)]) (fun t k => st1030 t k) ?_
  refine GoW.sg (mkF m 9 #[.val (.int 3), .val (.int 4)] []) (fun t k => XS.pop X1030.here hx rfl (hb hby d12_8) rfl rfl k) ?_
  refine GoW.retV X1030 hx Bd.returns (hb hby d12_9) Bd.notSynchronized ?_ (by decide) (by decide)
  rw [e1030]
  exact ⟨rfl, N1030, rfl⟩
def Q11_98 (Z : State) (a1c : Addr) (ka1c : ClassId) (x1c : Int32) (x2c : Int32) (x3c : Int32) (x4c : Int32) (h0 : Heap) (n0 : Nat) (v : Option Value) (h : Heap) (L : List Loc) : Prop := v = some (.int (nar .char (x4c &&& (255 : Int32)).toUInt32.toUInt16.toUInt32.toInt32)) ∧ Fr n0 L ∧ (h = h0)
theorem ef11_rm11_98 (m : MethodId) (a1c : Addr) : entryFrame m #[(.ref a1c), (.int (3 : Int32))] 2 = (mkF m 0 #[.val (.ref a1c), .val (.int 3)] []) := by first | (simp [entryFrame, mkF, argsToLocals, Value.category, maxLocals]; done) | rfl
set_option maxRecDepth 65536 in
set_option maxHeartbeats 40000000 in
theorem rm11_98 (l : Launch) (Z : State) (a0 : Array Value) (hw : ∀ d ∈ tables_1, d.before a0 Z = true) (ws : List Jvm.Cond) (a1c : Addr) (ka1c : ClassId) (x1c : Int32) (x2c : Int32) (x3c : Int32) (x4c : Int32) (h0 : Heap) (n0 : Nat) (P0 : Arv Z h0 a1c ka1c .byte (4 : Int32) [(.int x1c), (.int x2c), (.int x3c), (.int x4c)] (.int (0 : Int32))) (P1 : Sta Z h0 "jdk/internal/util/Preconditions" "SIOOBE_FORMATTER" "Ljava/util/function/BiFunction;" .null)      :
    MetFree l Y11 (head1 (Jvm.Cond.code Y11 jdk_43_method_2_code 2 (some .char) :: ws) ({ frames := 2, cells := 0, slots := 0, locals := 27 } : Room)) (fun a U => a = #[(.ref a1c), (.int (3 : Int32))] ∧ Z.Warmed39 U.vm ∧ U.heap = h0) (fun _ _ _ _ _ => True) (fun _ U o U' => ∃ v L, o = .returned v ∧ (Q11_98 Z a1c ka1c x1c x2c x3c x4c h0 n0) v U'.heap L ∧ FrameEnd U o U' L 0 0) := by
  refine MetFree.of_bodySF (plainFor_of_name pn_java_lang_StringLatin1) hisR ?_
  intro p e s m args below meth c s₁ Bd hml0 hP hK
  obtain ⟨rfl, hZ, hh⟩ := hP
  have hx := Bd.exec
  have hby := Bd.bytes
  have hml : c.maxLocals = 2 := hml0
  have hown : s.vm.findClass "java/lang/StringLatin1" = some m.cls := findClass_of_methodNamed Bd.named
  have hnm := (name_of_methodNamed Bd.named Bd.method).1
  have X0 : Stand p l e ({ frames := 2, cells := 0, slots := 0, locals := 27 } : Room) s m #[(.ref a1c), (.int (3 : Int32))] below meth c s₁ [] 0 0 := Stand.of_body Bd
  have e0 : s₁.heap = h0 := by rw [← hh, Bd.state]; rfl
  have N0 := Fr.nil n0
  refine GoW.mk ?_
  refine GoW.st (fun t k => castTop (ef11_rm11_98 m a1c) k) ?_
  show GoW p e below s (Q11_98 Z a1c ka1c x1c x2c x3c x4c h0 n0) 0 0 (s₁.setTop (mkF m 0 #[.val (.ref a1c), .val (.int 3)] []))
  refine GoW.sg (mkF m 1 #[.val (.ref a1c), .val (.int 3)] [(.int 3)]) (fun t k => XS.iloadN X0.here hx rfl (hb hby d11_0) rfl k) ?_
  refine GoW.sg (mkF m 2 #[.val (.ref a1c), .val (.int 3)] [(.ref a1c), (.int 3)]) (fun t k => XS.aloadN X0.here hx rfl (hb hby d11_1) rfl rfl k) ?_
  obtain ⟨cl1033, Ar1033, q1033, Sz1033, Nn1033, Hh1033, Gg1033⟩ := id P0
  have st1033 := X0.arraylength hx (hq_ e0 Ar1033.1) (State.isArrayOf_alike hZ.alike Ar1033.2.1) (g := (mkF m 2 #[.val (.ref a1c), .val (.int 3)] [(.ref a1c), (.int 3)])) rfl rfl (hb hby d11_2)
  rw [len_of Sz1033 Nn1033] at st1033
  refine GoW.sg (mkF m 3 #[.val (.ref a1c), .val (.int 3)] [(.int 4), (.int 3)]) (fun t k => st1033 t k) ?_
  obtain ⟨_, T1036, L1036, X1036, hQ1036, st1036⟩ := own_callS X0 hx hZ hown (y := Y12) (ww hw 53 rfl) (ww hw 54 rfl) (ww hw 3 rfl) (ww hw 55 rfl) (by decide) 0 (rm12_97 l Z a0 hw []   h0 n0  P1    ) (by decide) (by decide) e0 (by decide) (by decide) (g := (mkF m 3 #[.val (.ref a1c), .val (.int 3)] [(.int 4), (.int 3)])) rfl (by rw [hml]; rfl) (argsL := [(.int (3 : Int32)), (.int (4 : Int32))]) (rest := []) (lenOf pd_28II29V rfl) rfl (by show 2 * 0 + _ ≤ _; exact Nat.le_of_eq rfl) (hb hby d11_3)
  obtain ⟨rfl, N1036q, e1036⟩ := hQ1036
  have N1036 := Fr.app N0 N1036q
  refine GoW.sg (mkF m 6 #[.val (.ref a1c), .val (.int 3)] []) (fun t k => st1036 t k) ?_
  refine GoW.sg (mkF m 7 #[.val (.ref a1c), .val (.int 3)] [(.ref a1c)]) (fun t k => XS.aloadN X1036.here hx rfl (hb hby d11_6) rfl rfl k) ?_
  refine GoW.sg (mkF m 8 #[.val (.ref a1c), .val (.int 3)] [(.int 3), (.ref a1c)]) (fun t k => XS.iloadN X1036.here hx rfl (hb hby d11_7) rfl k) ?_
  obtain ⟨cl1037, Ar1037, q1037, Sz1037, Nn1037, Hh1037, Gg1037⟩ := id P0
  have hin1037 : ¬ ((3 : Int32) < 0 ∨ cl1037.slots.size ≤ ((3 : Int32)).toNatClampNeg) := inb_of Sz1037 ⟨by decide, by decide⟩
  refine GoW.sg (mkF m 9 #[.val (.ref a1c), .val (.int 3)] [(.int x4c)]) (fun t k => X1036.baloadBytes hx (j := (3 : Int32)) (v := (.int x4c)) (hq_ e1036 Ar1037.1) (State.isArrayOf_alike hZ.alike Ar1037.2.1) Ar1037.2.2 hin1037 (Hh1037.at hin1037 rfl) (g := (mkF m 8 #[.val (.ref a1c), .val (.int 3)] [(.int 3), (.ref a1c)])) rfl rfl (hb hby d11_8) t k) ?_
  refine GoW.sg (mkF m 12 #[.val (.ref a1c), .val (.int 3)] [(.int 255), (.int x4c)]) (fun t k => XS.sipush X1036.here hx rfl (hb hby d11_9) k) ?_
  refine GoW.sg (mkF m 13 #[.val (.ref a1c), .val (.int 3)] [(.int (x4c &&& (255 : Int32)))]) (fun t k => XS.iand X1036.here hx rfl (hb hby d11_12) rfl k) ?_
  refine GoW.sg (mkF m 14 #[.val (.ref a1c), .val (.int 3)] [(.int (x4c &&& (255 : Int32)).toUInt32.toUInt16.toUInt32.toInt32)]) (fun t k => XS.i2c X1036.here hx rfl (hb hby d11_13) rfl k) ?_
  refine GoW.retN X1036 hx (t := .char) Bd.returns (by simp) (hb hby d11_14) Bd.notSynchronized ?_ (by decide) (by decide)
  rw [e1036]
  exact ⟨rfl, N1036, rfl⟩
def Q13_100 (Z : State) (a1c : Addr) (h0 : Heap) (n0 : Nat) (v : Option Value) (h : Heap) (L : List Loc) : Prop := v = some (.int (3 : Int32)) ∧ Fr n0 L ∧ (h = h0)
theorem ef13_rm13_100 (m : MethodId) (a1c : Addr) : entryFrame m #[(.int (3 : Int32)), (.int (4 : Int32)), (.ref a1c)] 3 = (mkF m 0 #[.val (.int 3), .val (.int 4), .val (.ref a1c)] []) := by first | (simp [entryFrame, mkF, argsToLocals, Value.category, maxLocals]; done) | rfl
set_option maxRecDepth 65536 in
set_option maxHeartbeats 40000000 in
theorem rm13_100 (l : Launch) (Z : State) (a0 : Array Value) (hw : ∀ d ∈ tables_1, d.before a0 Z = true) (ws : List Jvm.Cond) (a1c : Addr)  (h0 : Heap) (n0 : Nat)       :
    MetFree l Y13 (head1 (Jvm.Cond.code Y13 jdk_41_method_11_code 3 (some .int) :: ws) ({ frames := 0, cells := 0, slots := 0, locals := 0 } : Room)) (fun a U => a = #[(.int (3 : Int32)), (.int (4 : Int32)), (.ref a1c)] ∧ Z.Warmed39 U.vm ∧ U.heap = h0) (fun _ _ _ _ _ => True) (fun _ U o U' => ∃ v L, o = .returned v ∧ (Q13_100 Z a1c h0 n0) v U'.heap L ∧ FrameEnd U o U' L 0 0) := by
  refine MetFree.of_bodySF (plainFor_of_name pn_jdk_internal_util_Preconditions) hisR ?_
  intro p e s m args below meth c s₁ Bd hml0 hP hK
  obtain ⟨rfl, hZ, hh⟩ := hP
  have hx := Bd.exec
  have hby := Bd.bytes
  have hml : c.maxLocals = 3 := hml0
  have hown : s.vm.findClass "jdk/internal/util/Preconditions" = some m.cls := findClass_of_methodNamed Bd.named
  have hnm := (name_of_methodNamed Bd.named Bd.method).1
  have X0 : Stand p l e ({ frames := 0, cells := 0, slots := 0, locals := 0 } : Room) s m #[(.int (3 : Int32)), (.int (4 : Int32)), (.ref a1c)] below meth c s₁ [] 0 0 := Stand.of_body Bd
  have e0 : s₁.heap = h0 := by rw [← hh, Bd.state]; rfl
  have N0 := Fr.nil n0
  refine GoW.mk ?_
  refine GoW.st (fun t k => castTop (ef13_rm13_100 m a1c) k) ?_
  show GoW p e below s (Q13_100 Z a1c h0 n0) 0 0 (s₁.setTop (mkF m 0 (Sh14 3 4 a1c) []))
  refine GoW.sg (mkF m 1 (Sh14 3 4 a1c) [(.int 3)]) (fun t k => XS.iloadN X0.here hx rfl (hb hby d13_0) rfl k) ?_
  refine GoW.sg (mkF m 4 (Sh14 3 4 a1c) []) (fun t k => XS.ifNo X0.here hx rfl (hb hby d13_1) rfl (by decide) k) ?_
  refine GoW.sg (mkF m 5 (Sh14 3 4 a1c) [(.int 3)]) (fun t k => XS.iloadN X0.here hx rfl (hb hby d13_4) rfl k) ?_
  refine GoW.sg (mkF m 6 (Sh14 3 4 a1c) [(.int 4), (.int 3)]) (fun t k => XS.iloadN X0.here hx rfl (hb hby d13_5) rfl k) ?_
  refine GoW.sg (mkF m 16 (Sh14 3 4 a1c) []) (fun t k => XS.icmpYes X0.here hx rfl (pc0 := 6) (pc' := 16) rfl (hb hby d13_6) rfl (by decide) (by decide) (by decide) k) ?_
  refine GoW.sg (mkF m 17 (Sh14 3 4 a1c) [(.int 3)]) (fun t k => XS.iloadN X0.here hx rfl (hb hby d13_16) rfl k) ?_
  refine GoW.retI X0 hx Bd.returns (hb hby d13_17) Bd.notSynchronized ?_ (by decide) (by decide)
  rw [e0]
  exact ⟨rfl, N0, rfl⟩
def Q12_101 (Z : State) (a1c : Addr) (h0 : Heap) (n0 : Nat) (v : Option Value) (h : Heap) (L : List Loc) : Prop := v = none ∧ Fr n0 L ∧ (h = h0)
theorem ef12_rm12_101 (m : MethodId)  : entryFrame m #[(.int (3 : Int32)), (.int (4 : Int32))] 2 = (mkF m 0 #[.val (.int 3), .val (.int 4)] []) := by first | (simp [entryFrame, mkF, argsToLocals, Value.category, maxLocals]; done) | rfl
set_option maxRecDepth 65536 in
set_option maxHeartbeats 40000000 in
theorem rm12_101 (l : Launch) (Z : State) (a0 : Array Value) (hw : ∀ d ∈ tables_1, d.before a0 Z = true) (ws : List Jvm.Cond)  (a1c : Addr) (h0 : Heap) (n0 : Nat) (P0 : Sta Z h0 "jdk/internal/util/Preconditions" "SIOOBE_FORMATTER" "Ljava/util/function/BiFunction;" (.ref a1c))      :
    MetFree l Y12 (head1 (Jvm.Cond.code Y12 jdk_42_method_155_code 2 none :: ws) ({ frames := 1, cells := 0, slots := 0, locals := 14 } : Room)) (fun a U => a = #[(.int (3 : Int32)), (.int (4 : Int32))] ∧ Z.Warmed39 U.vm ∧ U.heap = h0) (fun _ _ _ _ _ => True) (fun _ U o U' => ∃ v L, o = .returned v ∧ (Q12_101 Z a1c h0 n0) v U'.heap L ∧ FrameEnd U o U' L 0 0) := by
  refine MetFree.of_bodySF (plainFor_of_name pn_java_lang_String) hisR ?_
  intro p e s m args below meth c s₁ Bd hml0 hP hK
  obtain ⟨rfl, hZ, hh⟩ := hP
  have hx := Bd.exec
  have hby := Bd.bytes
  have hml : c.maxLocals = 2 := hml0
  have hown : s.vm.findClass "java/lang/String" = some m.cls := findClass_of_methodNamed Bd.named
  have hnm := (name_of_methodNamed Bd.named Bd.method).1
  have X0 : Stand p l e ({ frames := 1, cells := 0, slots := 0, locals := 14 } : Room) s m #[(.int (3 : Int32)), (.int (4 : Int32))] below meth c s₁ [] 0 0 := Stand.of_body Bd
  have e0 : s₁.heap = h0 := by rw [← hh, Bd.state]; rfl
  have N0 := Fr.nil n0
  refine GoW.mk ?_
  refine GoW.st (fun t k => castTop (ef12_rm12_101 m ) k) ?_
  show GoW p e below s (Q12_101 Z a1c h0 n0) 0 0 (s₁.setTop (mkF m 0 #[.val (.int 3), .val (.int 4)] []))
  refine GoW.sg (mkF m 1 #[.val (.int 3), .val (.int 4)] [(.int 3)]) (fun t k => XS.iloadN X0.here hx rfl (hb hby d12_0) rfl k) ?_
  refine GoW.sg (mkF m 2 #[.val (.int 3), .val (.int 4)] [(.int 4), (.int 3)]) (fun t k => XS.iloadN X0.here hx rfl (hb hby d12_1) rfl k) ?_
  obtain ⟨T1052, X1052, e1052, st1052⟩ := getS (host := "") X0 hx hZ hown (ww hw 56 rfl) Via.refl e0 P0 (g := (mkF m 2 #[.val (.int 3), .val (.int 4)] [(.int 4), (.int 3)])) rfl (hb hby d12_2)
  refine GoW.sg (mkF m 5 #[.val (.int 3), .val (.int 4)] [(.ref a1c), (.int 4), (.int 3)]) (fun t k => st1052 t k) ?_
  obtain ⟨_, T1053, L1053, X1053, hQ1053, st1053⟩ := own_callS X1052 hx hZ hown (y := Y13) (ww hw 58 rfl) (ww hw 59 rfl) (ww hw 57 rfl) (ww hw 60 rfl) (by decide) 0 (rm13_100 l Z a0 hw [] a1c  h0 n0      ) (by decide) (by decide) e1052 (by decide) (by decide) (g := (mkF m 5 #[.val (.int 3), .val (.int 4)] [(.ref a1c), (.int 4), (.int 3)])) rfl (by rw [hml]; rfl) (argsL := [(.int (3 : Int32)), (.int (4 : Int32)), (.ref a1c)]) (rest := []) (lenOf pd_28IILjava2futil2ffunction2fBiFunction3b29I rfl) rfl (by show 2 * 0 + _ ≤ _; exact Nat.le_of_eq rfl) (hb hby d12_5)
  obtain ⟨rfl, N1053q, e1053⟩ := hQ1053
  have N1053 := Fr.app N0 N1053q
  refine GoW.sg (mkF m 8 #[.val (.int 3), .val (.int 4)] [(.int 3)]) (fun t k => st1053 t k) ?_
  refine GoW.sg (mkF m 9 #[.val (.int 3), .val (.int 4)] []) (fun t k => XS.pop X1053.here hx rfl (hb hby d12_8) rfl rfl k) ?_
  refine GoW.retV X1053 hx Bd.returns (hb hby d12_9) Bd.notSynchronized ?_ (by decide) (by decide)
  rw [e1053]
  exact ⟨rfl, N1053, rfl⟩
def Q11_102 (Z : State) (a1c : Addr) (ka1c : ClassId) (x1c : Int32) (x2c : Int32) (x3c : Int32) (x4c : Int32) (a2c : Addr) (h0 : Heap) (n0 : Nat) (v : Option Value) (h : Heap) (L : List Loc) : Prop := v = some (.int (nar .char (x4c &&& (255 : Int32)).toUInt32.toUInt16.toUInt32.toInt32)) ∧ Fr n0 L ∧ (h = h0)
theorem ef11_rm11_102 (m : MethodId) (a1c : Addr) : entryFrame m #[(.ref a1c), (.int (3 : Int32))] 2 = (mkF m 0 #[.val (.ref a1c), .val (.int 3)] []) := by first | (simp [entryFrame, mkF, argsToLocals, Value.category, maxLocals]; done) | rfl
set_option maxRecDepth 65536 in
set_option maxHeartbeats 40000000 in
theorem rm11_102 (l : Launch) (Z : State) (a0 : Array Value) (hw : ∀ d ∈ tables_1, d.before a0 Z = true) (ws : List Jvm.Cond) (a1c : Addr) (ka1c : ClassId) (x1c : Int32) (x2c : Int32) (x3c : Int32) (x4c : Int32) (a2c : Addr) (h0 : Heap) (n0 : Nat) (P0 : Arv Z h0 a1c ka1c .byte (4 : Int32) [(.int x1c), (.int x2c), (.int x3c), (.int x4c)] (.int (0 : Int32))) (P1 : Sta Z h0 "jdk/internal/util/Preconditions" "SIOOBE_FORMATTER" "Ljava/util/function/BiFunction;" (.ref a2c))      :
    MetFree l Y11 (head1 (Jvm.Cond.code Y11 jdk_43_method_2_code 2 (some .char) :: ws) ({ frames := 2, cells := 0, slots := 0, locals := 27 } : Room)) (fun a U => a = #[(.ref a1c), (.int (3 : Int32))] ∧ Z.Warmed39 U.vm ∧ U.heap = h0) (fun _ _ _ _ _ => True) (fun _ U o U' => ∃ v L, o = .returned v ∧ (Q11_102 Z a1c ka1c x1c x2c x3c x4c a2c h0 n0) v U'.heap L ∧ FrameEnd U o U' L 0 0) := by
  refine MetFree.of_bodySF (plainFor_of_name pn_java_lang_StringLatin1) hisR ?_
  intro p e s m args below meth c s₁ Bd hml0 hP hK
  obtain ⟨rfl, hZ, hh⟩ := hP
  have hx := Bd.exec
  have hby := Bd.bytes
  have hml : c.maxLocals = 2 := hml0
  have hown : s.vm.findClass "java/lang/StringLatin1" = some m.cls := findClass_of_methodNamed Bd.named
  have hnm := (name_of_methodNamed Bd.named Bd.method).1
  have X0 : Stand p l e ({ frames := 2, cells := 0, slots := 0, locals := 27 } : Room) s m #[(.ref a1c), (.int (3 : Int32))] below meth c s₁ [] 0 0 := Stand.of_body Bd
  have e0 : s₁.heap = h0 := by rw [← hh, Bd.state]; rfl
  have N0 := Fr.nil n0
  refine GoW.mk ?_
  refine GoW.st (fun t k => castTop (ef11_rm11_102 m a1c) k) ?_
  show GoW p e below s (Q11_102 Z a1c ka1c x1c x2c x3c x4c a2c h0 n0) 0 0 (s₁.setTop (mkF m 0 #[.val (.ref a1c), .val (.int 3)] []))
  refine GoW.sg (mkF m 1 #[.val (.ref a1c), .val (.int 3)] [(.int 3)]) (fun t k => XS.iloadN X0.here hx rfl (hb hby d11_0) rfl k) ?_
  refine GoW.sg (mkF m 2 #[.val (.ref a1c), .val (.int 3)] [(.ref a1c), (.int 3)]) (fun t k => XS.aloadN X0.here hx rfl (hb hby d11_1) rfl rfl k) ?_
  obtain ⟨cl1056, Ar1056, q1056, Sz1056, Nn1056, Hh1056, Gg1056⟩ := id P0
  have st1056 := X0.arraylength hx (hq_ e0 Ar1056.1) (State.isArrayOf_alike hZ.alike Ar1056.2.1) (g := (mkF m 2 #[.val (.ref a1c), .val (.int 3)] [(.ref a1c), (.int 3)])) rfl rfl (hb hby d11_2)
  rw [len_of Sz1056 Nn1056] at st1056
  refine GoW.sg (mkF m 3 #[.val (.ref a1c), .val (.int 3)] [(.int 4), (.int 3)]) (fun t k => st1056 t k) ?_
  obtain ⟨_, T1059, L1059, X1059, hQ1059, st1059⟩ := own_callS X0 hx hZ hown (y := Y12) (ww hw 53 rfl) (ww hw 54 rfl) (ww hw 3 rfl) (ww hw 55 rfl) (by decide) 0 (rm12_101 l Z a0 hw []  a2c h0 n0  P1    ) (by decide) (by decide) e0 (by decide) (by decide) (g := (mkF m 3 #[.val (.ref a1c), .val (.int 3)] [(.int 4), (.int 3)])) rfl (by rw [hml]; rfl) (argsL := [(.int (3 : Int32)), (.int (4 : Int32))]) (rest := []) (lenOf pd_28II29V rfl) rfl (by show 2 * 0 + _ ≤ _; exact Nat.le_of_eq rfl) (hb hby d11_3)
  obtain ⟨rfl, N1059q, e1059⟩ := hQ1059
  have N1059 := Fr.app N0 N1059q
  refine GoW.sg (mkF m 6 #[.val (.ref a1c), .val (.int 3)] []) (fun t k => st1059 t k) ?_
  refine GoW.sg (mkF m 7 #[.val (.ref a1c), .val (.int 3)] [(.ref a1c)]) (fun t k => XS.aloadN X1059.here hx rfl (hb hby d11_6) rfl rfl k) ?_
  refine GoW.sg (mkF m 8 #[.val (.ref a1c), .val (.int 3)] [(.int 3), (.ref a1c)]) (fun t k => XS.iloadN X1059.here hx rfl (hb hby d11_7) rfl k) ?_
  obtain ⟨cl1060, Ar1060, q1060, Sz1060, Nn1060, Hh1060, Gg1060⟩ := id P0
  have hin1060 : ¬ ((3 : Int32) < 0 ∨ cl1060.slots.size ≤ ((3 : Int32)).toNatClampNeg) := inb_of Sz1060 ⟨by decide, by decide⟩
  refine GoW.sg (mkF m 9 #[.val (.ref a1c), .val (.int 3)] [(.int x4c)]) (fun t k => X1059.baloadBytes hx (j := (3 : Int32)) (v := (.int x4c)) (hq_ e1059 Ar1060.1) (State.isArrayOf_alike hZ.alike Ar1060.2.1) Ar1060.2.2 hin1060 (Hh1060.at hin1060 rfl) (g := (mkF m 8 #[.val (.ref a1c), .val (.int 3)] [(.int 3), (.ref a1c)])) rfl rfl (hb hby d11_8) t k) ?_
  refine GoW.sg (mkF m 12 #[.val (.ref a1c), .val (.int 3)] [(.int 255), (.int x4c)]) (fun t k => XS.sipush X1059.here hx rfl (hb hby d11_9) k) ?_
  refine GoW.sg (mkF m 13 #[.val (.ref a1c), .val (.int 3)] [(.int (x4c &&& (255 : Int32)))]) (fun t k => XS.iand X1059.here hx rfl (hb hby d11_12) rfl k) ?_
  refine GoW.sg (mkF m 14 #[.val (.ref a1c), .val (.int 3)] [(.int (x4c &&& (255 : Int32)).toUInt32.toUInt16.toUInt32.toInt32)]) (fun t k => XS.i2c X1059.here hx rfl (hb hby d11_13) rfl k) ?_
  refine GoW.retN X1059 hx (t := .char) Bd.returns (by simp) (hb hby d11_14) Bd.notSynchronized ?_ (by decide) (by decide)
  rw [e1059]
  exact ⟨rfl, N1059, rfl⟩
def Q20_104 (Z : State) (a1c : Addr) (ka1c : ClassId) (x1c : Int32) (x2c : Int32) (x3c : Int32) (x4c : Int32) (x5c : Int32) (x6c : Int32) (x7c : Int32) (x8c : Int32) (h0 : Heap) (n0 : Nat) (v : Option Value) (h : Heap) (L : List Loc) : Prop := v = none ∧ Fr n0 L ∧ (h = h0)
theorem ef20_rm20_104 (m : MethodId) (a1c : Addr) : entryFrame m #[(.int (3 : Int32)), (.ref a1c)] 2 = (mkF m 0 #[.val (.int 3), .val (.ref a1c)] []) := by first | (simp [entryFrame, mkF, argsToLocals, Value.category, maxLocals]; done) | rfl
set_option maxRecDepth 65536 in
set_option maxHeartbeats 40000000 in
theorem rm20_104 (l : Launch) (Z : State) (a0 : Array Value) (hw : ∀ d ∈ tables_1, d.before a0 Z = true) (ws : List Jvm.Cond) (a1c : Addr) (ka1c : ClassId) (x1c : Int32) (x2c : Int32) (x3c : Int32) (x4c : Int32) (x5c : Int32) (x6c : Int32) (x7c : Int32) (x8c : Int32) (h0 : Heap) (n0 : Nat) (P0 : Arv Z h0 a1c ka1c .byte (8 : Int32) [(.int x1c), (.int x2c), (.int x3c), (.int x4c), (.int x5c), (.int x6c), (.int x7c), (.int x8c)] (.int (0 : Int32))) (P1 : Sta Z h0 "jdk/internal/util/Preconditions" "SIOOBE_FORMATTER" "Ljava/util/function/BiFunction;" .null)      :
    MetFree l Y20 (head1 (Jvm.Cond.code Y20 jdk_52_method_91_code 2 none :: ws) ({ frames := 2, cells := 0, slots := 0, locals := 27 } : Room)) (fun a U => a = #[(.int (3 : Int32)), (.ref a1c)] ∧ Z.Warmed39 U.vm ∧ U.heap = h0) (fun _ _ _ _ _ => True) (fun _ U o U' => ∃ v L, o = .returned v ∧ (Q20_104 Z a1c ka1c x1c x2c x3c x4c x5c x6c x7c x8c h0 n0) v U'.heap L ∧ FrameEnd U o U' L 0 0) := by
  refine MetFree.of_bodySF (plainFor_of_name pn_java_lang_StringUTF16) hisR ?_
  intro p e s m args below meth c s₁ Bd hml0 hP hK
  obtain ⟨rfl, hZ, hh⟩ := hP
  have hx := Bd.exec
  have hby := Bd.bytes
  have hml : c.maxLocals = 2 := hml0
  have hown : s.vm.findClass "java/lang/StringUTF16" = some m.cls := findClass_of_methodNamed Bd.named
  have hnm := (name_of_methodNamed Bd.named Bd.method).1
  have X0 : Stand p l e ({ frames := 2, cells := 0, slots := 0, locals := 27 } : Room) s m #[(.int (3 : Int32)), (.ref a1c)] below meth c s₁ [] 0 0 := Stand.of_body Bd
  have e0 : s₁.heap = h0 := by rw [← hh, Bd.state]; rfl
  have N0 := Fr.nil n0
  refine GoW.mk ?_
  refine GoW.st (fun t k => castTop (ef20_rm20_104 m a1c) k) ?_
  show GoW p e below s (Q20_104 Z a1c ka1c x1c x2c x3c x4c x5c x6c x7c x8c h0 n0) 0 0 (s₁.setTop (mkF m 0 #[.val (.int 3), .val (.ref a1c)] []))
  refine GoW.sg (mkF m 1 #[.val (.int 3), .val (.ref a1c)] [(.int 3)]) (fun t k => XS.iloadN X0.here hx rfl (hb hby d20_0) rfl k) ?_
  refine GoW.sg (mkF m 2 #[.val (.int 3), .val (.ref a1c)] [(.ref a1c), (.int 3)]) (fun t k => XS.aloadN X0.here hx rfl (hb hby d20_1) rfl rfl k) ?_
  obtain ⟨_, T1074, L1074, X1074, hQ1074, st1074⟩ := own_callS X0 hx hZ hown (y := Y21) (ww hw 86 rfl) (ww hw 87 rfl) (ww hw 17 rfl) (ww hw 88 rfl) (by decide) 1 (rm21_49 l Z a0 hw [] a1c ka1c x1c x2c x3c x4c x5c x6c x7c x8c h0 n0  P0    ) (by decide) (by decide) e0 (by decide) (by decide) (g := (mkF m 2 #[.val (.int 3), .val (.ref a1c)] [(.ref a1c), (.int 3)])) rfl (by rw [hml]; rfl) (argsL := [(.ref a1c)]) (rest := [(.int (3 : Int32))]) (lenOf pd_285bB29I rfl) rfl (by show 2 * 0 + _ ≤ _; exact Nat.le_of_eq rfl) (hb hby d20_2)
  obtain ⟨rfl, N1074q, e1074⟩ := hQ1074
  have N1074 := Fr.app N0 N1074q
  refine GoW.sg (mkF m 5 #[.val (.int 3), .val (.ref a1c)] [(.int 4), (.int 3)]) (fun t k => st1074 t k) ?_
  obtain ⟨_, T1075, L1075, X1075, hQ1075, st1075⟩ := own_callS X1074 hx hZ hown (y := Y12) (ww hw 89 rfl) (ww hw 54 rfl) (ww hw 3 rfl) (ww hw 55 rfl) (by decide) 0 (rm12_97 l Z a0 hw []   h0 n0  P1    ) (by decide) (by decide) e1074 (by decide) (by decide) (g := (mkF m 5 #[.val (.int 3), .val (.ref a1c)] [(.int 4), (.int 3)])) rfl (by rw [hml]; rfl) (argsL := [(.int (3 : Int32)), (.int (4 : Int32))]) (rest := []) (lenOf pd_28II29V rfl) rfl (by show 2 * 0 + _ ≤ _; exact Nat.le_of_eq rfl) (hb hby d20_5)
  obtain ⟨rfl, N1075q, e1075⟩ := hQ1075
  have N1075 := Fr.app N1074 N1075q
  refine GoW.sg (mkF m 8 #[.val (.int 3), .val (.ref a1c)] []) (fun t k => st1075 t k) ?_
  refine GoW.retV X1075 hx Bd.returns (hb hby d20_8) Bd.notSynchronized ?_ (by decide) (by decide)
  rw [e1075]
  exact ⟨rfl, N1075, rfl⟩
def Q19_105 (Z : State) (a1c : Addr) (ka1c : ClassId) (x1c : Int32) (x2c : Int32) (x3c : Int32) (x4c : Int32) (x5c : Int32) (x6c : Int32) (x7c : Int32) (x8c : Int32) (h0 : Heap) (n0 : Nat) (v : Option Value) (h : Heap) (L : List Loc) : Prop := v = some (.int (nar .char (nar .char (((x7c &&& (255 : Int32)) <<< ((0 : Int32) &&& 31)) ||| ((x8c &&& (255 : Int32)) <<< ((8 : Int32) &&& 31))).toUInt32.toUInt16.toUInt32.toInt32))) ∧ Fr n0 L ∧ (h = h0)
theorem ef19_rm19_105 (m : MethodId) (a1c : Addr) : entryFrame m #[(.ref a1c), (.int (3 : Int32))] 2 = (mkF m 0 #[.val (.ref a1c), .val (.int 3)] []) := by first | (simp [entryFrame, mkF, argsToLocals, Value.category, maxLocals]; done) | rfl
set_option maxRecDepth 65536 in
set_option maxHeartbeats 40000000 in
theorem rm19_105 (l : Launch) (Z : State) (a0 : Array Value) (hw : ∀ d ∈ tables_1, d.before a0 Z = true) (ws : List Jvm.Cond) (a1c : Addr) (ka1c : ClassId) (x1c : Int32) (x2c : Int32) (x3c : Int32) (x4c : Int32) (x5c : Int32) (x6c : Int32) (x7c : Int32) (x8c : Int32) (h0 : Heap) (n0 : Nat) (P0 : Arv Z h0 a1c ka1c .byte (8 : Int32) [(.int x1c), (.int x2c), (.int x3c), (.int x4c), (.int x5c), (.int x6c), (.int x7c), (.int x8c)] (.int (0 : Int32))) (P1 : Sta Z h0 "java/lang/StringUTF16" "$assertionsDisabled" "Z" (.int (1 : Int32))) (P2 : Sta Z h0 "java/lang/StringUTF16" "HI_BYTE_SHIFT" "I" (.int (0 : Int32))) (P3 : Sta Z h0 "java/lang/StringUTF16" "LO_BYTE_SHIFT" "I" (.int (8 : Int32))) (P4 : Sta Z h0 "jdk/internal/util/Preconditions" "SIOOBE_FORMATTER" "Ljava/util/function/BiFunction;" .null)      :
    MetFree l Y19 (head1 (Jvm.Cond.code Y19 jdk_52_method_83_code 2 (some .char) :: ws) ({ frames := 3, cells := 0, slots := 0, locals := 40 } : Room)) (fun a U => a = #[(.ref a1c), (.int (3 : Int32))] ∧ Z.Warmed39 U.vm ∧ U.heap = h0) (fun _ _ _ _ _ => True) (fun _ U o U' => ∃ v L, o = .returned v ∧ (Q19_105 Z a1c ka1c x1c x2c x3c x4c x5c x6c x7c x8c h0 n0) v U'.heap L ∧ FrameEnd U o U' L 0 0) := by
  refine MetFree.of_bodySF (plainFor_of_name pn_java_lang_StringUTF16) hisR ?_
  intro p e s m args below meth c s₁ Bd hml0 hP hK
  obtain ⟨rfl, hZ, hh⟩ := hP
  have hx := Bd.exec
  have hby := Bd.bytes
  have hml : c.maxLocals = 2 := hml0
  have hown : s.vm.findClass "java/lang/StringUTF16" = some m.cls := findClass_of_methodNamed Bd.named
  have hnm := (name_of_methodNamed Bd.named Bd.method).1
  have X0 : Stand p l e ({ frames := 3, cells := 0, slots := 0, locals := 40 } : Room) s m #[(.ref a1c), (.int (3 : Int32))] below meth c s₁ [] 0 0 := Stand.of_body Bd
  have e0 : s₁.heap = h0 := by rw [← hh, Bd.state]; rfl
  have N0 := Fr.nil n0
  refine GoW.mk ?_
  refine GoW.st (fun t k => castTop (ef19_rm19_105 m a1c) k) ?_
  show GoW p e below s (Q19_105 Z a1c ka1c x1c x2c x3c x4c x5c x6c x7c x8c h0 n0) 0 0 (s₁.setTop (mkF m 0 #[.val (.ref a1c), .val (.int 3)] []))
  refine GoW.sg (mkF m 1 #[.val (.ref a1c), .val (.int 3)] [(.int 3)]) (fun t k => XS.iloadN X0.here hx rfl (hb hby d19_0) rfl k) ?_
  refine GoW.sg (mkF m 2 #[.val (.ref a1c), .val (.int 3)] [(.ref a1c), (.int 3)]) (fun t k => XS.aloadN X0.here hx rfl (hb hby d19_1) rfl rfl k) ?_
  obtain ⟨_, T1087, L1087, X1087, hQ1087, st1087⟩ := own_callS X0 hx hZ hown (y := Y20) (ww hw 83 rfl) (ww hw 84 rfl) (ww hw 17 rfl) (ww hw 85 rfl) (by decide) 0 (rm20_104 l Z a0 hw [] a1c ka1c x1c x2c x3c x4c x5c x6c x7c x8c h0 n0  P0 P4    ) (by decide) (by decide) e0 (by decide) (by decide) (g := (mkF m 2 #[.val (.ref a1c), .val (.int 3)] [(.ref a1c), (.int 3)])) rfl (by rw [hml]; rfl) (argsL := [(.int (3 : Int32)), (.ref a1c)]) (rest := []) (lenOf pd_28I5bB29V rfl) rfl (by show 2 * 0 + _ ≤ _; exact Nat.le_of_eq rfl) (hb hby d19_2)
  obtain ⟨rfl, N1087q, e1087⟩ := hQ1087
  have N1087 := Fr.app N0 N1087q
  refine GoW.sg (mkF m 5 #[.val (.ref a1c), .val (.int 3)] []) (fun t k => st1087 t k) ?_
  refine GoW.sg (mkF m 6 #[.val (.ref a1c), .val (.int 3)] [(.ref a1c)]) (fun t k => XS.aloadN X1087.here hx rfl (hb hby d19_5) rfl rfl k) ?_
  refine GoW.sg (mkF m 7 #[.val (.ref a1c), .val (.int 3)] [(.int 3), (.ref a1c)]) (fun t k => XS.iloadN X1087.here hx rfl (hb hby d19_6) rfl k) ?_
  obtain ⟨_, T1093, L1093, X1093, hQ1093, st1093⟩ := own_callS X1087 hx hZ hown (y := Y18) (ww hw 77 rfl) (ww hw 78 rfl) (ww hw 17 rfl) (ww hw 79 rfl) (by decide) 0 (rm18_25 l Z a0 hw [] a1c ka1c x1c x2c x3c x4c x5c x6c x7c x8c h0 n0  P0 P1 P2 P3    ) (by decide) (by decide) e1087 (by decide) (by decide) (g := (mkF m 7 #[.val (.ref a1c), .val (.int 3)] [(.int 3), (.ref a1c)])) rfl (by rw [hml]; rfl) (argsL := [(.ref a1c), (.int (3 : Int32))]) (rest := []) (lenOf pd_285bBI29C rfl) rfl (by show 2 * 0 + _ ≤ _; exact Nat.le_of_eq rfl) (hb hby d19_7)
  obtain ⟨rfl, N1093q, e1093⟩ := hQ1093
  have N1093 := Fr.app N1087 N1093q
  refine GoW.sg (mkF m 10 #[.val (.ref a1c), .val (.int 3)] [(.int (nar .char (((x7c &&& (255 : Int32)) <<< ((0 : Int32) &&& 31)) ||| ((x8c &&& (255 : Int32)) <<< ((8 : Int32) &&& 31))).toUInt32.toUInt16.toUInt32.toInt32))]) (fun t k => st1093 t k) ?_
  refine GoW.retN X1093 hx (t := .char) Bd.returns (by simp) (hb hby d19_10) Bd.notSynchronized ?_ (by decide) (by decide)
  rw [e1093]
  exact ⟨rfl, N1093, rfl⟩
def Q20_107 (Z : State) (a1c : Addr) (ka1c : ClassId) (x1c : Int32) (x2c : Int32) (x3c : Int32) (x4c : Int32) (x5c : Int32) (x6c : Int32) (x7c : Int32) (x8c : Int32) (a2c : Addr) (h0 : Heap) (n0 : Nat) (v : Option Value) (h : Heap) (L : List Loc) : Prop := v = none ∧ Fr n0 L ∧ (h = h0)
theorem ef20_rm20_107 (m : MethodId) (a1c : Addr) : entryFrame m #[(.int (3 : Int32)), (.ref a1c)] 2 = (mkF m 0 #[.val (.int 3), .val (.ref a1c)] []) := by first | (simp [entryFrame, mkF, argsToLocals, Value.category, maxLocals]; done) | rfl
set_option maxRecDepth 65536 in
set_option maxHeartbeats 40000000 in
theorem rm20_107 (l : Launch) (Z : State) (a0 : Array Value) (hw : ∀ d ∈ tables_1, d.before a0 Z = true) (ws : List Jvm.Cond) (a1c : Addr) (ka1c : ClassId) (x1c : Int32) (x2c : Int32) (x3c : Int32) (x4c : Int32) (x5c : Int32) (x6c : Int32) (x7c : Int32) (x8c : Int32) (a2c : Addr) (h0 : Heap) (n0 : Nat) (P0 : Arv Z h0 a1c ka1c .byte (8 : Int32) [(.int x1c), (.int x2c), (.int x3c), (.int x4c), (.int x5c), (.int x6c), (.int x7c), (.int x8c)] (.int (0 : Int32))) (P1 : Sta Z h0 "jdk/internal/util/Preconditions" "SIOOBE_FORMATTER" "Ljava/util/function/BiFunction;" (.ref a2c))      :
    MetFree l Y20 (head1 (Jvm.Cond.code Y20 jdk_52_method_91_code 2 none :: ws) ({ frames := 2, cells := 0, slots := 0, locals := 27 } : Room)) (fun a U => a = #[(.int (3 : Int32)), (.ref a1c)] ∧ Z.Warmed39 U.vm ∧ U.heap = h0) (fun _ _ _ _ _ => True) (fun _ U o U' => ∃ v L, o = .returned v ∧ (Q20_107 Z a1c ka1c x1c x2c x3c x4c x5c x6c x7c x8c a2c h0 n0) v U'.heap L ∧ FrameEnd U o U' L 0 0) := by
  refine MetFree.of_bodySF (plainFor_of_name pn_java_lang_StringUTF16) hisR ?_
  intro p e s m args below meth c s₁ Bd hml0 hP hK
  obtain ⟨rfl, hZ, hh⟩ := hP
  have hx := Bd.exec
  have hby := Bd.bytes
  have hml : c.maxLocals = 2 := hml0
  have hown : s.vm.findClass "java/lang/StringUTF16" = some m.cls := findClass_of_methodNamed Bd.named
  have hnm := (name_of_methodNamed Bd.named Bd.method).1
  have X0 : Stand p l e ({ frames := 2, cells := 0, slots := 0, locals := 27 } : Room) s m #[(.int (3 : Int32)), (.ref a1c)] below meth c s₁ [] 0 0 := Stand.of_body Bd
  have e0 : s₁.heap = h0 := by rw [← hh, Bd.state]; rfl
  have N0 := Fr.nil n0
  refine GoW.mk ?_
  refine GoW.st (fun t k => castTop (ef20_rm20_107 m a1c) k) ?_
  show GoW p e below s (Q20_107 Z a1c ka1c x1c x2c x3c x4c x5c x6c x7c x8c a2c h0 n0) 0 0 (s₁.setTop (mkF m 0 #[.val (.int 3), .val (.ref a1c)] []))
  refine GoW.sg (mkF m 1 #[.val (.int 3), .val (.ref a1c)] [(.int 3)]) (fun t k => XS.iloadN X0.here hx rfl (hb hby d20_0) rfl k) ?_
  refine GoW.sg (mkF m 2 #[.val (.int 3), .val (.ref a1c)] [(.ref a1c), (.int 3)]) (fun t k => XS.aloadN X0.here hx rfl (hb hby d20_1) rfl rfl k) ?_
  obtain ⟨_, T1102, L1102, X1102, hQ1102, st1102⟩ := own_callS X0 hx hZ hown (y := Y21) (ww hw 86 rfl) (ww hw 87 rfl) (ww hw 17 rfl) (ww hw 88 rfl) (by decide) 1 (rm21_49 l Z a0 hw [] a1c ka1c x1c x2c x3c x4c x5c x6c x7c x8c h0 n0  P0    ) (by decide) (by decide) e0 (by decide) (by decide) (g := (mkF m 2 #[.val (.int 3), .val (.ref a1c)] [(.ref a1c), (.int 3)])) rfl (by rw [hml]; rfl) (argsL := [(.ref a1c)]) (rest := [(.int (3 : Int32))]) (lenOf pd_285bB29I rfl) rfl (by show 2 * 0 + _ ≤ _; exact Nat.le_of_eq rfl) (hb hby d20_2)
  obtain ⟨rfl, N1102q, e1102⟩ := hQ1102
  have N1102 := Fr.app N0 N1102q
  refine GoW.sg (mkF m 5 #[.val (.int 3), .val (.ref a1c)] [(.int 4), (.int 3)]) (fun t k => st1102 t k) ?_
  obtain ⟨_, T1103, L1103, X1103, hQ1103, st1103⟩ := own_callS X1102 hx hZ hown (y := Y12) (ww hw 89 rfl) (ww hw 54 rfl) (ww hw 3 rfl) (ww hw 55 rfl) (by decide) 0 (rm12_101 l Z a0 hw []  a2c h0 n0  P1    ) (by decide) (by decide) e1102 (by decide) (by decide) (g := (mkF m 5 #[.val (.int 3), .val (.ref a1c)] [(.int 4), (.int 3)])) rfl (by rw [hml]; rfl) (argsL := [(.int (3 : Int32)), (.int (4 : Int32))]) (rest := []) (lenOf pd_28II29V rfl) rfl (by show 2 * 0 + _ ≤ _; exact Nat.le_of_eq rfl) (hb hby d20_5)
  obtain ⟨rfl, N1103q, e1103⟩ := hQ1103
  have N1103 := Fr.app N1102 N1103q
  refine GoW.sg (mkF m 8 #[.val (.int 3), .val (.ref a1c)] []) (fun t k => st1103 t k) ?_
  refine GoW.retV X1103 hx Bd.returns (hb hby d20_8) Bd.notSynchronized ?_ (by decide) (by decide)
  rw [e1103]
  exact ⟨rfl, N1103, rfl⟩
def Q19_108 (Z : State) (a1c : Addr) (ka1c : ClassId) (x1c : Int32) (x2c : Int32) (x3c : Int32) (x4c : Int32) (x5c : Int32) (x6c : Int32) (x7c : Int32) (x8c : Int32) (a2c : Addr) (h0 : Heap) (n0 : Nat) (v : Option Value) (h : Heap) (L : List Loc) : Prop := v = some (.int (nar .char (nar .char (((x7c &&& (255 : Int32)) <<< ((0 : Int32) &&& 31)) ||| ((x8c &&& (255 : Int32)) <<< ((8 : Int32) &&& 31))).toUInt32.toUInt16.toUInt32.toInt32))) ∧ Fr n0 L ∧ (h = h0)
theorem ef19_rm19_108 (m : MethodId) (a1c : Addr) : entryFrame m #[(.ref a1c), (.int (3 : Int32))] 2 = (mkF m 0 #[.val (.ref a1c), .val (.int 3)] []) := by first | (simp [entryFrame, mkF, argsToLocals, Value.category, maxLocals]; done) | rfl
set_option maxRecDepth 65536 in
set_option maxHeartbeats 40000000 in
theorem rm19_108 (l : Launch) (Z : State) (a0 : Array Value) (hw : ∀ d ∈ tables_1, d.before a0 Z = true) (ws : List Jvm.Cond) (a1c : Addr) (ka1c : ClassId) (x1c : Int32) (x2c : Int32) (x3c : Int32) (x4c : Int32) (x5c : Int32) (x6c : Int32) (x7c : Int32) (x8c : Int32) (a2c : Addr) (h0 : Heap) (n0 : Nat) (P0 : Arv Z h0 a1c ka1c .byte (8 : Int32) [(.int x1c), (.int x2c), (.int x3c), (.int x4c), (.int x5c), (.int x6c), (.int x7c), (.int x8c)] (.int (0 : Int32))) (P1 : Sta Z h0 "java/lang/StringUTF16" "$assertionsDisabled" "Z" (.int (1 : Int32))) (P2 : Sta Z h0 "java/lang/StringUTF16" "HI_BYTE_SHIFT" "I" (.int (0 : Int32))) (P3 : Sta Z h0 "java/lang/StringUTF16" "LO_BYTE_SHIFT" "I" (.int (8 : Int32))) (P4 : Sta Z h0 "jdk/internal/util/Preconditions" "SIOOBE_FORMATTER" "Ljava/util/function/BiFunction;" (.ref a2c))      :
    MetFree l Y19 (head1 (Jvm.Cond.code Y19 jdk_52_method_83_code 2 (some .char) :: ws) ({ frames := 3, cells := 0, slots := 0, locals := 40 } : Room)) (fun a U => a = #[(.ref a1c), (.int (3 : Int32))] ∧ Z.Warmed39 U.vm ∧ U.heap = h0) (fun _ _ _ _ _ => True) (fun _ U o U' => ∃ v L, o = .returned v ∧ (Q19_108 Z a1c ka1c x1c x2c x3c x4c x5c x6c x7c x8c a2c h0 n0) v U'.heap L ∧ FrameEnd U o U' L 0 0) := by
  refine MetFree.of_bodySF (plainFor_of_name pn_java_lang_StringUTF16) hisR ?_
  intro p e s m args below meth c s₁ Bd hml0 hP hK
  obtain ⟨rfl, hZ, hh⟩ := hP
  have hx := Bd.exec
  have hby := Bd.bytes
  have hml : c.maxLocals = 2 := hml0
  have hown : s.vm.findClass "java/lang/StringUTF16" = some m.cls := findClass_of_methodNamed Bd.named
  have hnm := (name_of_methodNamed Bd.named Bd.method).1
  have X0 : Stand p l e ({ frames := 3, cells := 0, slots := 0, locals := 40 } : Room) s m #[(.ref a1c), (.int (3 : Int32))] below meth c s₁ [] 0 0 := Stand.of_body Bd
  have e0 : s₁.heap = h0 := by rw [← hh, Bd.state]; rfl
  have N0 := Fr.nil n0
  refine GoW.mk ?_
  refine GoW.st (fun t k => castTop (ef19_rm19_108 m a1c) k) ?_
  show GoW p e below s (Q19_108 Z a1c ka1c x1c x2c x3c x4c x5c x6c x7c x8c a2c h0 n0) 0 0 (s₁.setTop (mkF m 0 #[.val (.ref a1c), .val (.int 3)] []))
  refine GoW.sg (mkF m 1 #[.val (.ref a1c), .val (.int 3)] [(.int 3)]) (fun t k => XS.iloadN X0.here hx rfl (hb hby d19_0) rfl k) ?_
  refine GoW.sg (mkF m 2 #[.val (.ref a1c), .val (.int 3)] [(.ref a1c), (.int 3)]) (fun t k => XS.aloadN X0.here hx rfl (hb hby d19_1) rfl rfl k) ?_
  obtain ⟨_, T1115, L1115, X1115, hQ1115, st1115⟩ := own_callS X0 hx hZ hown (y := Y20) (ww hw 83 rfl) (ww hw 84 rfl) (ww hw 17 rfl) (ww hw 85 rfl) (by decide) 0 (rm20_107 l Z a0 hw [] a1c ka1c x1c x2c x3c x4c x5c x6c x7c x8c a2c h0 n0  P0 P4    ) (by decide) (by decide) e0 (by decide) (by decide) (g := (mkF m 2 #[.val (.ref a1c), .val (.int 3)] [(.ref a1c), (.int 3)])) rfl (by rw [hml]; rfl) (argsL := [(.int (3 : Int32)), (.ref a1c)]) (rest := []) (lenOf pd_28I5bB29V rfl) rfl (by show 2 * 0 + _ ≤ _; exact Nat.le_of_eq rfl) (hb hby d19_2)
  obtain ⟨rfl, N1115q, e1115⟩ := hQ1115
  have N1115 := Fr.app N0 N1115q
  refine GoW.sg (mkF m 5 #[.val (.ref a1c), .val (.int 3)] []) (fun t k => st1115 t k) ?_
  refine GoW.sg (mkF m 6 #[.val (.ref a1c), .val (.int 3)] [(.ref a1c)]) (fun t k => XS.aloadN X1115.here hx rfl (hb hby d19_5) rfl rfl k) ?_
  refine GoW.sg (mkF m 7 #[.val (.ref a1c), .val (.int 3)] [(.int 3), (.ref a1c)]) (fun t k => XS.iloadN X1115.here hx rfl (hb hby d19_6) rfl k) ?_
  obtain ⟨_, T1121, L1121, X1121, hQ1121, st1121⟩ := own_callS X1115 hx hZ hown (y := Y18) (ww hw 77 rfl) (ww hw 78 rfl) (ww hw 17 rfl) (ww hw 79 rfl) (by decide) 0 (rm18_25 l Z a0 hw [] a1c ka1c x1c x2c x3c x4c x5c x6c x7c x8c h0 n0  P0 P1 P2 P3    ) (by decide) (by decide) e1115 (by decide) (by decide) (g := (mkF m 7 #[.val (.ref a1c), .val (.int 3)] [(.int 3), (.ref a1c)])) rfl (by rw [hml]; rfl) (argsL := [(.ref a1c), (.int (3 : Int32))]) (rest := []) (lenOf pd_285bBI29C rfl) rfl (by show 2 * 0 + _ ≤ _; exact Nat.le_of_eq rfl) (hb hby d19_7)
  obtain ⟨rfl, N1121q, e1121⟩ := hQ1121
  have N1121 := Fr.app N1115 N1121q
  refine GoW.sg (mkF m 10 #[.val (.ref a1c), .val (.int 3)] [(.int (nar .char (((x7c &&& (255 : Int32)) <<< ((0 : Int32) &&& 31)) ||| ((x8c &&& (255 : Int32)) <<< ((8 : Int32) &&& 31))).toUInt32.toUInt16.toUInt32.toInt32))]) (fun t k => st1121 t k) ?_
  refine GoW.retN X1121 hx (t := .char) Bd.returns (by simp) (hb hby d19_10) Bd.notSynchronized ?_ (by decide) (by decide)
  rw [e1121]
  exact ⟨rfl, N1121, rfl⟩
def Q9_110 (Z : State) (a1c : Addr) (a2c : Addr) (ka2c : ClassId) (x1c : Int32) (x2c : Int32) (x3c : Int32) (x4c : Int32) (x5c : Int32) (h0 : Heap) (n0 : Nat) (v : Option Value) (h : Heap) (L : List Loc) : Prop := v = some (.int (nar .char (nar .char (x4c &&& (255 : Int32)).toUInt32.toUInt16.toUInt32.toInt32))) ∧ Fr n0 L ∧ (h = h0)
theorem ef9_rm9_110 (m : MethodId) (a1c : Addr) : entryFrame m #[(.ref a1c), (.int (3 : Int32))] 2 = (mkF m 0 #[.val (.ref a1c), .val (.int 3)] []) := by first | (simp [entryFrame, mkF, argsToLocals, Value.category, maxLocals]; done) | rfl
set_option maxRecDepth 65536 in
set_option maxHeartbeats 40000000 in
theorem rm9_110 (l : Launch) (Z : State) (a0 : Array Value) (hw : ∀ d ∈ tables_1, d.before a0 Z = true) (ws : List Jvm.Cond) (a1c : Addr) (a2c : Addr) (ka2c : ClassId) (x1c : Int32) (x2c : Int32) (x3c : Int32) (x4c : Int32) (x5c : Int32) (h0 : Heap) (n0 : Nat) (P0 : Exa Z h0 a1c "java/lang/String") (P1 : Fld Z h0 a1c "java/lang/String" "coder" "B" (.int (0 : Int32))) (P2 : Fld Z h0 a1c "java/lang/String" "value" "[B" (.ref a2c)) (P3 : Arv Z h0 a2c ka2c .byte (4 : Int32) [(.int x1c), (.int x2c), (.int x3c), (.int x4c)] (.int (0 : Int32))) (P4 : Sta Z h0 "java/lang/String" "COMPACT_STRINGS" "Z" (.int x5c)) (P5 : Sta Z h0 "jdk/internal/util/Preconditions" "SIOOBE_FORMATTER" "Ljava/util/function/BiFunction;" .null)   (u0 : ¬ (x5c = (0 : Int32)))   :
    MetFree l Y9 (head1 (Jvm.Cond.code Y9 jdk_42_method_56_code 2 (some .char) :: ws) ({ frames := 4, cells := 0, slots := 0, locals := 53 } : Room)) (fun a U => a = #[(.ref a1c), (.int (3 : Int32))] ∧ Z.Warmed39 U.vm ∧ U.heap = h0) (fun _ _ _ _ _ => True) (fun _ U o U' => ∃ v L, o = .returned v ∧ (Q9_110 Z a1c a2c ka2c x1c x2c x3c x4c x5c h0 n0) v U'.heap L ∧ FrameEnd U o U' L 0 0) := by
  refine MetFree.of_bodySF (plainFor_of_name pn_java_lang_String) hisR ?_
  intro p e s m args below meth c s₁ Bd hml0 hP hK
  obtain ⟨rfl, hZ, hh⟩ := hP
  have hx := Bd.exec
  have hby := Bd.bytes
  have hml : c.maxLocals = 2 := hml0
  have hown : s.vm.findClass "java/lang/String" = some m.cls := findClass_of_methodNamed Bd.named
  have hnm := (name_of_methodNamed Bd.named Bd.method).1
  have X0 : Stand p l e ({ frames := 4, cells := 0, slots := 0, locals := 53 } : Room) s m #[(.ref a1c), (.int (3 : Int32))] below meth c s₁ [] 0 0 := Stand.of_body Bd
  have e0 : s₁.heap = h0 := by rw [← hh, Bd.state]; rfl
  have N0 := Fr.nil n0
  refine GoW.mk ?_
  refine GoW.st (fun t k => castTop (ef9_rm9_110 m a1c) k) ?_
  show GoW p e below s (Q9_110 Z a1c a2c ka2c x1c x2c x3c x4c x5c h0 n0) 0 0 (s₁.setTop (mkF m 0 #[.val (.ref a1c), .val (.int 3)] []))
  refine GoW.sg (mkF m 1 #[.val (.ref a1c), .val (.int 3)] [(.ref a1c)]) (fun t k => XS.aloadN X0.here hx rfl (hb hby d9_0) rfl rfl k) ?_
  obtain ⟨cq1129, kq1129, q1129a, q1129b, q1129c⟩ := isOf hZ e0 P0
  obtain ⟨_, _, ⟨T1129, L1129, k1129, n1129⟩, -, X1129, ⟨Lc1129, hQ1129, l1129, y1129, z1129⟩, st1129⟩ := X0.virtualBack hx (y := (⟨"java/lang/String", "isLatin1", "()Z"⟩ : MethodName)) (z := Y10) hown (mvT hZ (ww hw 44 rfl)) (mvT hZ (ww hw 45 rfl)) (notFace_of_selects (args := #[]) (mvT hZ (ww hw 47 rfl))) (mvT hZ (ww hw 47 rfl)) (mvT hZ (ww hw 46 rfl)) (by decide) (backOf (W := 0) (rm10_39 l Z a0 hw [] a1c x5c h0 n0  P0 P1 P4   u0 ) hZ (ww hw 48 rfl) (ww hw 3 rfl) (by decide) (by decide)) q1129a q1129c (g := (mkF m 1 #[.val (.ref a1c), .val (.int 3)] [(.ref a1c)])) rfl (by rw [hml]; rfl) (Steps.refl _) (argsL := []) (rest := []) (lenOf pd_2829Z rfl) rfl (by show 2 * 0 + _ ≤ _; exact Nat.le_of_eq rfl) (hb hby d9_1) (fun _ _ => ⟨rfl, e0, (by decide : 0 + 0 ≤ _), (by decide : 0 + 0 ≤ _)⟩)
  dsimp only [Pt.U, Pt.locs, Pt.cells, Pt.slots] at X1129 l1129 y1129 z1129 st1129 hQ1129
  subst l1129 y1129 z1129
  obtain ⟨rfl, N1129q, e1129⟩ := hQ1129
  have N1129 := Fr.app N0 N1129q
  refine GoW.sg (mkF m 4 #[.val (.ref a1c), .val (.int 3)] [(.int 1)]) (fun t k => st1129.trans k) ?_
  refine GoW.sg (mkF m 7 #[.val (.ref a1c), .val (.int 3)] []) (fun t k => XS.ifNo X1129.here hx rfl (hb hby d9_4) rfl (by decide) k) ?_
  refine GoW.sg (mkF m 8 #[.val (.ref a1c), .val (.int 3)] [(.ref a1c)]) (fun t k => XS.aloadN X1129.here hx rfl (hb hby d9_7) rfl rfl k) ?_
  obtain ⟨T1130, X1130, e1130, st1130⟩ := getF X1129 hx hZ hown (host := "") (Or.inl (ww hw 28 rfl)) Via.refl e1129 P2 (g := (mkF m 8 #[.val (.ref a1c), .val (.int 3)] [(.ref a1c)])) rfl rfl (hb hby d9_8)
  refine GoW.sg (mkF m 11 #[.val (.ref a1c), .val (.int 3)] [(.ref a2c)]) (fun t k => st1130 t k) ?_
  refine GoW.sg (mkF m 12 #[.val (.ref a1c), .val (.int 3)] [(.int 3), (.ref a2c)]) (fun t k => XS.iloadN X1130.here hx rfl (hb hby d9_11) rfl k) ?_
  obtain ⟨_, T1131, L1131, X1131, hQ1131, st1131⟩ := own_callS X1130 hx hZ hown (y := Y11) (ww hw 49 rfl) (ww hw 50 rfl) (ww hw 51 rfl) (ww hw 52 rfl) (by decide) 0 (rm11_98 l Z a0 hw [] a2c ka2c x1c x2c x3c x4c h0 n0  P3 P5    ) (by decide) (by decide) e1130 (by decide) (by decide) (g := (mkF m 12 #[.val (.ref a1c), .val (.int 3)] [(.int 3), (.ref a2c)])) rfl (by rw [hml]; rfl) (argsL := [(.ref a2c), (.int (3 : Int32))]) (rest := []) (lenOf pd_285bBI29C rfl) rfl (by show 2 * 0 + _ ≤ _; exact Nat.le_of_eq rfl) (hb hby d9_12)
  obtain ⟨rfl, N1131q, e1131⟩ := hQ1131
  have N1131 := Fr.app N1129 N1131q
  refine GoW.sg (mkF m 15 #[.val (.ref a1c), .val (.int 3)] [(.int (nar .char (x4c &&& (255 : Int32)).toUInt32.toUInt16.toUInt32.toInt32))]) (fun t k => st1131 t k) ?_
  refine GoW.retN X1131 hx (t := .char) Bd.returns (by simp) (hb hby d9_15) Bd.notSynchronized ?_ (by decide) (by decide)
  rw [e1131]
  exact ⟨rfl, N1131, rfl⟩
def Q9_111 (Z : State) (a1c : Addr) (a2c : Addr) (ka2c : ClassId) (x1c : Int32) (x2c : Int32) (x3c : Int32) (x4c : Int32) (x5c : Int32) (a3c : Addr) (h0 : Heap) (n0 : Nat) (v : Option Value) (h : Heap) (L : List Loc) : Prop := v = some (.int (nar .char (nar .char (x4c &&& (255 : Int32)).toUInt32.toUInt16.toUInt32.toInt32))) ∧ Fr n0 L ∧ (h = h0)
theorem ef9_rm9_111 (m : MethodId) (a1c : Addr) : entryFrame m #[(.ref a1c), (.int (3 : Int32))] 2 = (mkF m 0 #[.val (.ref a1c), .val (.int 3)] []) := by first | (simp [entryFrame, mkF, argsToLocals, Value.category, maxLocals]; done) | rfl
set_option maxRecDepth 65536 in
set_option maxHeartbeats 40000000 in
theorem rm9_111 (l : Launch) (Z : State) (a0 : Array Value) (hw : ∀ d ∈ tables_1, d.before a0 Z = true) (ws : List Jvm.Cond) (a1c : Addr) (a2c : Addr) (ka2c : ClassId) (x1c : Int32) (x2c : Int32) (x3c : Int32) (x4c : Int32) (x5c : Int32) (a3c : Addr) (h0 : Heap) (n0 : Nat) (P0 : Exa Z h0 a1c "java/lang/String") (P1 : Fld Z h0 a1c "java/lang/String" "coder" "B" (.int (0 : Int32))) (P2 : Fld Z h0 a1c "java/lang/String" "value" "[B" (.ref a2c)) (P3 : Arv Z h0 a2c ka2c .byte (4 : Int32) [(.int x1c), (.int x2c), (.int x3c), (.int x4c)] (.int (0 : Int32))) (P4 : Sta Z h0 "java/lang/String" "COMPACT_STRINGS" "Z" (.int x5c)) (P5 : Sta Z h0 "jdk/internal/util/Preconditions" "SIOOBE_FORMATTER" "Ljava/util/function/BiFunction;" (.ref a3c))   (u0 : ¬ (x5c = (0 : Int32)))   :
    MetFree l Y9 (head1 (Jvm.Cond.code Y9 jdk_42_method_56_code 2 (some .char) :: ws) ({ frames := 4, cells := 0, slots := 0, locals := 53 } : Room)) (fun a U => a = #[(.ref a1c), (.int (3 : Int32))] ∧ Z.Warmed39 U.vm ∧ U.heap = h0) (fun _ _ _ _ _ => True) (fun _ U o U' => ∃ v L, o = .returned v ∧ (Q9_111 Z a1c a2c ka2c x1c x2c x3c x4c x5c a3c h0 n0) v U'.heap L ∧ FrameEnd U o U' L 0 0) := by
  refine MetFree.of_bodySF (plainFor_of_name pn_java_lang_String) hisR ?_
  intro p e s m args below meth c s₁ Bd hml0 hP hK
  obtain ⟨rfl, hZ, hh⟩ := hP
  have hx := Bd.exec
  have hby := Bd.bytes
  have hml : c.maxLocals = 2 := hml0
  have hown : s.vm.findClass "java/lang/String" = some m.cls := findClass_of_methodNamed Bd.named
  have hnm := (name_of_methodNamed Bd.named Bd.method).1
  have X0 : Stand p l e ({ frames := 4, cells := 0, slots := 0, locals := 53 } : Room) s m #[(.ref a1c), (.int (3 : Int32))] below meth c s₁ [] 0 0 := Stand.of_body Bd
  have e0 : s₁.heap = h0 := by rw [← hh, Bd.state]; rfl
  have N0 := Fr.nil n0
  refine GoW.mk ?_
  refine GoW.st (fun t k => castTop (ef9_rm9_111 m a1c) k) ?_
  show GoW p e below s (Q9_111 Z a1c a2c ka2c x1c x2c x3c x4c x5c a3c h0 n0) 0 0 (s₁.setTop (mkF m 0 #[.val (.ref a1c), .val (.int 3)] []))
  refine GoW.sg (mkF m 1 #[.val (.ref a1c), .val (.int 3)] [(.ref a1c)]) (fun t k => XS.aloadN X0.here hx rfl (hb hby d9_0) rfl rfl k) ?_
  obtain ⟨cq1135, kq1135, q1135a, q1135b, q1135c⟩ := isOf hZ e0 P0
  obtain ⟨_, _, ⟨T1135, L1135, k1135, n1135⟩, -, X1135, ⟨Lc1135, hQ1135, l1135, y1135, z1135⟩, st1135⟩ := X0.virtualBack hx (y := (⟨"java/lang/String", "isLatin1", "()Z"⟩ : MethodName)) (z := Y10) hown (mvT hZ (ww hw 44 rfl)) (mvT hZ (ww hw 45 rfl)) (notFace_of_selects (args := #[]) (mvT hZ (ww hw 47 rfl))) (mvT hZ (ww hw 47 rfl)) (mvT hZ (ww hw 46 rfl)) (by decide) (backOf (W := 0) (rm10_39 l Z a0 hw [] a1c x5c h0 n0  P0 P1 P4   u0 ) hZ (ww hw 48 rfl) (ww hw 3 rfl) (by decide) (by decide)) q1135a q1135c (g := (mkF m 1 #[.val (.ref a1c), .val (.int 3)] [(.ref a1c)])) rfl (by rw [hml]; rfl) (Steps.refl _) (argsL := []) (rest := []) (lenOf pd_2829Z rfl) rfl (by show 2 * 0 + _ ≤ _; exact Nat.le_of_eq rfl) (hb hby d9_1) (fun _ _ => ⟨rfl, e0, (by decide : 0 + 0 ≤ _), (by decide : 0 + 0 ≤ _)⟩)
  dsimp only [Pt.U, Pt.locs, Pt.cells, Pt.slots] at X1135 l1135 y1135 z1135 st1135 hQ1135
  subst l1135 y1135 z1135
  obtain ⟨rfl, N1135q, e1135⟩ := hQ1135
  have N1135 := Fr.app N0 N1135q
  refine GoW.sg (mkF m 4 #[.val (.ref a1c), .val (.int 3)] [(.int 1)]) (fun t k => st1135.trans k) ?_
  refine GoW.sg (mkF m 7 #[.val (.ref a1c), .val (.int 3)] []) (fun t k => XS.ifNo X1135.here hx rfl (hb hby d9_4) rfl (by decide) k) ?_
  refine GoW.sg (mkF m 8 #[.val (.ref a1c), .val (.int 3)] [(.ref a1c)]) (fun t k => XS.aloadN X1135.here hx rfl (hb hby d9_7) rfl rfl k) ?_
  obtain ⟨T1136, X1136, e1136, st1136⟩ := getF X1135 hx hZ hown (host := "") (Or.inl (ww hw 28 rfl)) Via.refl e1135 P2 (g := (mkF m 8 #[.val (.ref a1c), .val (.int 3)] [(.ref a1c)])) rfl rfl (hb hby d9_8)
  refine GoW.sg (mkF m 11 #[.val (.ref a1c), .val (.int 3)] [(.ref a2c)]) (fun t k => st1136 t k) ?_
  refine GoW.sg (mkF m 12 #[.val (.ref a1c), .val (.int 3)] [(.int 3), (.ref a2c)]) (fun t k => XS.iloadN X1136.here hx rfl (hb hby d9_11) rfl k) ?_
  obtain ⟨_, T1137, L1137, X1137, hQ1137, st1137⟩ := own_callS X1136 hx hZ hown (y := Y11) (ww hw 49 rfl) (ww hw 50 rfl) (ww hw 51 rfl) (ww hw 52 rfl) (by decide) 0 (rm11_102 l Z a0 hw [] a2c ka2c x1c x2c x3c x4c a3c h0 n0  P3 P5    ) (by decide) (by decide) e1136 (by decide) (by decide) (g := (mkF m 12 #[.val (.ref a1c), .val (.int 3)] [(.int 3), (.ref a2c)])) rfl (by rw [hml]; rfl) (argsL := [(.ref a2c), (.int (3 : Int32))]) (rest := []) (lenOf pd_285bBI29C rfl) rfl (by show 2 * 0 + _ ≤ _; exact Nat.le_of_eq rfl) (hb hby d9_12)
  obtain ⟨rfl, N1137q, e1137⟩ := hQ1137
  have N1137 := Fr.app N1135 N1137q
  refine GoW.sg (mkF m 15 #[.val (.ref a1c), .val (.int 3)] [(.int (nar .char (x4c &&& (255 : Int32)).toUInt32.toUInt16.toUInt32.toInt32))]) (fun t k => st1137 t k) ?_
  refine GoW.retN X1137 hx (t := .char) Bd.returns (by simp) (hb hby d9_15) Bd.notSynchronized ?_ (by decide) (by decide)
  rw [e1137]
  exact ⟨rfl, N1137, rfl⟩
def Q9_112 (Z : State) (a1c : Addr) (a2c : Addr) (ka2c : ClassId) (x1c : Int32) (x2c : Int32) (x3c : Int32) (x4c : Int32) (x5c : Int32) (x6c : Int32) (x7c : Int32) (x8c : Int32) (x9c : Int32) (h0 : Heap) (n0 : Nat) (v : Option Value) (h : Heap) (L : List Loc) : Prop := v = some (.int (nar .char (nar .char (nar .char (((x7c &&& (255 : Int32)) <<< ((0 : Int32) &&& 31)) ||| ((x8c &&& (255 : Int32)) <<< ((8 : Int32) &&& 31))).toUInt32.toUInt16.toUInt32.toInt32)))) ∧ Fr n0 L ∧ (h = h0)
theorem ef9_rm9_112 (m : MethodId) (a1c : Addr) : entryFrame m #[(.ref a1c), (.int (3 : Int32))] 2 = (mkF m 0 #[.val (.ref a1c), .val (.int 3)] []) := by first | (simp [entryFrame, mkF, argsToLocals, Value.category, maxLocals]; done) | rfl
set_option maxRecDepth 65536 in
set_option maxHeartbeats 40000000 in
theorem rm9_112 (l : Launch) (Z : State) (a0 : Array Value) (hw : ∀ d ∈ tables_1, d.before a0 Z = true) (ws : List Jvm.Cond) (a1c : Addr) (a2c : Addr) (ka2c : ClassId) (x1c : Int32) (x2c : Int32) (x3c : Int32) (x4c : Int32) (x5c : Int32) (x6c : Int32) (x7c : Int32) (x8c : Int32) (x9c : Int32) (h0 : Heap) (n0 : Nat) (P0 : Exa Z h0 a1c "java/lang/String") (P1 : Fld Z h0 a1c "java/lang/String" "coder" "B" (.int (1 : Int32))) (P2 : Fld Z h0 a1c "java/lang/String" "value" "[B" (.ref a2c)) (P3 : Arv Z h0 a2c ka2c .byte (8 : Int32) [(.int x1c), (.int x2c), (.int x3c), (.int x4c), (.int x5c), (.int x6c), (.int x7c), (.int x8c)] (.int (0 : Int32))) (P4 : Sta Z h0 "java/lang/String" "COMPACT_STRINGS" "Z" (.int x9c)) (P5 : Sta Z h0 "java/lang/StringUTF16" "$assertionsDisabled" "Z" (.int (1 : Int32))) (P6 : Sta Z h0 "java/lang/StringUTF16" "HI_BYTE_SHIFT" "I" (.int (0 : Int32))) (P7 : Sta Z h0 "java/lang/StringUTF16" "LO_BYTE_SHIFT" "I" (.int (8 : Int32))) (P8 : Sta Z h0 "jdk/internal/util/Preconditions" "SIOOBE_FORMATTER" "Ljava/util/function/BiFunction;" .null)   (u0 : ¬ (x9c = (0 : Int32)))   :
    MetFree l Y9 (head1 (Jvm.Cond.code Y9 jdk_42_method_56_code 2 (some .char) :: ws) ({ frames := 4, cells := 0, slots := 0, locals := 53 } : Room)) (fun a U => a = #[(.ref a1c), (.int (3 : Int32))] ∧ Z.Warmed39 U.vm ∧ U.heap = h0) (fun _ _ _ _ _ => True) (fun _ U o U' => ∃ v L, o = .returned v ∧ (Q9_112 Z a1c a2c ka2c x1c x2c x3c x4c x5c x6c x7c x8c x9c h0 n0) v U'.heap L ∧ FrameEnd U o U' L 0 0) := by
  refine MetFree.of_bodySF (plainFor_of_name pn_java_lang_String) hisR ?_
  intro p e s m args below meth c s₁ Bd hml0 hP hK
  obtain ⟨rfl, hZ, hh⟩ := hP
  have hx := Bd.exec
  have hby := Bd.bytes
  have hml : c.maxLocals = 2 := hml0
  have hown : s.vm.findClass "java/lang/String" = some m.cls := findClass_of_methodNamed Bd.named
  have hnm := (name_of_methodNamed Bd.named Bd.method).1
  have X0 : Stand p l e ({ frames := 4, cells := 0, slots := 0, locals := 53 } : Room) s m #[(.ref a1c), (.int (3 : Int32))] below meth c s₁ [] 0 0 := Stand.of_body Bd
  have e0 : s₁.heap = h0 := by rw [← hh, Bd.state]; rfl
  have N0 := Fr.nil n0
  refine GoW.mk ?_
  refine GoW.st (fun t k => castTop (ef9_rm9_112 m a1c) k) ?_
  show GoW p e below s (Q9_112 Z a1c a2c ka2c x1c x2c x3c x4c x5c x6c x7c x8c x9c h0 n0) 0 0 (s₁.setTop (mkF m 0 #[.val (.ref a1c), .val (.int 3)] []))
  refine GoW.sg (mkF m 1 #[.val (.ref a1c), .val (.int 3)] [(.ref a1c)]) (fun t k => XS.aloadN X0.here hx rfl (hb hby d9_0) rfl rfl k) ?_
  obtain ⟨cq1141, kq1141, q1141a, q1141b, q1141c⟩ := isOf hZ e0 P0
  obtain ⟨_, _, ⟨T1141, L1141, k1141, n1141⟩, -, X1141, ⟨Lc1141, hQ1141, l1141, y1141, z1141⟩, st1141⟩ := X0.virtualBack hx (y := (⟨"java/lang/String", "isLatin1", "()Z"⟩ : MethodName)) (z := Y10) hown (mvT hZ (ww hw 44 rfl)) (mvT hZ (ww hw 45 rfl)) (notFace_of_selects (args := #[]) (mvT hZ (ww hw 47 rfl))) (mvT hZ (ww hw 47 rfl)) (mvT hZ (ww hw 46 rfl)) (by decide) (backOf (W := 0) (rm10_48 l Z a0 hw [] a1c x9c h0 n0  P0 P1 P4   u0 ) hZ (ww hw 48 rfl) (ww hw 3 rfl) (by decide) (by decide)) q1141a q1141c (g := (mkF m 1 #[.val (.ref a1c), .val (.int 3)] [(.ref a1c)])) rfl (by rw [hml]; rfl) (Steps.refl _) (argsL := []) (rest := []) (lenOf pd_2829Z rfl) rfl (by show 2 * 0 + _ ≤ _; exact Nat.le_of_eq rfl) (hb hby d9_1) (fun _ _ => ⟨rfl, e0, (by decide : 0 + 0 ≤ _), (by decide : 0 + 0 ≤ _)⟩)
  dsimp only [Pt.U, Pt.locs, Pt.cells, Pt.slots] at X1141 l1141 y1141 z1141 st1141 hQ1141
  subst l1141 y1141 z1141
  obtain ⟨rfl, N1141q, e1141⟩ := hQ1141
  have N1141 := Fr.app N0 N1141q
  refine GoW.sg (mkF m 4 #[.val (.ref a1c), .val (.int 3)] [(.int 0)]) (fun t k => st1141.trans k) ?_
  refine GoW.sg (mkF m 16 #[.val (.ref a1c), .val (.int 3)] []) (fun t k => XS.ifYes X1141.here hx rfl (pc0 := 4) (pc' := 16) rfl (hb hby d9_4) rfl (by decide) (by decide) (by decide) k) ?_
  refine GoW.sg (mkF m 17 #[.val (.ref a1c), .val (.int 3)] [(.ref a1c)]) (fun t k => XS.aloadN X1141.here hx rfl (hb hby d9_16) rfl rfl k) ?_
  obtain ⟨T1142, X1142, e1142, st1142⟩ := getF X1141 hx hZ hown (host := "") (Or.inl (ww hw 28 rfl)) Via.refl e1141 P2 (g := (mkF m 17 #[.val (.ref a1c), .val (.int 3)] [(.ref a1c)])) rfl rfl (hb hby d9_17)
  refine GoW.sg (mkF m 20 #[.val (.ref a1c), .val (.int 3)] [(.ref a2c)]) (fun t k => st1142 t k) ?_
  refine GoW.sg (mkF m 21 #[.val (.ref a1c), .val (.int 3)] [(.int 3), (.ref a2c)]) (fun t k => XS.iloadN X1142.here hx rfl (hb hby d9_20) rfl k) ?_
  obtain ⟨_, T1143, L1143, X1143, hQ1143, st1143⟩ := own_callS X1142 hx hZ hown (y := Y19) (ww hw 80 rfl) (ww hw 81 rfl) (ww hw 17 rfl) (ww hw 82 rfl) (by decide) 0 (rm19_105 l Z a0 hw [] a2c ka2c x1c x2c x3c x4c x5c x6c x7c x8c h0 n0  P3 P5 P6 P7 P8    ) (by decide) (by decide) e1142 (by decide) (by decide) (g := (mkF m 21 #[.val (.ref a1c), .val (.int 3)] [(.int 3), (.ref a2c)])) rfl (by rw [hml]; rfl) (argsL := [(.ref a2c), (.int (3 : Int32))]) (rest := []) (lenOf pd_285bBI29C rfl) rfl (by show 2 * 0 + _ ≤ _; exact Nat.le_of_eq rfl) (hb hby d9_21)
  obtain ⟨rfl, N1143q, e1143⟩ := hQ1143
  have N1143 := Fr.app N1141 N1143q
  refine GoW.sg (mkF m 24 #[.val (.ref a1c), .val (.int 3)] [(.int (nar .char (nar .char (((x7c &&& (255 : Int32)) <<< ((0 : Int32) &&& 31)) ||| ((x8c &&& (255 : Int32)) <<< ((8 : Int32) &&& 31))).toUInt32.toUInt16.toUInt32.toInt32)))]) (fun t k => st1143 t k) ?_
  refine GoW.retN X1143 hx (t := .char) Bd.returns (by simp) (hb hby d9_24) Bd.notSynchronized ?_ (by decide) (by decide)
  rw [e1143]
  exact ⟨rfl, N1143, rfl⟩
def Q9_113 (Z : State) (a1c : Addr) (a2c : Addr) (ka2c : ClassId) (x1c : Int32) (x2c : Int32) (x3c : Int32) (x4c : Int32) (x5c : Int32) (x6c : Int32) (x7c : Int32) (x8c : Int32) (x9c : Int32) (a3c : Addr) (h0 : Heap) (n0 : Nat) (v : Option Value) (h : Heap) (L : List Loc) : Prop := v = some (.int (nar .char (nar .char (nar .char (((x7c &&& (255 : Int32)) <<< ((0 : Int32) &&& 31)) ||| ((x8c &&& (255 : Int32)) <<< ((8 : Int32) &&& 31))).toUInt32.toUInt16.toUInt32.toInt32)))) ∧ Fr n0 L ∧ (h = h0)
theorem ef9_rm9_113 (m : MethodId) (a1c : Addr) : entryFrame m #[(.ref a1c), (.int (3 : Int32))] 2 = (mkF m 0 #[.val (.ref a1c), .val (.int 3)] []) := by first | (simp [entryFrame, mkF, argsToLocals, Value.category, maxLocals]; done) | rfl
set_option maxRecDepth 65536 in
set_option maxHeartbeats 40000000 in
theorem rm9_113 (l : Launch) (Z : State) (a0 : Array Value) (hw : ∀ d ∈ tables_1, d.before a0 Z = true) (ws : List Jvm.Cond) (a1c : Addr) (a2c : Addr) (ka2c : ClassId) (x1c : Int32) (x2c : Int32) (x3c : Int32) (x4c : Int32) (x5c : Int32) (x6c : Int32) (x7c : Int32) (x8c : Int32) (x9c : Int32) (a3c : Addr) (h0 : Heap) (n0 : Nat) (P0 : Exa Z h0 a1c "java/lang/String") (P1 : Fld Z h0 a1c "java/lang/String" "coder" "B" (.int (1 : Int32))) (P2 : Fld Z h0 a1c "java/lang/String" "value" "[B" (.ref a2c)) (P3 : Arv Z h0 a2c ka2c .byte (8 : Int32) [(.int x1c), (.int x2c), (.int x3c), (.int x4c), (.int x5c), (.int x6c), (.int x7c), (.int x8c)] (.int (0 : Int32))) (P4 : Sta Z h0 "java/lang/String" "COMPACT_STRINGS" "Z" (.int x9c)) (P5 : Sta Z h0 "java/lang/StringUTF16" "$assertionsDisabled" "Z" (.int (1 : Int32))) (P6 : Sta Z h0 "java/lang/StringUTF16" "HI_BYTE_SHIFT" "I" (.int (0 : Int32))) (P7 : Sta Z h0 "java/lang/StringUTF16" "LO_BYTE_SHIFT" "I" (.int (8 : Int32))) (P8 : Sta Z h0 "jdk/internal/util/Preconditions" "SIOOBE_FORMATTER" "Ljava/util/function/BiFunction;" (.ref a3c))   (u0 : ¬ (x9c = (0 : Int32)))   :
    MetFree l Y9 (head1 (Jvm.Cond.code Y9 jdk_42_method_56_code 2 (some .char) :: ws) ({ frames := 4, cells := 0, slots := 0, locals := 53 } : Room)) (fun a U => a = #[(.ref a1c), (.int (3 : Int32))] ∧ Z.Warmed39 U.vm ∧ U.heap = h0) (fun _ _ _ _ _ => True) (fun _ U o U' => ∃ v L, o = .returned v ∧ (Q9_113 Z a1c a2c ka2c x1c x2c x3c x4c x5c x6c x7c x8c x9c a3c h0 n0) v U'.heap L ∧ FrameEnd U o U' L 0 0) := by
  refine MetFree.of_bodySF (plainFor_of_name pn_java_lang_String) hisR ?_
  intro p e s m args below meth c s₁ Bd hml0 hP hK
  obtain ⟨rfl, hZ, hh⟩ := hP
  have hx := Bd.exec
  have hby := Bd.bytes
  have hml : c.maxLocals = 2 := hml0
  have hown : s.vm.findClass "java/lang/String" = some m.cls := findClass_of_methodNamed Bd.named
  have hnm := (name_of_methodNamed Bd.named Bd.method).1
  have X0 : Stand p l e ({ frames := 4, cells := 0, slots := 0, locals := 53 } : Room) s m #[(.ref a1c), (.int (3 : Int32))] below meth c s₁ [] 0 0 := Stand.of_body Bd
  have e0 : s₁.heap = h0 := by rw [← hh, Bd.state]; rfl
  have N0 := Fr.nil n0
  refine GoW.mk ?_
  refine GoW.st (fun t k => castTop (ef9_rm9_113 m a1c) k) ?_
  show GoW p e below s (Q9_113 Z a1c a2c ka2c x1c x2c x3c x4c x5c x6c x7c x8c x9c a3c h0 n0) 0 0 (s₁.setTop (mkF m 0 #[.val (.ref a1c), .val (.int 3)] []))
  refine GoW.sg (mkF m 1 #[.val (.ref a1c), .val (.int 3)] [(.ref a1c)]) (fun t k => XS.aloadN X0.here hx rfl (hb hby d9_0) rfl rfl k) ?_
  obtain ⟨cq1147, kq1147, q1147a, q1147b, q1147c⟩ := isOf hZ e0 P0
  obtain ⟨_, _, ⟨T1147, L1147, k1147, n1147⟩, -, X1147, ⟨Lc1147, hQ1147, l1147, y1147, z1147⟩, st1147⟩ := X0.virtualBack hx (y := (⟨"java/lang/String", "isLatin1", "()Z"⟩ : MethodName)) (z := Y10) hown (mvT hZ (ww hw 44 rfl)) (mvT hZ (ww hw 45 rfl)) (notFace_of_selects (args := #[]) (mvT hZ (ww hw 47 rfl))) (mvT hZ (ww hw 47 rfl)) (mvT hZ (ww hw 46 rfl)) (by decide) (backOf (W := 0) (rm10_48 l Z a0 hw [] a1c x9c h0 n0  P0 P1 P4   u0 ) hZ (ww hw 48 rfl) (ww hw 3 rfl) (by decide) (by decide)) q1147a q1147c (g := (mkF m 1 #[.val (.ref a1c), .val (.int 3)] [(.ref a1c)])) rfl (by rw [hml]; rfl) (Steps.refl _) (argsL := []) (rest := []) (lenOf pd_2829Z rfl) rfl (by show 2 * 0 + _ ≤ _; exact Nat.le_of_eq rfl) (hb hby d9_1) (fun _ _ => ⟨rfl, e0, (by decide : 0 + 0 ≤ _), (by decide : 0 + 0 ≤ _)⟩)
  dsimp only [Pt.U, Pt.locs, Pt.cells, Pt.slots] at X1147 l1147 y1147 z1147 st1147 hQ1147
  subst l1147 y1147 z1147
  obtain ⟨rfl, N1147q, e1147⟩ := hQ1147
  have N1147 := Fr.app N0 N1147q
  refine GoW.sg (mkF m 4 #[.val (.ref a1c), .val (.int 3)] [(.int 0)]) (fun t k => st1147.trans k) ?_
  refine GoW.sg (mkF m 16 #[.val (.ref a1c), .val (.int 3)] []) (fun t k => XS.ifYes X1147.here hx rfl (pc0 := 4) (pc' := 16) rfl (hb hby d9_4) rfl (by decide) (by decide) (by decide) k) ?_
  refine GoW.sg (mkF m 17 #[.val (.ref a1c), .val (.int 3)] [(.ref a1c)]) (fun t k => XS.aloadN X1147.here hx rfl (hb hby d9_16) rfl rfl k) ?_
  obtain ⟨T1148, X1148, e1148, st1148⟩ := getF X1147 hx hZ hown (host := "") (Or.inl (ww hw 28 rfl)) Via.refl e1147 P2 (g := (mkF m 17 #[.val (.ref a1c), .val (.int 3)] [(.ref a1c)])) rfl rfl (hb hby d9_17)
  refine GoW.sg (mkF m 20 #[.val (.ref a1c), .val (.int 3)] [(.ref a2c)]) (fun t k => st1148 t k) ?_
  refine GoW.sg (mkF m 21 #[.val (.ref a1c), .val (.int 3)] [(.int 3), (.ref a2c)]) (fun t k => XS.iloadN X1148.here hx rfl (hb hby d9_20) rfl k) ?_
  obtain ⟨_, T1149, L1149, X1149, hQ1149, st1149⟩ := own_callS X1148 hx hZ hown (y := Y19) (ww hw 80 rfl) (ww hw 81 rfl) (ww hw 17 rfl) (ww hw 82 rfl) (by decide) 0 (rm19_108 l Z a0 hw [] a2c ka2c x1c x2c x3c x4c x5c x6c x7c x8c a3c h0 n0  P3 P5 P6 P7 P8    ) (by decide) (by decide) e1148 (by decide) (by decide) (g := (mkF m 21 #[.val (.ref a1c), .val (.int 3)] [(.int 3), (.ref a2c)])) rfl (by rw [hml]; rfl) (argsL := [(.ref a2c), (.int (3 : Int32))]) (rest := []) (lenOf pd_285bBI29C rfl) rfl (by show 2 * 0 + _ ≤ _; exact Nat.le_of_eq rfl) (hb hby d9_21)
  obtain ⟨rfl, N1149q, e1149⟩ := hQ1149
  have N1149 := Fr.app N1147 N1149q
  refine GoW.sg (mkF m 24 #[.val (.ref a1c), .val (.int 3)] [(.int (nar .char (nar .char (((x7c &&& (255 : Int32)) <<< ((0 : Int32) &&& 31)) ||| ((x8c &&& (255 : Int32)) <<< ((8 : Int32) &&& 31))).toUInt32.toUInt16.toUInt32.toInt32)))]) (fun t k => st1149 t k) ?_
  refine GoW.retN X1149 hx (t := .char) Bd.returns (by simp) (hb hby d9_24) Bd.notSynchronized ?_ (by decide) (by decide)
  rw [e1149]
  exact ⟨rfl, N1149, rfl⟩
set_option maxRecDepth 65536 in
set_option maxHeartbeats 40000000 in
theorem rmCh3 (l : Launch) (Z : State) (a0 : Array Value) (hw : ∀ d ∈ tables_1, d.before a0 Z = true) (a1 : Addr) (c0 : Int32) (c1 : Int32) (c2 : Int32) (c3 : Int32) (cs : Int32) (vf : Value) (h0 : Heap) (n0 : Nat) (PE : Exa Z h0 a1 "java/lang/String") (hS : Str4 Z h0 a1 c0 c1 c2 c3) (PC : Sta Z h0 "java/lang/String" "COMPACT_STRINGS" "Z" (.int cs)) (PA : Sta Z h0 "java/lang/StringUTF16" "$assertionsDisabled" "Z" (.int (1 : Int32))) (PH : Sta Z h0 "java/lang/StringUTF16" "HI_BYTE_SHIFT" "I" (.int (0 : Int32))) (PL : Sta Z h0 "java/lang/StringUTF16" "LO_BYTE_SHIFT" "I" (.int (8 : Int32))) (PF : Sta Z h0 "jdk/internal/util/Preconditions" "SIOOBE_FORMATTER" "Ljava/util/function/BiFunction;" vf) (hvf : vf.isRef = true) (lo_c0 : ¬ (c0 < (0 : Int32))) (hi_c0 : ¬ ((65535 : Int32) < c0)) (lo_c1 : ¬ (c1 < (0 : Int32))) (hi_c1 : ¬ ((65535 : Int32) < c1)) (lo_c2 : ¬ (c2 < (0 : Int32))) (hi_c2 : ¬ ((65535 : Int32) < c2)) (lo_c3 : ¬ (c3 < (0 : Int32))) (hi_c3 : ¬ ((65535 : Int32) < c3)) (ncs : ¬ (cs = (0 : Int32))) :
    MetFree l Y9 (head1 [Jvm.Cond.code Y9 jdk_42_method_56_code 2 (some .char)] ({ frames := 4, cells := 0, slots := 0, locals := 53 } : Room)) (fun a U => a = #[(.ref a1), (.int (3 : Int32))] ∧ Z.Warmed39 U.vm ∧ U.heap = h0) (fun _ _ _ _ _ => True) (fun _ U o U' => ∃ v L, o = .returned v ∧ PureQ (.int c3) h0 n0 v U'.heap L ∧ FrameEnd U o U' L 0 0) := by
  rcases hS with ⟨b, kb, PV, PK, PB, b0, b1, b2, b3⟩ | ⟨b, kb, PV, PK, PB⟩
  · rcases ref_cases hvf with rfl | ⟨af, rfl⟩
    · exact (rm9_110 l Z a0 hw [] a1 b kb (lat8 c0) (lat8 c1) (lat8 c2) (lat8 c3) cs h0 n0  PE PK PV PB PC PF   ncs).mono (fun _ _ h => h) (fun _ _ _ _ _ h => h) (fun _ _ _ _ _ h => by obtain ⟨v, L, q1, ⟨q2, q3⟩, q4⟩ := h; refine ⟨v, L, q1, ⟨q2.trans ?_, q3⟩, q4⟩; simp only [own_lat c3 lo_c3 b3, own_nc c3 lo_c3 hi_c3])
    · exact (rm9_111 l Z a0 hw [] a1 b kb (lat8 c0) (lat8 c1) (lat8 c2) (lat8 c3) cs af h0 n0  PE PK PV PB PC PF   ncs).mono (fun _ _ h => h) (fun _ _ _ _ _ h => h) (fun _ _ _ _ _ h => by obtain ⟨v, L, q1, ⟨q2, q3⟩, q4⟩ := h; refine ⟨v, L, q1, ⟨q2.trans ?_, q3⟩, q4⟩; simp only [own_lat c3 lo_c3 b3, own_nc c3 lo_c3 hi_c3])
  · rcases ref_cases hvf with rfl | ⟨af, rfl⟩
    · exact (rm9_112 l Z a0 hw [] a1 b kb (lo8 c0) (hi8 c0) (lo8 c1) (hi8 c1) (lo8 c2) (hi8 c2) (lo8 c3) (hi8 c3) cs h0 n0  PE PK PV PB PC PA PH PL PF   ncs).mono (fun _ _ h => h) (fun _ _ _ _ _ h => h) (fun _ _ _ _ _ h => by obtain ⟨v, L, q1, ⟨q2, q3⟩, q4⟩ := h; refine ⟨v, L, q1, ⟨q2.trans ?_, q3⟩, q4⟩; simp only [own_join c3 lo_c3 hi_c3, own_nc c3 lo_c3 hi_c3])
    · exact (rm9_113 l Z a0 hw [] a1 b kb (lo8 c0) (hi8 c0) (lo8 c1) (hi8 c1) (lo8 c2) (hi8 c2) (lo8 c3) (hi8 c3) cs af h0 n0  PE PK PV PB PC PA PH PL PF   ncs).mono (fun _ _ h => h) (fun _ _ _ _ _ h => h) (fun _ _ _ _ _ h => by obtain ⟨v, L, q1, ⟨q2, q3⟩, q4⟩ := h; refine ⟨v, L, q1, ⟨q2.trans ?_, q3⟩, q4⟩; simp only [own_join c3 lo_c3 hi_c3, own_nc c3 lo_c3 hi_c3])
def FD01 (c0 : Int32) (c1 : Int32) (c2 : Int32) (c3 : Int32) (cs : Int32) : Int32 := (if c0 < (48 : Int32) then (0 : Int32) else (if (57 : Int32) < c0 then (0 : Int32) else (1 : Int32)))
def QD01 (Z : State) (a1 : Addr) (c0 : Int32) (c1 : Int32) (c2 : Int32) (c3 : Int32) (cs : Int32) (vf : Value) (h0 : Heap) (n0 : Nat) (v : Option Value) (h : Heap) (L : List Loc) : Prop := v = some (.int (FD01 c0 c1 c2 c3 cs)) ∧ Fr n0 L ∧ (h = h0)
theorem ef8_rmD01 (m : MethodId) (a1 : Addr) : entryFrame m #[(.ref a1), (.int (0 : Int32)), (.int (1 : Int32))] 5 = (mkF m 0 #[.val (.ref a1), .val (.int 0), .val (.int 1), .unset, .unset] []) := by first | (simp [entryFrame, mkF, argsToLocals, Value.category, maxLocals]; done) | rfl
set_option maxRecDepth 65536 in
set_option maxHeartbeats 40000000 in
theorem rmD01 (l : Launch) (Z : State) (a0 : Array Value) (hw : ∀ d ∈ tables_1, d.before a0 Z = true) (ws : List Jvm.Cond) (a1 : Addr) (c0 : Int32) (c1 : Int32) (c2 : Int32) (c3 : Int32) (cs : Int32) (vf : Value) (h0 : Heap) (n0 : Nat) (P0 : Exa Z h0 a1 "java/lang/String") (P1 : Sta Z h0 "java/lang/String" "COMPACT_STRINGS" "Z" (.int cs)) (P2 : Sta Z h0 "java/lang/StringUTF16" "$assertionsDisabled" "Z" (.int (1 : Int32))) (P3 : Sta Z h0 "java/lang/StringUTF16" "HI_BYTE_SHIFT" "I" (.int (0 : Int32))) (P4 : Sta Z h0 "java/lang/StringUTF16" "LO_BYTE_SHIFT" "I" (.int (8 : Int32))) (P5 : Sta Z h0 "jdk/internal/util/Preconditions" "SIOOBE_FORMATTER" "Ljava/util/function/BiFunction;" vf)    (hS : Str4 Z h0 a1 c0 c1 c2 c3) (hvf : vf.isRef = true) (lo_c0 : ¬ (c0 < (0 : Int32))) (hi_c0 : ¬ ((65535 : Int32) < c0)) (lo_c1 : ¬ (c1 < (0 : Int32))) (hi_c1 : ¬ ((65535 : Int32) < c1)) (lo_c2 : ¬ (c2 < (0 : Int32))) (hi_c2 : ¬ ((65535 : Int32) < c2)) (lo_c3 : ¬ (c3 < (0 : Int32))) (hi_c3 : ¬ ((65535 : Int32) < c3)) (ncs : ¬ (cs = (0 : Int32)))  :
    MetFree l Y8 (head1 (Jvm.Cond.code Y8 prog_10_method_2_code 5 (some .boolean) :: ws) ({ frames := 5, cells := 0, slots := 0, locals := 66 } : Room)) (fun a U => a = #[(.ref a1), (.int (0 : Int32)), (.int (1 : Int32))] ∧ Z.Warmed39 U.vm ∧ U.heap = h0) (fun _ _ _ _ _ => True) (fun _ U o U' => ∃ v L, o = .returned v ∧ (QD01 Z a1 c0 c1 c2 c3 cs vf h0 n0) v U'.heap L ∧ FrameEnd U o U' L 0 0) := by
  refine MetFree.of_bodySF (plainFor_of_name pn_com_example_throttle_throttle_SipSyntax) hisR ?_
  intro p e s m args below meth c s₁ Bd hml0 hP hK
  obtain ⟨rfl, hZ, hh⟩ := hP
  have hx := Bd.exec
  have hby := Bd.bytes
  have hml : c.maxLocals = 5 := hml0
  have hown : s.vm.findClass "com/example/throttle/throttle/SipSyntax" = some m.cls := findClass_of_methodNamed Bd.named
  have hnm := (name_of_methodNamed Bd.named Bd.method).1
  have X0 : Stand p l e ({ frames := 5, cells := 0, slots := 0, locals := 66 } : Room) s m #[(.ref a1), (.int (0 : Int32)), (.int (1 : Int32))] below meth c s₁ [] 0 0 := Stand.of_body Bd
  have e0 : s₁.heap = h0 := by rw [← hh, Bd.state]; rfl
  have N0 := Fr.nil n0
  refine GoW.mk ?_
  refine GoW.st (fun t k => castTop (ef8_rmD01 m a1) k) ?_
  show GoW p e below s (QD01 Z a1 c0 c1 c2 c3 cs vf h0 n0) 0 0 (s₁.setTop (mkF m 0 (Sh7 a1 0 1) []))
  refine GoW.sg (mkF m 1 (Sh7 a1 0 1) [(.int 0)]) (fun t k => XS.iloadN X0.here hx rfl (hb hby d8_0) rfl k) ?_
  refine GoW.sg (mkF m 2 (Sh7 a1 0 1) [(.int 1), (.int 0)]) (fun t k => XS.iloadN X0.here hx rfl (hb hby d8_1) rfl k) ?_
  refine GoW.sg (mkF m 7 (Sh7 a1 0 1) []) (fun t k => XS.icmpYes X0.here hx rfl (pc0 := 2) (pc' := 7) rfl (hb hby d8_2) rfl (by decide) (by decide) (by decide) k) ?_
  refine GoW.sg (mkF m 8 (Sh7 a1 0 1) [(.int 0)]) (fun t k => XS.iloadN X0.here hx rfl (hb hby d8_7) rfl k) ?_
  refine GoW.sg (mkF m 9 (Sh15 a1 0 1 0) []) (fun t k => XS.istoreN X0.here hx rfl (hb hby d8_8) rfl (l' := (Sh15 a1 0 1 0)) rfl k) ?_
  refine GoW.sg (mkF m 10 (Sh15 a1 0 1 0) [(.int 0)]) (fun t k => XS.iloadN X0.here hx rfl (hb hby d8_9) rfl k) ?_
  refine GoW.sg (mkF m 11 (Sh15 a1 0 1 0) [(.int 1), (.int 0)]) (fun t k => XS.iloadN X0.here hx rfl (hb hby d8_10) rfl k) ?_
  refine GoW.sg (mkF m 14 (Sh15 a1 0 1 0) []) (fun t k => XS.icmpNo X0.here hx rfl (hb hby d8_11) rfl (by decide) k) ?_
  refine GoW.sg (mkF m 15 (Sh15 a1 0 1 0) [(.ref a1)]) (fun t k => XS.aloadN X0.here hx rfl (hb hby d8_14) rfl rfl k) ?_
  refine GoW.sg (mkF m 16 (Sh15 a1 0 1 0) [(.int 0), (.ref a1)]) (fun t k => XS.iloadN X0.here hx rfl (hb hby d8_15) rfl k) ?_
  obtain ⟨cq1150, kq1150, q1150a, q1150b, q1150c⟩ := isOf hZ e0 P0
  obtain ⟨_, _, ⟨T1150, L1150, k1150, n1150⟩, -, X1150, ⟨Lc1150, hQ1150, l1150, y1150, z1150⟩, st1150⟩ := X0.virtualBack hx (y := (⟨"java/lang/String", "charAt", "(I)C"⟩ : MethodName)) (z := Y9) hown (mvT hZ (ww hw 39 rfl)) (mvT hZ (ww hw 40 rfl)) (notFace_of_selects (args := #[]) (mvT hZ (ww hw 42 rfl))) (mvT hZ (ww hw 42 rfl)) (mvT hZ (ww hw 41 rfl)) (by decide) (backOf (W := 0) (rmCh0 l Z a0 hw a1 c0 c1 c2 c3 cs vf h0 n0 P0 hS P1 P2 P3 P4 P5 hvf lo_c0 hi_c0 lo_c1 hi_c1 lo_c2 hi_c2 lo_c3 hi_c3 ncs) hZ (ww hw 43 rfl) (ww hw 3 rfl) (by decide) (by decide)) q1150a q1150c (g := (mkF m 16 (Sh15 a1 0 1 0) [(.int 0), (.ref a1)])) rfl (by rw [hml]; rfl) (Steps.refl _) (argsL := [(.int (0 : Int32))]) (rest := []) (lenOf pd_28I29C rfl) rfl (by show 2 * 0 + _ ≤ _; exact Nat.le_of_eq rfl) (hb hby d8_16) (fun _ _ => ⟨rfl, e0, (by decide : 0 + 0 ≤ _), (by decide : 0 + 0 ≤ _)⟩)
  dsimp only [Pt.U, Pt.locs, Pt.cells, Pt.slots] at X1150 l1150 y1150 z1150 st1150 hQ1150
  subst l1150 y1150 z1150
  obtain ⟨rfl, N1150q, e1150⟩ := hQ1150
  have N1150 := Fr.app N0 N1150q
  refine GoW.sg (mkF m 19 (Sh15 a1 0 1 0) [(.int c0)]) (fun t k => st1150.trans k) ?_
  refine GoW.sg (mkF m 21 (Sh16 a1 0 1 0 c0) []) (fun t k => XS.istore X1150.here hx rfl (hb hby d8_19) rfl (l' := (Sh16 a1 0 1 0 c0)) rfl k) ?_
  refine GoW.sg (mkF m 23 (Sh16 a1 0 1 0 c0) [(.int c0)]) (fun t k => XS.iload X1150.here hx rfl (hb hby d8_21) rfl k) ?_
  refine GoW.sg (mkF m 25 (Sh16 a1 0 1 0 c0) [(.int 48), (.int c0)]) (fun t k => XS.bipush X1150.here hx rfl (hb hby d8_23) k) ?_
  by_cases c1151 : c0 < (48 : Int32)
  · refine GoW.sg (mkF m 35 (Sh16 a1 0 1 0 c0) []) (fun t k => XS.icmpYes X1150.here hx rfl (pc0 := 25) (pc' := 35) rfl (hb hby d8_25) rfl (tlt c1151).1 (by decide) (by decide) k) ?_
    refine GoW.sg (mkF m 36 (Sh16 a1 0 1 0 c0) [(.int 0)]) (fun t k => XS.iconst X1150.here hx rfl (hb hby d8_35) k) ?_
    refine GoW.retN X1150 hx (t := .boolean) Bd.returns (by simp) (hb hby d8_36) Bd.notSynchronized ?_ (by decide) (by decide)
    rw [e1150]
    have hq : (FD01 c0 c1 c2 c3 cs) = (0 : Int32) := by unfold FD01; rw [if_pos c1151]; try rfl
    exact ⟨by rw [hq] <;> rfl, N1150, rfl⟩
  · refine GoW.sg (mkF m 28 (Sh16 a1 0 1 0 c0) []) (fun t k => XS.icmpNo X1150.here hx rfl (hb hby d8_25) rfl (flt c1151).1 k) ?_
    refine GoW.sg (mkF m 30 (Sh16 a1 0 1 0 c0) [(.int c0)]) (fun t k => XS.iload X1150.here hx rfl (hb hby d8_28) rfl k) ?_
    refine GoW.sg (mkF m 32 (Sh16 a1 0 1 0 c0) [(.int 57), (.int c0)]) (fun t k => XS.bipush X1150.here hx rfl (hb hby d8_30) k) ?_
    by_cases c1152 : (57 : Int32) < c0
    · refine GoW.sg (mkF m 35 (Sh16 a1 0 1 0 c0) []) (fun t k => XS.icmpNo X1150.here hx rfl (hb hby d8_32) rfl (tlt c1152).2.2.2 k) ?_
      refine GoW.sg (mkF m 36 (Sh16 a1 0 1 0 c0) [(.int 0)]) (fun t k => XS.iconst X1150.here hx rfl (hb hby d8_35) k) ?_
      refine GoW.retN X1150 hx (t := .boolean) Bd.returns (by simp) (hb hby d8_36) Bd.notSynchronized ?_ (by decide) (by decide)
      rw [e1150]
      have hq : (FD01 c0 c1 c2 c3 cs) = (0 : Int32) := by unfold FD01; rw [if_neg c1151, if_pos c1152]; try rfl
      exact ⟨by rw [hq] <;> rfl, N1150, rfl⟩
    · refine GoW.sg (mkF m 37 (Sh16 a1 0 1 0 c0) []) (fun t k => XS.icmpYes X1150.here hx rfl (pc0 := 32) (pc' := 37) rfl (hb hby d8_32) rfl (flt c1152).2.2.2 (by decide) (by decide) k) ?_
      refine GoW.sg (mkF m 40 (Sh16 a1 0 1 1 c0) []) (fun t k => XS.iinc X1150.here hx rfl (hb hby d8_37) rfl (l' := (Sh16 a1 0 1 1 c0)) rfl k) ?_
      refine GoW.sg (mkF m 9 (Sh16 a1 0 1 1 c0) []) (fun t k => XS.goto X1150.here hx rfl (pc0 := 40) (pc' := 9) rfl (hb hby d8_40) (by decide) (by decide) k) ?_
      refine GoW.sg (mkF m 10 (Sh16 a1 0 1 1 c0) [(.int 1)]) (fun t k => XS.iloadN X1150.here hx rfl (hb hby d8_9) rfl k) ?_
      refine GoW.sg (mkF m 11 (Sh16 a1 0 1 1 c0) [(.int 1), (.int 1)]) (fun t k => XS.iloadN X1150.here hx rfl (hb hby d8_10) rfl k) ?_
      refine GoW.sg (mkF m 43 (Sh16 a1 0 1 1 c0) []) (fun t k => XS.icmpYes X1150.here hx rfl (pc0 := 11) (pc' := 43) rfl (hb hby d8_11) rfl (by decide) (by decide) (by decide) k) ?_
      refine GoW.sg (mkF m 44 (Sh16 a1 0 1 1 c0) [(.int 1)]) (fun t k => XS.iconst X1150.here hx rfl (hb hby d8_43) k) ?_
      refine GoW.retN X1150 hx (t := .boolean) Bd.returns (by simp) (hb hby d8_44) Bd.notSynchronized ?_ (by decide) (by decide)
      rw [e1150]
      have hq : (FD01 c0 c1 c2 c3 cs) = (1 : Int32) := by unfold FD01; rw [if_neg c1151, if_neg c1152]; try rfl
      exact ⟨by rw [hq] <;> rfl, N1150, rfl⟩
def FD02 (c0 : Int32) (c1 : Int32) (c2 : Int32) (c3 : Int32) (cs : Int32) : Int32 := (if c0 < (48 : Int32) then (0 : Int32) else (if (57 : Int32) < c0 then (0 : Int32) else (if c1 < (48 : Int32) then (0 : Int32) else (if (57 : Int32) < c1 then (0 : Int32) else (1 : Int32)))))
def QD02 (Z : State) (a1 : Addr) (c0 : Int32) (c1 : Int32) (c2 : Int32) (c3 : Int32) (cs : Int32) (vf : Value) (h0 : Heap) (n0 : Nat) (v : Option Value) (h : Heap) (L : List Loc) : Prop := v = some (.int (FD02 c0 c1 c2 c3 cs)) ∧ Fr n0 L ∧ (h = h0)
theorem ef8_rmD02 (m : MethodId) (a1 : Addr) : entryFrame m #[(.ref a1), (.int (0 : Int32)), (.int (2 : Int32))] 5 = (mkF m 0 #[.val (.ref a1), .val (.int 0), .val (.int 2), .unset, .unset] []) := by first | (simp [entryFrame, mkF, argsToLocals, Value.category, maxLocals]; done) | rfl
set_option maxRecDepth 65536 in
set_option maxHeartbeats 40000000 in
theorem rmD02 (l : Launch) (Z : State) (a0 : Array Value) (hw : ∀ d ∈ tables_1, d.before a0 Z = true) (ws : List Jvm.Cond) (a1 : Addr) (c0 : Int32) (c1 : Int32) (c2 : Int32) (c3 : Int32) (cs : Int32) (vf : Value) (h0 : Heap) (n0 : Nat) (P0 : Exa Z h0 a1 "java/lang/String") (P1 : Sta Z h0 "java/lang/String" "COMPACT_STRINGS" "Z" (.int cs)) (P2 : Sta Z h0 "java/lang/StringUTF16" "$assertionsDisabled" "Z" (.int (1 : Int32))) (P3 : Sta Z h0 "java/lang/StringUTF16" "HI_BYTE_SHIFT" "I" (.int (0 : Int32))) (P4 : Sta Z h0 "java/lang/StringUTF16" "LO_BYTE_SHIFT" "I" (.int (8 : Int32))) (P5 : Sta Z h0 "jdk/internal/util/Preconditions" "SIOOBE_FORMATTER" "Ljava/util/function/BiFunction;" vf)    (hS : Str4 Z h0 a1 c0 c1 c2 c3) (hvf : vf.isRef = true) (lo_c0 : ¬ (c0 < (0 : Int32))) (hi_c0 : ¬ ((65535 : Int32) < c0)) (lo_c1 : ¬ (c1 < (0 : Int32))) (hi_c1 : ¬ ((65535 : Int32) < c1)) (lo_c2 : ¬ (c2 < (0 : Int32))) (hi_c2 : ¬ ((65535 : Int32) < c2)) (lo_c3 : ¬ (c3 < (0 : Int32))) (hi_c3 : ¬ ((65535 : Int32) < c3)) (ncs : ¬ (cs = (0 : Int32)))  :
    MetFree l Y8 (head1 (Jvm.Cond.code Y8 prog_10_method_2_code 5 (some .boolean) :: ws) ({ frames := 5, cells := 0, slots := 0, locals := 66 } : Room)) (fun a U => a = #[(.ref a1), (.int (0 : Int32)), (.int (2 : Int32))] ∧ Z.Warmed39 U.vm ∧ U.heap = h0) (fun _ _ _ _ _ => True) (fun _ U o U' => ∃ v L, o = .returned v ∧ (QD02 Z a1 c0 c1 c2 c3 cs vf h0 n0) v U'.heap L ∧ FrameEnd U o U' L 0 0) := by
  refine MetFree.of_bodySF (plainFor_of_name pn_com_example_throttle_throttle_SipSyntax) hisR ?_
  intro p e s m args below meth c s₁ Bd hml0 hP hK
  obtain ⟨rfl, hZ, hh⟩ := hP
  have hx := Bd.exec
  have hby := Bd.bytes
  have hml : c.maxLocals = 5 := hml0
  have hown : s.vm.findClass "com/example/throttle/throttle/SipSyntax" = some m.cls := findClass_of_methodNamed Bd.named
  have hnm := (name_of_methodNamed Bd.named Bd.method).1
  have X0 : Stand p l e ({ frames := 5, cells := 0, slots := 0, locals := 66 } : Room) s m #[(.ref a1), (.int (0 : Int32)), (.int (2 : Int32))] below meth c s₁ [] 0 0 := Stand.of_body Bd
  have e0 : s₁.heap = h0 := by rw [← hh, Bd.state]; rfl
  have N0 := Fr.nil n0
  refine GoW.mk ?_
  refine GoW.st (fun t k => castTop (ef8_rmD02 m a1) k) ?_
  show GoW p e below s (QD02 Z a1 c0 c1 c2 c3 cs vf h0 n0) 0 0 (s₁.setTop (mkF m 0 (Sh7 a1 0 2) []))
  refine GoW.sg (mkF m 1 (Sh7 a1 0 2) [(.int 0)]) (fun t k => XS.iloadN X0.here hx rfl (hb hby d8_0) rfl k) ?_
  refine GoW.sg (mkF m 2 (Sh7 a1 0 2) [(.int 2), (.int 0)]) (fun t k => XS.iloadN X0.here hx rfl (hb hby d8_1) rfl k) ?_
  refine GoW.sg (mkF m 7 (Sh7 a1 0 2) []) (fun t k => XS.icmpYes X0.here hx rfl (pc0 := 2) (pc' := 7) rfl (hb hby d8_2) rfl (by decide) (by decide) (by decide) k) ?_
  refine GoW.sg (mkF m 8 (Sh7 a1 0 2) [(.int 0)]) (fun t k => XS.iloadN X0.here hx rfl (hb hby d8_7) rfl k) ?_
  refine GoW.sg (mkF m 9 (Sh15 a1 0 2 0) []) (fun t k => XS.istoreN X0.here hx rfl (hb hby d8_8) rfl (l' := (Sh15 a1 0 2 0)) rfl k) ?_
  refine GoW.sg (mkF m 10 (Sh15 a1 0 2 0) [(.int 0)]) (fun t k => XS.iloadN X0.here hx rfl (hb hby d8_9) rfl k) ?_
  refine GoW.sg (mkF m 11 (Sh15 a1 0 2 0) [(.int 2), (.int 0)]) (fun t k => XS.iloadN X0.here hx rfl (hb hby d8_10) rfl k) ?_
  refine GoW.sg (mkF m 14 (Sh15 a1 0 2 0) []) (fun t k => XS.icmpNo X0.here hx rfl (hb hby d8_11) rfl (by decide) k) ?_
  refine GoW.sg (mkF m 15 (Sh15 a1 0 2 0) [(.ref a1)]) (fun t k => XS.aloadN X0.here hx rfl (hb hby d8_14) rfl rfl k) ?_
  refine GoW.sg (mkF m 16 (Sh15 a1 0 2 0) [(.int 0), (.ref a1)]) (fun t k => XS.iloadN X0.here hx rfl (hb hby d8_15) rfl k) ?_
  obtain ⟨cq1153, kq1153, q1153a, q1153b, q1153c⟩ := isOf hZ e0 P0
  obtain ⟨_, _, ⟨T1153, L1153, k1153, n1153⟩, -, X1153, ⟨Lc1153, hQ1153, l1153, y1153, z1153⟩, st1153⟩ := X0.virtualBack hx (y := (⟨"java/lang/String", "charAt", "(I)C"⟩ : MethodName)) (z := Y9) hown (mvT hZ (ww hw 39 rfl)) (mvT hZ (ww hw 40 rfl)) (notFace_of_selects (args := #[]) (mvT hZ (ww hw 42 rfl))) (mvT hZ (ww hw 42 rfl)) (mvT hZ (ww hw 41 rfl)) (by decide) (backOf (W := 0) (rmCh0 l Z a0 hw a1 c0 c1 c2 c3 cs vf h0 n0 P0 hS P1 P2 P3 P4 P5 hvf lo_c0 hi_c0 lo_c1 hi_c1 lo_c2 hi_c2 lo_c3 hi_c3 ncs) hZ (ww hw 43 rfl) (ww hw 3 rfl) (by decide) (by decide)) q1153a q1153c (g := (mkF m 16 (Sh15 a1 0 2 0) [(.int 0), (.ref a1)])) rfl (by rw [hml]; rfl) (Steps.refl _) (argsL := [(.int (0 : Int32))]) (rest := []) (lenOf pd_28I29C rfl) rfl (by show 2 * 0 + _ ≤ _; exact Nat.le_of_eq rfl) (hb hby d8_16) (fun _ _ => ⟨rfl, e0, (by decide : 0 + 0 ≤ _), (by decide : 0 + 0 ≤ _)⟩)
  dsimp only [Pt.U, Pt.locs, Pt.cells, Pt.slots] at X1153 l1153 y1153 z1153 st1153 hQ1153
  subst l1153 y1153 z1153
  obtain ⟨rfl, N1153q, e1153⟩ := hQ1153
  have N1153 := Fr.app N0 N1153q
  refine GoW.sg (mkF m 19 (Sh15 a1 0 2 0) [(.int c0)]) (fun t k => st1153.trans k) ?_
  refine GoW.sg (mkF m 21 (Sh16 a1 0 2 0 c0) []) (fun t k => XS.istore X1153.here hx rfl (hb hby d8_19) rfl (l' := (Sh16 a1 0 2 0 c0)) rfl k) ?_
  refine GoW.sg (mkF m 23 (Sh16 a1 0 2 0 c0) [(.int c0)]) (fun t k => XS.iload X1153.here hx rfl (hb hby d8_21) rfl k) ?_
  refine GoW.sg (mkF m 25 (Sh16 a1 0 2 0 c0) [(.int 48), (.int c0)]) (fun t k => XS.bipush X1153.here hx rfl (hb hby d8_23) k) ?_
  by_cases c1154 : c0 < (48 : Int32)
  · refine GoW.sg (mkF m 35 (Sh16 a1 0 2 0 c0) []) (fun t k => XS.icmpYes X1153.here hx rfl (pc0 := 25) (pc' := 35) rfl (hb hby d8_25) rfl (tlt c1154).1 (by decide) (by decide) k) ?_
    refine GoW.sg (mkF m 36 (Sh16 a1 0 2 0 c0) [(.int 0)]) (fun t k => XS.iconst X1153.here hx rfl (hb hby d8_35) k) ?_
    refine GoW.retN X1153 hx (t := .boolean) Bd.returns (by simp) (hb hby d8_36) Bd.notSynchronized ?_ (by decide) (by decide)
    rw [e1153]
    have hq : (FD02 c0 c1 c2 c3 cs) = (0 : Int32) := by unfold FD02; rw [if_pos c1154]; try rfl
    exact ⟨by rw [hq] <;> rfl, N1153, rfl⟩
  · refine GoW.sg (mkF m 28 (Sh16 a1 0 2 0 c0) []) (fun t k => XS.icmpNo X1153.here hx rfl (hb hby d8_25) rfl (flt c1154).1 k) ?_
    refine GoW.sg (mkF m 30 (Sh16 a1 0 2 0 c0) [(.int c0)]) (fun t k => XS.iload X1153.here hx rfl (hb hby d8_28) rfl k) ?_
    refine GoW.sg (mkF m 32 (Sh16 a1 0 2 0 c0) [(.int 57), (.int c0)]) (fun t k => XS.bipush X1153.here hx rfl (hb hby d8_30) k) ?_
    by_cases c1155 : (57 : Int32) < c0
    · refine GoW.sg (mkF m 35 (Sh16 a1 0 2 0 c0) []) (fun t k => XS.icmpNo X1153.here hx rfl (hb hby d8_32) rfl (tlt c1155).2.2.2 k) ?_
      refine GoW.sg (mkF m 36 (Sh16 a1 0 2 0 c0) [(.int 0)]) (fun t k => XS.iconst X1153.here hx rfl (hb hby d8_35) k) ?_
      refine GoW.retN X1153 hx (t := .boolean) Bd.returns (by simp) (hb hby d8_36) Bd.notSynchronized ?_ (by decide) (by decide)
      rw [e1153]
      have hq : (FD02 c0 c1 c2 c3 cs) = (0 : Int32) := by unfold FD02; rw [if_neg c1154, if_pos c1155]; try rfl
      exact ⟨by rw [hq] <;> rfl, N1153, rfl⟩
    · refine GoW.sg (mkF m 37 (Sh16 a1 0 2 0 c0) []) (fun t k => XS.icmpYes X1153.here hx rfl (pc0 := 32) (pc' := 37) rfl (hb hby d8_32) rfl (flt c1155).2.2.2 (by decide) (by decide) k) ?_
      refine GoW.sg (mkF m 40 (Sh16 a1 0 2 1 c0) []) (fun t k => XS.iinc X1153.here hx rfl (hb hby d8_37) rfl (l' := (Sh16 a1 0 2 1 c0)) rfl k) ?_
      refine GoW.sg (mkF m 9 (Sh16 a1 0 2 1 c0) []) (fun t k => XS.goto X1153.here hx rfl (pc0 := 40) (pc' := 9) rfl (hb hby d8_40) (by decide) (by decide) k) ?_
      refine GoW.sg (mkF m 10 (Sh16 a1 0 2 1 c0) [(.int 1)]) (fun t k => XS.iloadN X1153.here hx rfl (hb hby d8_9) rfl k) ?_
      refine GoW.sg (mkF m 11 (Sh16 a1 0 2 1 c0) [(.int 2), (.int 1)]) (fun t k => XS.iloadN X1153.here hx rfl (hb hby d8_10) rfl k) ?_
      refine GoW.sg (mkF m 14 (Sh16 a1 0 2 1 c0) []) (fun t k => XS.icmpNo X1153.here hx rfl (hb hby d8_11) rfl (by decide) k) ?_
      refine GoW.sg (mkF m 15 (Sh16 a1 0 2 1 c0) [(.ref a1)]) (fun t k => XS.aloadN X1153.here hx rfl (hb hby d8_14) rfl rfl k) ?_
      refine GoW.sg (mkF m 16 (Sh16 a1 0 2 1 c0) [(.int 1), (.ref a1)]) (fun t k => XS.iloadN X1153.here hx rfl (hb hby d8_15) rfl k) ?_
      obtain ⟨cq1156, kq1156, q1156a, q1156b, q1156c⟩ := isOf hZ e1153 P0
      obtain ⟨_, _, ⟨T1156, L1156, k1156, n1156⟩, -, X1156, ⟨Lc1156, hQ1156, l1156, y1156, z1156⟩, st1156⟩ := X1153.virtualBack hx (y := (⟨"java/lang/String", "charAt", "(I)C"⟩ : MethodName)) (z := Y9) hown (mvT hZ (ww hw 39 rfl)) (mvT hZ (ww hw 40 rfl)) (notFace_of_selects (args := #[]) (mvT hZ (ww hw 42 rfl))) (mvT hZ (ww hw 42 rfl)) (mvT hZ (ww hw 41 rfl)) (by decide) (backOf (W := 0) (rmCh1 l Z a0 hw a1 c0 c1 c2 c3 cs vf h0 n0 P0 hS P1 P2 P3 P4 P5 hvf lo_c0 hi_c0 lo_c1 hi_c1 lo_c2 hi_c2 lo_c3 hi_c3 ncs) hZ (ww hw 43 rfl) (ww hw 3 rfl) (by decide) (by decide)) q1156a q1156c (g := (mkF m 16 (Sh16 a1 0 2 1 c0) [(.int 1), (.ref a1)])) rfl (by rw [hml]; rfl) (Steps.refl _) (argsL := [(.int (1 : Int32))]) (rest := []) (lenOf pd_28I29C rfl) rfl (by show 2 * 0 + _ ≤ _; exact Nat.le_of_eq rfl) (hb hby d8_16) (fun _ _ => ⟨rfl, e1153, (by decide : 0 + 0 ≤ _), (by decide : 0 + 0 ≤ _)⟩)
      dsimp only [Pt.U, Pt.locs, Pt.cells, Pt.slots] at X1156 l1156 y1156 z1156 st1156 hQ1156
      subst l1156 y1156 z1156
      obtain ⟨rfl, N1156q, e1156⟩ := hQ1156
      have N1156 := Fr.app N1153 N1156q
      refine GoW.sg (mkF m 19 (Sh16 a1 0 2 1 c0) [(.int c1)]) (fun t k => st1156.trans k) ?_
      refine GoW.sg (mkF m 21 (Sh16 a1 0 2 1 c1) []) (fun t k => XS.istore X1156.here hx rfl (hb hby d8_19) rfl (l' := (Sh16 a1 0 2 1 c1)) rfl k) ?_
      refine GoW.sg (mkF m 23 (Sh16 a1 0 2 1 c1) [(.int c1)]) (fun t k => XS.iload X1156.here hx rfl (hb hby d8_21) rfl k) ?_
      refine GoW.sg (mkF m 25 (Sh16 a1 0 2 1 c1) [(.int 48), (.int c1)]) (fun t k => XS.bipush X1156.here hx rfl (hb hby d8_23) k) ?_
      by_cases c1157 : c1 < (48 : Int32)
      · refine GoW.sg (mkF m 35 (Sh16 a1 0 2 1 c1) []) (fun t k => XS.icmpYes X1156.here hx rfl (pc0 := 25) (pc' := 35) rfl (hb hby d8_25) rfl (tlt c1157).1 (by decide) (by decide) k) ?_
        refine GoW.sg (mkF m 36 (Sh16 a1 0 2 1 c1) [(.int 0)]) (fun t k => XS.iconst X1156.here hx rfl (hb hby d8_35) k) ?_
        refine GoW.retN X1156 hx (t := .boolean) Bd.returns (by simp) (hb hby d8_36) Bd.notSynchronized ?_ (by decide) (by decide)
        rw [e1156]
        have hq : (FD02 c0 c1 c2 c3 cs) = (0 : Int32) := by unfold FD02; rw [if_neg c1154, if_neg c1155, if_pos c1157]; try rfl
        exact ⟨by rw [hq] <;> rfl, N1156, rfl⟩
      · refine GoW.sg (mkF m 28 (Sh16 a1 0 2 1 c1) []) (fun t k => XS.icmpNo X1156.here hx rfl (hb hby d8_25) rfl (flt c1157).1 k) ?_
        refine GoW.sg (mkF m 30 (Sh16 a1 0 2 1 c1) [(.int c1)]) (fun t k => XS.iload X1156.here hx rfl (hb hby d8_28) rfl k) ?_
        refine GoW.sg (mkF m 32 (Sh16 a1 0 2 1 c1) [(.int 57), (.int c1)]) (fun t k => XS.bipush X1156.here hx rfl (hb hby d8_30) k) ?_
        by_cases c1158 : (57 : Int32) < c1
        · refine GoW.sg (mkF m 35 (Sh16 a1 0 2 1 c1) []) (fun t k => XS.icmpNo X1156.here hx rfl (hb hby d8_32) rfl (tlt c1158).2.2.2 k) ?_
          refine GoW.sg (mkF m 36 (Sh16 a1 0 2 1 c1) [(.int 0)]) (fun t k => XS.iconst X1156.here hx rfl (hb hby d8_35) k) ?_
          refine GoW.retN X1156 hx (t := .boolean) Bd.returns (by simp) (hb hby d8_36) Bd.notSynchronized ?_ (by decide) (by decide)
          rw [e1156]
          have hq : (FD02 c0 c1 c2 c3 cs) = (0 : Int32) := by unfold FD02; rw [if_neg c1154, if_neg c1155, if_neg c1157, if_pos c1158]; try rfl
          exact ⟨by rw [hq] <;> rfl, N1156, rfl⟩
        · refine GoW.sg (mkF m 37 (Sh16 a1 0 2 1 c1) []) (fun t k => XS.icmpYes X1156.here hx rfl (pc0 := 32) (pc' := 37) rfl (hb hby d8_32) rfl (flt c1158).2.2.2 (by decide) (by decide) k) ?_
          refine GoW.sg (mkF m 40 (Sh16 a1 0 2 2 c1) []) (fun t k => XS.iinc X1156.here hx rfl (hb hby d8_37) rfl (l' := (Sh16 a1 0 2 2 c1)) rfl k) ?_
          refine GoW.sg (mkF m 9 (Sh16 a1 0 2 2 c1) []) (fun t k => XS.goto X1156.here hx rfl (pc0 := 40) (pc' := 9) rfl (hb hby d8_40) (by decide) (by decide) k) ?_
          refine GoW.sg (mkF m 10 (Sh16 a1 0 2 2 c1) [(.int 2)]) (fun t k => XS.iloadN X1156.here hx rfl (hb hby d8_9) rfl k) ?_
          refine GoW.sg (mkF m 11 (Sh16 a1 0 2 2 c1) [(.int 2), (.int 2)]) (fun t k => XS.iloadN X1156.here hx rfl (hb hby d8_10) rfl k) ?_
          refine GoW.sg (mkF m 43 (Sh16 a1 0 2 2 c1) []) (fun t k => XS.icmpYes X1156.here hx rfl (pc0 := 11) (pc' := 43) rfl (hb hby d8_11) rfl (by decide) (by decide) (by decide) k) ?_
          refine GoW.sg (mkF m 44 (Sh16 a1 0 2 2 c1) [(.int 1)]) (fun t k => XS.iconst X1156.here hx rfl (hb hby d8_43) k) ?_
          refine GoW.retN X1156 hx (t := .boolean) Bd.returns (by simp) (hb hby d8_44) Bd.notSynchronized ?_ (by decide) (by decide)
          rw [e1156]
          have hq : (FD02 c0 c1 c2 c3 cs) = (1 : Int32) := by unfold FD02; rw [if_neg c1154, if_neg c1155, if_neg c1157, if_neg c1158]; try rfl
          exact ⟨by rw [hq] <;> rfl, N1156, rfl⟩
def FD03 (c0 : Int32) (c1 : Int32) (c2 : Int32) (c3 : Int32) (cs : Int32) : Int32 := (if c0 < (48 : Int32) then (0 : Int32) else (if (57 : Int32) < c0 then (0 : Int32) else (if c1 < (48 : Int32) then (0 : Int32) else (if (57 : Int32) < c1 then (0 : Int32) else (if c2 < (48 : Int32) then (0 : Int32) else (if (57 : Int32) < c2 then (0 : Int32) else (1 : Int32)))))))
def QD03 (Z : State) (a1 : Addr) (c0 : Int32) (c1 : Int32) (c2 : Int32) (c3 : Int32) (cs : Int32) (vf : Value) (h0 : Heap) (n0 : Nat) (v : Option Value) (h : Heap) (L : List Loc) : Prop := v = some (.int (FD03 c0 c1 c2 c3 cs)) ∧ Fr n0 L ∧ (h = h0)
theorem ef8_rmD03 (m : MethodId) (a1 : Addr) : entryFrame m #[(.ref a1), (.int (0 : Int32)), (.int (3 : Int32))] 5 = (mkF m 0 #[.val (.ref a1), .val (.int 0), .val (.int 3), .unset, .unset] []) := by first | (simp [entryFrame, mkF, argsToLocals, Value.category, maxLocals]; done) | rfl
set_option maxRecDepth 65536 in
set_option maxHeartbeats 40000000 in
theorem rmD03 (l : Launch) (Z : State) (a0 : Array Value) (hw : ∀ d ∈ tables_1, d.before a0 Z = true) (ws : List Jvm.Cond) (a1 : Addr) (c0 : Int32) (c1 : Int32) (c2 : Int32) (c3 : Int32) (cs : Int32) (vf : Value) (h0 : Heap) (n0 : Nat) (P0 : Exa Z h0 a1 "java/lang/String") (P1 : Sta Z h0 "java/lang/String" "COMPACT_STRINGS" "Z" (.int cs)) (P2 : Sta Z h0 "java/lang/StringUTF16" "$assertionsDisabled" "Z" (.int (1 : Int32))) (P3 : Sta Z h0 "java/lang/StringUTF16" "HI_BYTE_SHIFT" "I" (.int (0 : Int32))) (P4 : Sta Z h0 "java/lang/StringUTF16" "LO_BYTE_SHIFT" "I" (.int (8 : Int32))) (P5 : Sta Z h0 "jdk/internal/util/Preconditions" "SIOOBE_FORMATTER" "Ljava/util/function/BiFunction;" vf)    (hS : Str4 Z h0 a1 c0 c1 c2 c3) (hvf : vf.isRef = true) (lo_c0 : ¬ (c0 < (0 : Int32))) (hi_c0 : ¬ ((65535 : Int32) < c0)) (lo_c1 : ¬ (c1 < (0 : Int32))) (hi_c1 : ¬ ((65535 : Int32) < c1)) (lo_c2 : ¬ (c2 < (0 : Int32))) (hi_c2 : ¬ ((65535 : Int32) < c2)) (lo_c3 : ¬ (c3 < (0 : Int32))) (hi_c3 : ¬ ((65535 : Int32) < c3)) (ncs : ¬ (cs = (0 : Int32)))  :
    MetFree l Y8 (head1 (Jvm.Cond.code Y8 prog_10_method_2_code 5 (some .boolean) :: ws) ({ frames := 5, cells := 0, slots := 0, locals := 66 } : Room)) (fun a U => a = #[(.ref a1), (.int (0 : Int32)), (.int (3 : Int32))] ∧ Z.Warmed39 U.vm ∧ U.heap = h0) (fun _ _ _ _ _ => True) (fun _ U o U' => ∃ v L, o = .returned v ∧ (QD03 Z a1 c0 c1 c2 c3 cs vf h0 n0) v U'.heap L ∧ FrameEnd U o U' L 0 0) := by
  refine MetFree.of_bodySF (plainFor_of_name pn_com_example_throttle_throttle_SipSyntax) hisR ?_
  intro p e s m args below meth c s₁ Bd hml0 hP hK
  obtain ⟨rfl, hZ, hh⟩ := hP
  have hx := Bd.exec
  have hby := Bd.bytes
  have hml : c.maxLocals = 5 := hml0
  have hown : s.vm.findClass "com/example/throttle/throttle/SipSyntax" = some m.cls := findClass_of_methodNamed Bd.named
  have hnm := (name_of_methodNamed Bd.named Bd.method).1
  have X0 : Stand p l e ({ frames := 5, cells := 0, slots := 0, locals := 66 } : Room) s m #[(.ref a1), (.int (0 : Int32)), (.int (3 : Int32))] below meth c s₁ [] 0 0 := Stand.of_body Bd
  have e0 : s₁.heap = h0 := by rw [← hh, Bd.state]; rfl
  have N0 := Fr.nil n0
  refine GoW.mk ?_
  refine GoW.st (fun t k => castTop (ef8_rmD03 m a1) k) ?_
  show GoW p e below s (QD03 Z a1 c0 c1 c2 c3 cs vf h0 n0) 0 0 (s₁.setTop (mkF m 0 (Sh7 a1 0 3) []))
  refine GoW.sg (mkF m 1 (Sh7 a1 0 3) [(.int 0)]) (fun t k => XS.iloadN X0.here hx rfl (hb hby d8_0) rfl k) ?_
  refine GoW.sg (mkF m 2 (Sh7 a1 0 3) [(.int 3), (.int 0)]) (fun t k => XS.iloadN X0.here hx rfl (hb hby d8_1) rfl k) ?_
  refine GoW.sg (mkF m 7 (Sh7 a1 0 3) []) (fun t k => XS.icmpYes X0.here hx rfl (pc0 := 2) (pc' := 7) rfl (hb hby d8_2) rfl (by decide) (by decide) (by decide) k) ?_
  refine GoW.sg (mkF m 8 (Sh7 a1 0 3) [(.int 0)]) (fun t k => XS.iloadN X0.here hx rfl (hb hby d8_7) rfl k) ?_
  refine GoW.sg (mkF m 9 (Sh15 a1 0 3 0) []) (fun t k => XS.istoreN X0.here hx rfl (hb hby d8_8) rfl (l' := (Sh15 a1 0 3 0)) rfl k) ?_
  refine GoW.sg (mkF m 10 (Sh15 a1 0 3 0) [(.int 0)]) (fun t k => XS.iloadN X0.here hx rfl (hb hby d8_9) rfl k) ?_
  refine GoW.sg (mkF m 11 (Sh15 a1 0 3 0) [(.int 3), (.int 0)]) (fun t k => XS.iloadN X0.here hx rfl (hb hby d8_10) rfl k) ?_
  refine GoW.sg (mkF m 14 (Sh15 a1 0 3 0) []) (fun t k => XS.icmpNo X0.here hx rfl (hb hby d8_11) rfl (by decide) k) ?_
  refine GoW.sg (mkF m 15 (Sh15 a1 0 3 0) [(.ref a1)]) (fun t k => XS.aloadN X0.here hx rfl (hb hby d8_14) rfl rfl k) ?_
  refine GoW.sg (mkF m 16 (Sh15 a1 0 3 0) [(.int 0), (.ref a1)]) (fun t k => XS.iloadN X0.here hx rfl (hb hby d8_15) rfl k) ?_
  obtain ⟨cq1159, kq1159, q1159a, q1159b, q1159c⟩ := isOf hZ e0 P0
  obtain ⟨_, _, ⟨T1159, L1159, k1159, n1159⟩, -, X1159, ⟨Lc1159, hQ1159, l1159, y1159, z1159⟩, st1159⟩ := X0.virtualBack hx (y := (⟨"java/lang/String", "charAt", "(I)C"⟩ : MethodName)) (z := Y9) hown (mvT hZ (ww hw 39 rfl)) (mvT hZ (ww hw 40 rfl)) (notFace_of_selects (args := #[]) (mvT hZ (ww hw 42 rfl))) (mvT hZ (ww hw 42 rfl)) (mvT hZ (ww hw 41 rfl)) (by decide) (backOf (W := 0) (rmCh0 l Z a0 hw a1 c0 c1 c2 c3 cs vf h0 n0 P0 hS P1 P2 P3 P4 P5 hvf lo_c0 hi_c0 lo_c1 hi_c1 lo_c2 hi_c2 lo_c3 hi_c3 ncs) hZ (ww hw 43 rfl) (ww hw 3 rfl) (by decide) (by decide)) q1159a q1159c (g := (mkF m 16 (Sh15 a1 0 3 0) [(.int 0), (.ref a1)])) rfl (by rw [hml]; rfl) (Steps.refl _) (argsL := [(.int (0 : Int32))]) (rest := []) (lenOf pd_28I29C rfl) rfl (by show 2 * 0 + _ ≤ _; exact Nat.le_of_eq rfl) (hb hby d8_16) (fun _ _ => ⟨rfl, e0, (by decide : 0 + 0 ≤ _), (by decide : 0 + 0 ≤ _)⟩)
  dsimp only [Pt.U, Pt.locs, Pt.cells, Pt.slots] at X1159 l1159 y1159 z1159 st1159 hQ1159
  subst l1159 y1159 z1159
  obtain ⟨rfl, N1159q, e1159⟩ := hQ1159
  have N1159 := Fr.app N0 N1159q
  refine GoW.sg (mkF m 19 (Sh15 a1 0 3 0) [(.int c0)]) (fun t k => st1159.trans k) ?_
  refine GoW.sg (mkF m 21 (Sh16 a1 0 3 0 c0) []) (fun t k => XS.istore X1159.here hx rfl (hb hby d8_19) rfl (l' := (Sh16 a1 0 3 0 c0)) rfl k) ?_
  refine GoW.sg (mkF m 23 (Sh16 a1 0 3 0 c0) [(.int c0)]) (fun t k => XS.iload X1159.here hx rfl (hb hby d8_21) rfl k) ?_
  refine GoW.sg (mkF m 25 (Sh16 a1 0 3 0 c0) [(.int 48), (.int c0)]) (fun t k => XS.bipush X1159.here hx rfl (hb hby d8_23) k) ?_
  by_cases c1160 : c0 < (48 : Int32)
  · refine GoW.sg (mkF m 35 (Sh16 a1 0 3 0 c0) []) (fun t k => XS.icmpYes X1159.here hx rfl (pc0 := 25) (pc' := 35) rfl (hb hby d8_25) rfl (tlt c1160).1 (by decide) (by decide) k) ?_
    refine GoW.sg (mkF m 36 (Sh16 a1 0 3 0 c0) [(.int 0)]) (fun t k => XS.iconst X1159.here hx rfl (hb hby d8_35) k) ?_
    refine GoW.retN X1159 hx (t := .boolean) Bd.returns (by simp) (hb hby d8_36) Bd.notSynchronized ?_ (by decide) (by decide)
    rw [e1159]
    have hq : (FD03 c0 c1 c2 c3 cs) = (0 : Int32) := by unfold FD03; rw [if_pos c1160]; try rfl
    exact ⟨by rw [hq] <;> rfl, N1159, rfl⟩
  · refine GoW.sg (mkF m 28 (Sh16 a1 0 3 0 c0) []) (fun t k => XS.icmpNo X1159.here hx rfl (hb hby d8_25) rfl (flt c1160).1 k) ?_
    refine GoW.sg (mkF m 30 (Sh16 a1 0 3 0 c0) [(.int c0)]) (fun t k => XS.iload X1159.here hx rfl (hb hby d8_28) rfl k) ?_
    refine GoW.sg (mkF m 32 (Sh16 a1 0 3 0 c0) [(.int 57), (.int c0)]) (fun t k => XS.bipush X1159.here hx rfl (hb hby d8_30) k) ?_
    by_cases c1161 : (57 : Int32) < c0
    · refine GoW.sg (mkF m 35 (Sh16 a1 0 3 0 c0) []) (fun t k => XS.icmpNo X1159.here hx rfl (hb hby d8_32) rfl (tlt c1161).2.2.2 k) ?_
      refine GoW.sg (mkF m 36 (Sh16 a1 0 3 0 c0) [(.int 0)]) (fun t k => XS.iconst X1159.here hx rfl (hb hby d8_35) k) ?_
      refine GoW.retN X1159 hx (t := .boolean) Bd.returns (by simp) (hb hby d8_36) Bd.notSynchronized ?_ (by decide) (by decide)
      rw [e1159]
      have hq : (FD03 c0 c1 c2 c3 cs) = (0 : Int32) := by unfold FD03; rw [if_neg c1160, if_pos c1161]; try rfl
      exact ⟨by rw [hq] <;> rfl, N1159, rfl⟩
    · refine GoW.sg (mkF m 37 (Sh16 a1 0 3 0 c0) []) (fun t k => XS.icmpYes X1159.here hx rfl (pc0 := 32) (pc' := 37) rfl (hb hby d8_32) rfl (flt c1161).2.2.2 (by decide) (by decide) k) ?_
      refine GoW.sg (mkF m 40 (Sh16 a1 0 3 1 c0) []) (fun t k => XS.iinc X1159.here hx rfl (hb hby d8_37) rfl (l' := (Sh16 a1 0 3 1 c0)) rfl k) ?_
      refine GoW.sg (mkF m 9 (Sh16 a1 0 3 1 c0) []) (fun t k => XS.goto X1159.here hx rfl (pc0 := 40) (pc' := 9) rfl (hb hby d8_40) (by decide) (by decide) k) ?_
      refine GoW.sg (mkF m 10 (Sh16 a1 0 3 1 c0) [(.int 1)]) (fun t k => XS.iloadN X1159.here hx rfl (hb hby d8_9) rfl k) ?_
      refine GoW.sg (mkF m 11 (Sh16 a1 0 3 1 c0) [(.int 3), (.int 1)]) (fun t k => XS.iloadN X1159.here hx rfl (hb hby d8_10) rfl k) ?_
      refine GoW.sg (mkF m 14 (Sh16 a1 0 3 1 c0) []) (fun t k => XS.icmpNo X1159.here hx rfl (hb hby d8_11) rfl (by decide) k) ?_
      refine GoW.sg (mkF m 15 (Sh16 a1 0 3 1 c0) [(.ref a1)]) (fun t k => XS.aloadN X1159.here hx rfl (hb hby d8_14) rfl rfl k) ?_
      refine GoW.sg (mkF m 16 (Sh16 a1 0 3 1 c0) [(.int 1), (.ref a1)]) (fun t k => XS.iloadN X1159.here hx rfl (hb hby d8_15) rfl k) ?_
      obtain ⟨cq1162, kq1162, q1162a, q1162b, q1162c⟩ := isOf hZ e1159 P0
      obtain ⟨_, _, ⟨T1162, L1162, k1162, n1162⟩, -, X1162, ⟨Lc1162, hQ1162, l1162, y1162, z1162⟩, st1162⟩ := X1159.virtualBack hx (y := (⟨"java/lang/String", "charAt", "(I)C"⟩ : MethodName)) (z := Y9) hown (mvT hZ (ww hw 39 rfl)) (mvT hZ (ww hw 40 rfl)) (notFace_of_selects (args := #[]) (mvT hZ (ww hw 42 rfl))) (mvT hZ (ww hw 42 rfl)) (mvT hZ (ww hw 41 rfl)) (by decide) (backOf (W := 0) (rmCh1 l Z a0 hw a1 c0 c1 c2 c3 cs vf h0 n0 P0 hS P1 P2 P3 P4 P5 hvf lo_c0 hi_c0 lo_c1 hi_c1 lo_c2 hi_c2 lo_c3 hi_c3 ncs) hZ (ww hw 43 rfl) (ww hw 3 rfl) (by decide) (by decide)) q1162a q1162c (g := (mkF m 16 (Sh16 a1 0 3 1 c0) [(.int 1), (.ref a1)])) rfl (by rw [hml]; rfl) (Steps.refl _) (argsL := [(.int (1 : Int32))]) (rest := []) (lenOf pd_28I29C rfl) rfl (by show 2 * 0 + _ ≤ _; exact Nat.le_of_eq rfl) (hb hby d8_16) (fun _ _ => ⟨rfl, e1159, (by decide : 0 + 0 ≤ _), (by decide : 0 + 0 ≤ _)⟩)
      dsimp only [Pt.U, Pt.locs, Pt.cells, Pt.slots] at X1162 l1162 y1162 z1162 st1162 hQ1162
      subst l1162 y1162 z1162
      obtain ⟨rfl, N1162q, e1162⟩ := hQ1162
      have N1162 := Fr.app N1159 N1162q
      refine GoW.sg (mkF m 19 (Sh16 a1 0 3 1 c0) [(.int c1)]) (fun t k => st1162.trans k) ?_
      refine GoW.sg (mkF m 21 (Sh16 a1 0 3 1 c1) []) (fun t k => XS.istore X1162.here hx rfl (hb hby d8_19) rfl (l' := (Sh16 a1 0 3 1 c1)) rfl k) ?_
      refine GoW.sg (mkF m 23 (Sh16 a1 0 3 1 c1) [(.int c1)]) (fun t k => XS.iload X1162.here hx rfl (hb hby d8_21) rfl k) ?_
      refine GoW.sg (mkF m 25 (Sh16 a1 0 3 1 c1) [(.int 48), (.int c1)]) (fun t k => XS.bipush X1162.here hx rfl (hb hby d8_23) k) ?_
      by_cases c1163 : c1 < (48 : Int32)
      · refine GoW.sg (mkF m 35 (Sh16 a1 0 3 1 c1) []) (fun t k => XS.icmpYes X1162.here hx rfl (pc0 := 25) (pc' := 35) rfl (hb hby d8_25) rfl (tlt c1163).1 (by decide) (by decide) k) ?_
        refine GoW.sg (mkF m 36 (Sh16 a1 0 3 1 c1) [(.int 0)]) (fun t k => XS.iconst X1162.here hx rfl (hb hby d8_35) k) ?_
        refine GoW.retN X1162 hx (t := .boolean) Bd.returns (by simp) (hb hby d8_36) Bd.notSynchronized ?_ (by decide) (by decide)
        rw [e1162]
        have hq : (FD03 c0 c1 c2 c3 cs) = (0 : Int32) := by unfold FD03; rw [if_neg c1160, if_neg c1161, if_pos c1163]; try rfl
        exact ⟨by rw [hq] <;> rfl, N1162, rfl⟩
      · refine GoW.sg (mkF m 28 (Sh16 a1 0 3 1 c1) []) (fun t k => XS.icmpNo X1162.here hx rfl (hb hby d8_25) rfl (flt c1163).1 k) ?_
        refine GoW.sg (mkF m 30 (Sh16 a1 0 3 1 c1) [(.int c1)]) (fun t k => XS.iload X1162.here hx rfl (hb hby d8_28) rfl k) ?_
        refine GoW.sg (mkF m 32 (Sh16 a1 0 3 1 c1) [(.int 57), (.int c1)]) (fun t k => XS.bipush X1162.here hx rfl (hb hby d8_30) k) ?_
        by_cases c1164 : (57 : Int32) < c1
        · refine GoW.sg (mkF m 35 (Sh16 a1 0 3 1 c1) []) (fun t k => XS.icmpNo X1162.here hx rfl (hb hby d8_32) rfl (tlt c1164).2.2.2 k) ?_
          refine GoW.sg (mkF m 36 (Sh16 a1 0 3 1 c1) [(.int 0)]) (fun t k => XS.iconst X1162.here hx rfl (hb hby d8_35) k) ?_
          refine GoW.retN X1162 hx (t := .boolean) Bd.returns (by simp) (hb hby d8_36) Bd.notSynchronized ?_ (by decide) (by decide)
          rw [e1162]
          have hq : (FD03 c0 c1 c2 c3 cs) = (0 : Int32) := by unfold FD03; rw [if_neg c1160, if_neg c1161, if_neg c1163, if_pos c1164]; try rfl
          exact ⟨by rw [hq] <;> rfl, N1162, rfl⟩
        · refine GoW.sg (mkF m 37 (Sh16 a1 0 3 1 c1) []) (fun t k => XS.icmpYes X1162.here hx rfl (pc0 := 32) (pc' := 37) rfl (hb hby d8_32) rfl (flt c1164).2.2.2 (by decide) (by decide) k) ?_
          refine GoW.sg (mkF m 40 (Sh16 a1 0 3 2 c1) []) (fun t k => XS.iinc X1162.here hx rfl (hb hby d8_37) rfl (l' := (Sh16 a1 0 3 2 c1)) rfl k) ?_
          refine GoW.sg (mkF m 9 (Sh16 a1 0 3 2 c1) []) (fun t k => XS.goto X1162.here hx rfl (pc0 := 40) (pc' := 9) rfl (hb hby d8_40) (by decide) (by decide) k) ?_
          refine GoW.sg (mkF m 10 (Sh16 a1 0 3 2 c1) [(.int 2)]) (fun t k => XS.iloadN X1162.here hx rfl (hb hby d8_9) rfl k) ?_
          refine GoW.sg (mkF m 11 (Sh16 a1 0 3 2 c1) [(.int 3), (.int 2)]) (fun t k => XS.iloadN X1162.here hx rfl (hb hby d8_10) rfl k) ?_
          refine GoW.sg (mkF m 14 (Sh16 a1 0 3 2 c1) []) (fun t k => XS.icmpNo X1162.here hx rfl (hb hby d8_11) rfl (by decide) k) ?_
          refine GoW.sg (mkF m 15 (Sh16 a1 0 3 2 c1) [(.ref a1)]) (fun t k => XS.aloadN X1162.here hx rfl (hb hby d8_14) rfl rfl k) ?_
          refine GoW.sg (mkF m 16 (Sh16 a1 0 3 2 c1) [(.int 2), (.ref a1)]) (fun t k => XS.iloadN X1162.here hx rfl (hb hby d8_15) rfl k) ?_
          obtain ⟨cq1165, kq1165, q1165a, q1165b, q1165c⟩ := isOf hZ e1162 P0
          obtain ⟨_, _, ⟨T1165, L1165, k1165, n1165⟩, -, X1165, ⟨Lc1165, hQ1165, l1165, y1165, z1165⟩, st1165⟩ := X1162.virtualBack hx (y := (⟨"java/lang/String", "charAt", "(I)C"⟩ : MethodName)) (z := Y9) hown (mvT hZ (ww hw 39 rfl)) (mvT hZ (ww hw 40 rfl)) (notFace_of_selects (args := #[]) (mvT hZ (ww hw 42 rfl))) (mvT hZ (ww hw 42 rfl)) (mvT hZ (ww hw 41 rfl)) (by decide) (backOf (W := 0) (rmCh2 l Z a0 hw a1 c0 c1 c2 c3 cs vf h0 n0 P0 hS P1 P2 P3 P4 P5 hvf lo_c0 hi_c0 lo_c1 hi_c1 lo_c2 hi_c2 lo_c3 hi_c3 ncs) hZ (ww hw 43 rfl) (ww hw 3 rfl) (by decide) (by decide)) q1165a q1165c (g := (mkF m 16 (Sh16 a1 0 3 2 c1) [(.int 2), (.ref a1)])) rfl (by rw [hml]; rfl) (Steps.refl _) (argsL := [(.int (2 : Int32))]) (rest := []) (lenOf pd_28I29C rfl) rfl (by show 2 * 0 + _ ≤ _; exact Nat.le_of_eq rfl) (hb hby d8_16) (fun _ _ => ⟨rfl, e1162, (by decide : 0 + 0 ≤ _), (by decide : 0 + 0 ≤ _)⟩)
          dsimp only [Pt.U, Pt.locs, Pt.cells, Pt.slots] at X1165 l1165 y1165 z1165 st1165 hQ1165
          subst l1165 y1165 z1165
          obtain ⟨rfl, N1165q, e1165⟩ := hQ1165
          have N1165 := Fr.app N1162 N1165q
          refine GoW.sg (mkF m 19 (Sh16 a1 0 3 2 c1) [(.int c2)]) (fun t k => st1165.trans k) ?_
          refine GoW.sg (mkF m 21 (Sh16 a1 0 3 2 c2) []) (fun t k => XS.istore X1165.here hx rfl (hb hby d8_19) rfl (l' := (Sh16 a1 0 3 2 c2)) rfl k) ?_
          refine GoW.sg (mkF m 23 (Sh16 a1 0 3 2 c2) [(.int c2)]) (fun t k => XS.iload X1165.here hx rfl (hb hby d8_21) rfl k) ?_
          refine GoW.sg (mkF m 25 (Sh16 a1 0 3 2 c2) [(.int 48), (.int c2)]) (fun t k => XS.bipush X1165.here hx rfl (hb hby d8_23) k) ?_
          by_cases c1166 : c2 < (48 : Int32)
          · refine GoW.sg (mkF m 35 (Sh16 a1 0 3 2 c2) []) (fun t k => XS.icmpYes X1165.here hx rfl (pc0 := 25) (pc' := 35) rfl (hb hby d8_25) rfl (tlt c1166).1 (by decide) (by decide) k) ?_
            refine GoW.sg (mkF m 36 (Sh16 a1 0 3 2 c2) [(.int 0)]) (fun t k => XS.iconst X1165.here hx rfl (hb hby d8_35) k) ?_
            refine GoW.retN X1165 hx (t := .boolean) Bd.returns (by simp) (hb hby d8_36) Bd.notSynchronized ?_ (by decide) (by decide)
            rw [e1165]
            have hq : (FD03 c0 c1 c2 c3 cs) = (0 : Int32) := by unfold FD03; rw [if_neg c1160, if_neg c1161, if_neg c1163, if_neg c1164, if_pos c1166]; try rfl
            exact ⟨by rw [hq] <;> rfl, N1165, rfl⟩
          · refine GoW.sg (mkF m 28 (Sh16 a1 0 3 2 c2) []) (fun t k => XS.icmpNo X1165.here hx rfl (hb hby d8_25) rfl (flt c1166).1 k) ?_
            refine GoW.sg (mkF m 30 (Sh16 a1 0 3 2 c2) [(.int c2)]) (fun t k => XS.iload X1165.here hx rfl (hb hby d8_28) rfl k) ?_
            refine GoW.sg (mkF m 32 (Sh16 a1 0 3 2 c2) [(.int 57), (.int c2)]) (fun t k => XS.bipush X1165.here hx rfl (hb hby d8_30) k) ?_
            by_cases c1167 : (57 : Int32) < c2
            · refine GoW.sg (mkF m 35 (Sh16 a1 0 3 2 c2) []) (fun t k => XS.icmpNo X1165.here hx rfl (hb hby d8_32) rfl (tlt c1167).2.2.2 k) ?_
              refine GoW.sg (mkF m 36 (Sh16 a1 0 3 2 c2) [(.int 0)]) (fun t k => XS.iconst X1165.here hx rfl (hb hby d8_35) k) ?_
              refine GoW.retN X1165 hx (t := .boolean) Bd.returns (by simp) (hb hby d8_36) Bd.notSynchronized ?_ (by decide) (by decide)
              rw [e1165]
              have hq : (FD03 c0 c1 c2 c3 cs) = (0 : Int32) := by unfold FD03; rw [if_neg c1160, if_neg c1161, if_neg c1163, if_neg c1164, if_neg c1166, if_pos c1167]; try rfl
              exact ⟨by rw [hq] <;> rfl, N1165, rfl⟩
            · refine GoW.sg (mkF m 37 (Sh16 a1 0 3 2 c2) []) (fun t k => XS.icmpYes X1165.here hx rfl (pc0 := 32) (pc' := 37) rfl (hb hby d8_32) rfl (flt c1167).2.2.2 (by decide) (by decide) k) ?_
              refine GoW.sg (mkF m 40 (Sh16 a1 0 3 3 c2) []) (fun t k => XS.iinc X1165.here hx rfl (hb hby d8_37) rfl (l' := (Sh16 a1 0 3 3 c2)) rfl k) ?_
              refine GoW.sg (mkF m 9 (Sh16 a1 0 3 3 c2) []) (fun t k => XS.goto X1165.here hx rfl (pc0 := 40) (pc' := 9) rfl (hb hby d8_40) (by decide) (by decide) k) ?_
              refine GoW.sg (mkF m 10 (Sh16 a1 0 3 3 c2) [(.int 3)]) (fun t k => XS.iloadN X1165.here hx rfl (hb hby d8_9) rfl k) ?_
              refine GoW.sg (mkF m 11 (Sh16 a1 0 3 3 c2) [(.int 3), (.int 3)]) (fun t k => XS.iloadN X1165.here hx rfl (hb hby d8_10) rfl k) ?_
              refine GoW.sg (mkF m 43 (Sh16 a1 0 3 3 c2) []) (fun t k => XS.icmpYes X1165.here hx rfl (pc0 := 11) (pc' := 43) rfl (hb hby d8_11) rfl (by decide) (by decide) (by decide) k) ?_
              refine GoW.sg (mkF m 44 (Sh16 a1 0 3 3 c2) [(.int 1)]) (fun t k => XS.iconst X1165.here hx rfl (hb hby d8_43) k) ?_
              refine GoW.retN X1165 hx (t := .boolean) Bd.returns (by simp) (hb hby d8_44) Bd.notSynchronized ?_ (by decide) (by decide)
              rw [e1165]
              have hq : (FD03 c0 c1 c2 c3 cs) = (1 : Int32) := by unfold FD03; rw [if_neg c1160, if_neg c1161, if_neg c1163, if_neg c1164, if_neg c1166, if_neg c1167]; try rfl
              exact ⟨by rw [hq] <;> rfl, N1165, rfl⟩
def FD04 (c0 : Int32) (c1 : Int32) (c2 : Int32) (c3 : Int32) (cs : Int32) : Int32 := (if c0 < (48 : Int32) then (0 : Int32) else (if (57 : Int32) < c0 then (0 : Int32) else (if c1 < (48 : Int32) then (0 : Int32) else (if (57 : Int32) < c1 then (0 : Int32) else (if c2 < (48 : Int32) then (0 : Int32) else (if (57 : Int32) < c2 then (0 : Int32) else (if c3 < (48 : Int32) then (0 : Int32) else (if (57 : Int32) < c3 then (0 : Int32) else (1 : Int32)))))))))
def QD04 (Z : State) (a1 : Addr) (c0 : Int32) (c1 : Int32) (c2 : Int32) (c3 : Int32) (cs : Int32) (vf : Value) (h0 : Heap) (n0 : Nat) (v : Option Value) (h : Heap) (L : List Loc) : Prop := v = some (.int (FD04 c0 c1 c2 c3 cs)) ∧ Fr n0 L ∧ (h = h0)
theorem ef8_rmD04 (m : MethodId) (a1 : Addr) : entryFrame m #[(.ref a1), (.int (0 : Int32)), (.int (4 : Int32))] 5 = (mkF m 0 #[.val (.ref a1), .val (.int 0), .val (.int 4), .unset, .unset] []) := by first | (simp [entryFrame, mkF, argsToLocals, Value.category, maxLocals]; done) | rfl
set_option maxRecDepth 65536 in
set_option maxHeartbeats 40000000 in
theorem rmD04 (l : Launch) (Z : State) (a0 : Array Value) (hw : ∀ d ∈ tables_1, d.before a0 Z = true) (ws : List Jvm.Cond) (a1 : Addr) (c0 : Int32) (c1 : Int32) (c2 : Int32) (c3 : Int32) (cs : Int32) (vf : Value) (h0 : Heap) (n0 : Nat) (P0 : Exa Z h0 a1 "java/lang/String") (P1 : Sta Z h0 "java/lang/String" "COMPACT_STRINGS" "Z" (.int cs)) (P2 : Sta Z h0 "java/lang/StringUTF16" "$assertionsDisabled" "Z" (.int (1 : Int32))) (P3 : Sta Z h0 "java/lang/StringUTF16" "HI_BYTE_SHIFT" "I" (.int (0 : Int32))) (P4 : Sta Z h0 "java/lang/StringUTF16" "LO_BYTE_SHIFT" "I" (.int (8 : Int32))) (P5 : Sta Z h0 "jdk/internal/util/Preconditions" "SIOOBE_FORMATTER" "Ljava/util/function/BiFunction;" vf)    (hS : Str4 Z h0 a1 c0 c1 c2 c3) (hvf : vf.isRef = true) (lo_c0 : ¬ (c0 < (0 : Int32))) (hi_c0 : ¬ ((65535 : Int32) < c0)) (lo_c1 : ¬ (c1 < (0 : Int32))) (hi_c1 : ¬ ((65535 : Int32) < c1)) (lo_c2 : ¬ (c2 < (0 : Int32))) (hi_c2 : ¬ ((65535 : Int32) < c2)) (lo_c3 : ¬ (c3 < (0 : Int32))) (hi_c3 : ¬ ((65535 : Int32) < c3)) (ncs : ¬ (cs = (0 : Int32)))  :
    MetFree l Y8 (head1 (Jvm.Cond.code Y8 prog_10_method_2_code 5 (some .boolean) :: ws) ({ frames := 5, cells := 0, slots := 0, locals := 66 } : Room)) (fun a U => a = #[(.ref a1), (.int (0 : Int32)), (.int (4 : Int32))] ∧ Z.Warmed39 U.vm ∧ U.heap = h0) (fun _ _ _ _ _ => True) (fun _ U o U' => ∃ v L, o = .returned v ∧ (QD04 Z a1 c0 c1 c2 c3 cs vf h0 n0) v U'.heap L ∧ FrameEnd U o U' L 0 0) := by
  refine MetFree.of_bodySF (plainFor_of_name pn_com_example_throttle_throttle_SipSyntax) hisR ?_
  intro p e s m args below meth c s₁ Bd hml0 hP hK
  obtain ⟨rfl, hZ, hh⟩ := hP
  have hx := Bd.exec
  have hby := Bd.bytes
  have hml : c.maxLocals = 5 := hml0
  have hown : s.vm.findClass "com/example/throttle/throttle/SipSyntax" = some m.cls := findClass_of_methodNamed Bd.named
  have hnm := (name_of_methodNamed Bd.named Bd.method).1
  have X0 : Stand p l e ({ frames := 5, cells := 0, slots := 0, locals := 66 } : Room) s m #[(.ref a1), (.int (0 : Int32)), (.int (4 : Int32))] below meth c s₁ [] 0 0 := Stand.of_body Bd
  have e0 : s₁.heap = h0 := by rw [← hh, Bd.state]; rfl
  have N0 := Fr.nil n0
  refine GoW.mk ?_
  refine GoW.st (fun t k => castTop (ef8_rmD04 m a1) k) ?_
  show GoW p e below s (QD04 Z a1 c0 c1 c2 c3 cs vf h0 n0) 0 0 (s₁.setTop (mkF m 0 (Sh7 a1 0 4) []))
  refine GoW.sg (mkF m 1 (Sh7 a1 0 4) [(.int 0)]) (fun t k => XS.iloadN X0.here hx rfl (hb hby d8_0) rfl k) ?_
  refine GoW.sg (mkF m 2 (Sh7 a1 0 4) [(.int 4), (.int 0)]) (fun t k => XS.iloadN X0.here hx rfl (hb hby d8_1) rfl k) ?_
  refine GoW.sg (mkF m 7 (Sh7 a1 0 4) []) (fun t k => XS.icmpYes X0.here hx rfl (pc0 := 2) (pc' := 7) rfl (hb hby d8_2) rfl (by decide) (by decide) (by decide) k) ?_
  refine GoW.sg (mkF m 8 (Sh7 a1 0 4) [(.int 0)]) (fun t k => XS.iloadN X0.here hx rfl (hb hby d8_7) rfl k) ?_
  refine GoW.sg (mkF m 9 (Sh15 a1 0 4 0) []) (fun t k => XS.istoreN X0.here hx rfl (hb hby d8_8) rfl (l' := (Sh15 a1 0 4 0)) rfl k) ?_
  refine GoW.sg (mkF m 10 (Sh15 a1 0 4 0) [(.int 0)]) (fun t k => XS.iloadN X0.here hx rfl (hb hby d8_9) rfl k) ?_
  refine GoW.sg (mkF m 11 (Sh15 a1 0 4 0) [(.int 4), (.int 0)]) (fun t k => XS.iloadN X0.here hx rfl (hb hby d8_10) rfl k) ?_
  refine GoW.sg (mkF m 14 (Sh15 a1 0 4 0) []) (fun t k => XS.icmpNo X0.here hx rfl (hb hby d8_11) rfl (by decide) k) ?_
  refine GoW.sg (mkF m 15 (Sh15 a1 0 4 0) [(.ref a1)]) (fun t k => XS.aloadN X0.here hx rfl (hb hby d8_14) rfl rfl k) ?_
  refine GoW.sg (mkF m 16 (Sh15 a1 0 4 0) [(.int 0), (.ref a1)]) (fun t k => XS.iloadN X0.here hx rfl (hb hby d8_15) rfl k) ?_
  obtain ⟨cq1168, kq1168, q1168a, q1168b, q1168c⟩ := isOf hZ e0 P0
  obtain ⟨_, _, ⟨T1168, L1168, k1168, n1168⟩, -, X1168, ⟨Lc1168, hQ1168, l1168, y1168, z1168⟩, st1168⟩ := X0.virtualBack hx (y := (⟨"java/lang/String", "charAt", "(I)C"⟩ : MethodName)) (z := Y9) hown (mvT hZ (ww hw 39 rfl)) (mvT hZ (ww hw 40 rfl)) (notFace_of_selects (args := #[]) (mvT hZ (ww hw 42 rfl))) (mvT hZ (ww hw 42 rfl)) (mvT hZ (ww hw 41 rfl)) (by decide) (backOf (W := 0) (rmCh0 l Z a0 hw a1 c0 c1 c2 c3 cs vf h0 n0 P0 hS P1 P2 P3 P4 P5 hvf lo_c0 hi_c0 lo_c1 hi_c1 lo_c2 hi_c2 lo_c3 hi_c3 ncs) hZ (ww hw 43 rfl) (ww hw 3 rfl) (by decide) (by decide)) q1168a q1168c (g := (mkF m 16 (Sh15 a1 0 4 0) [(.int 0), (.ref a1)])) rfl (by rw [hml]; rfl) (Steps.refl _) (argsL := [(.int (0 : Int32))]) (rest := []) (lenOf pd_28I29C rfl) rfl (by show 2 * 0 + _ ≤ _; exact Nat.le_of_eq rfl) (hb hby d8_16) (fun _ _ => ⟨rfl, e0, (by decide : 0 + 0 ≤ _), (by decide : 0 + 0 ≤ _)⟩)
  dsimp only [Pt.U, Pt.locs, Pt.cells, Pt.slots] at X1168 l1168 y1168 z1168 st1168 hQ1168
  subst l1168 y1168 z1168
  obtain ⟨rfl, N1168q, e1168⟩ := hQ1168
  have N1168 := Fr.app N0 N1168q
  refine GoW.sg (mkF m 19 (Sh15 a1 0 4 0) [(.int c0)]) (fun t k => st1168.trans k) ?_
  refine GoW.sg (mkF m 21 (Sh16 a1 0 4 0 c0) []) (fun t k => XS.istore X1168.here hx rfl (hb hby d8_19) rfl (l' := (Sh16 a1 0 4 0 c0)) rfl k) ?_
  refine GoW.sg (mkF m 23 (Sh16 a1 0 4 0 c0) [(.int c0)]) (fun t k => XS.iload X1168.here hx rfl (hb hby d8_21) rfl k) ?_
  refine GoW.sg (mkF m 25 (Sh16 a1 0 4 0 c0) [(.int 48), (.int c0)]) (fun t k => XS.bipush X1168.here hx rfl (hb hby d8_23) k) ?_
  by_cases c1169 : c0 < (48 : Int32)
  · refine GoW.sg (mkF m 35 (Sh16 a1 0 4 0 c0) []) (fun t k => XS.icmpYes X1168.here hx rfl (pc0 := 25) (pc' := 35) rfl (hb hby d8_25) rfl (tlt c1169).1 (by decide) (by decide) k) ?_
    refine GoW.sg (mkF m 36 (Sh16 a1 0 4 0 c0) [(.int 0)]) (fun t k => XS.iconst X1168.here hx rfl (hb hby d8_35) k) ?_
    refine GoW.retN X1168 hx (t := .boolean) Bd.returns (by simp) (hb hby d8_36) Bd.notSynchronized ?_ (by decide) (by decide)
    rw [e1168]
    have hq : (FD04 c0 c1 c2 c3 cs) = (0 : Int32) := by unfold FD04; rw [if_pos c1169]; try rfl
    exact ⟨by rw [hq] <;> rfl, N1168, rfl⟩
  · refine GoW.sg (mkF m 28 (Sh16 a1 0 4 0 c0) []) (fun t k => XS.icmpNo X1168.here hx rfl (hb hby d8_25) rfl (flt c1169).1 k) ?_
    refine GoW.sg (mkF m 30 (Sh16 a1 0 4 0 c0) [(.int c0)]) (fun t k => XS.iload X1168.here hx rfl (hb hby d8_28) rfl k) ?_
    refine GoW.sg (mkF m 32 (Sh16 a1 0 4 0 c0) [(.int 57), (.int c0)]) (fun t k => XS.bipush X1168.here hx rfl (hb hby d8_30) k) ?_
    by_cases c1170 : (57 : Int32) < c0
    · refine GoW.sg (mkF m 35 (Sh16 a1 0 4 0 c0) []) (fun t k => XS.icmpNo X1168.here hx rfl (hb hby d8_32) rfl (tlt c1170).2.2.2 k) ?_
      refine GoW.sg (mkF m 36 (Sh16 a1 0 4 0 c0) [(.int 0)]) (fun t k => XS.iconst X1168.here hx rfl (hb hby d8_35) k) ?_
      refine GoW.retN X1168 hx (t := .boolean) Bd.returns (by simp) (hb hby d8_36) Bd.notSynchronized ?_ (by decide) (by decide)
      rw [e1168]
      have hq : (FD04 c0 c1 c2 c3 cs) = (0 : Int32) := by unfold FD04; rw [if_neg c1169, if_pos c1170]; try rfl
      exact ⟨by rw [hq] <;> rfl, N1168, rfl⟩
    · refine GoW.sg (mkF m 37 (Sh16 a1 0 4 0 c0) []) (fun t k => XS.icmpYes X1168.here hx rfl (pc0 := 32) (pc' := 37) rfl (hb hby d8_32) rfl (flt c1170).2.2.2 (by decide) (by decide) k) ?_
      refine GoW.sg (mkF m 40 (Sh16 a1 0 4 1 c0) []) (fun t k => XS.iinc X1168.here hx rfl (hb hby d8_37) rfl (l' := (Sh16 a1 0 4 1 c0)) rfl k) ?_
      refine GoW.sg (mkF m 9 (Sh16 a1 0 4 1 c0) []) (fun t k => XS.goto X1168.here hx rfl (pc0 := 40) (pc' := 9) rfl (hb hby d8_40) (by decide) (by decide) k) ?_
      refine GoW.sg (mkF m 10 (Sh16 a1 0 4 1 c0) [(.int 1)]) (fun t k => XS.iloadN X1168.here hx rfl (hb hby d8_9) rfl k) ?_
      refine GoW.sg (mkF m 11 (Sh16 a1 0 4 1 c0) [(.int 4), (.int 1)]) (fun t k => XS.iloadN X1168.here hx rfl (hb hby d8_10) rfl k) ?_
      refine GoW.sg (mkF m 14 (Sh16 a1 0 4 1 c0) []) (fun t k => XS.icmpNo X1168.here hx rfl (hb hby d8_11) rfl (by decide) k) ?_
      refine GoW.sg (mkF m 15 (Sh16 a1 0 4 1 c0) [(.ref a1)]) (fun t k => XS.aloadN X1168.here hx rfl (hb hby d8_14) rfl rfl k) ?_
      refine GoW.sg (mkF m 16 (Sh16 a1 0 4 1 c0) [(.int 1), (.ref a1)]) (fun t k => XS.iloadN X1168.here hx rfl (hb hby d8_15) rfl k) ?_
      obtain ⟨cq1171, kq1171, q1171a, q1171b, q1171c⟩ := isOf hZ e1168 P0
      obtain ⟨_, _, ⟨T1171, L1171, k1171, n1171⟩, -, X1171, ⟨Lc1171, hQ1171, l1171, y1171, z1171⟩, st1171⟩ := X1168.virtualBack hx (y := (⟨"java/lang/String", "charAt", "(I)C"⟩ : MethodName)) (z := Y9) hown (mvT hZ (ww hw 39 rfl)) (mvT hZ (ww hw 40 rfl)) (notFace_of_selects (args := #[]) (mvT hZ (ww hw 42 rfl))) (mvT hZ (ww hw 42 rfl)) (mvT hZ (ww hw 41 rfl)) (by decide) (backOf (W := 0) (rmCh1 l Z a0 hw a1 c0 c1 c2 c3 cs vf h0 n0 P0 hS P1 P2 P3 P4 P5 hvf lo_c0 hi_c0 lo_c1 hi_c1 lo_c2 hi_c2 lo_c3 hi_c3 ncs) hZ (ww hw 43 rfl) (ww hw 3 rfl) (by decide) (by decide)) q1171a q1171c (g := (mkF m 16 (Sh16 a1 0 4 1 c0) [(.int 1), (.ref a1)])) rfl (by rw [hml]; rfl) (Steps.refl _) (argsL := [(.int (1 : Int32))]) (rest := []) (lenOf pd_28I29C rfl) rfl (by show 2 * 0 + _ ≤ _; exact Nat.le_of_eq rfl) (hb hby d8_16) (fun _ _ => ⟨rfl, e1168, (by decide : 0 + 0 ≤ _), (by decide : 0 + 0 ≤ _)⟩)
      dsimp only [Pt.U, Pt.locs, Pt.cells, Pt.slots] at X1171 l1171 y1171 z1171 st1171 hQ1171
      subst l1171 y1171 z1171
      obtain ⟨rfl, N1171q, e1171⟩ := hQ1171
      have N1171 := Fr.app N1168 N1171q
      refine GoW.sg (mkF m 19 (Sh16 a1 0 4 1 c0) [(.int c1)]) (fun t k => st1171.trans k) ?_
      refine GoW.sg (mkF m 21 (Sh16 a1 0 4 1 c1) []) (fun t k => XS.istore X1171.here hx rfl (hb hby d8_19) rfl (l' := (Sh16 a1 0 4 1 c1)) rfl k) ?_
      refine GoW.sg (mkF m 23 (Sh16 a1 0 4 1 c1) [(.int c1)]) (fun t k => XS.iload X1171.here hx rfl (hb hby d8_21) rfl k) ?_
      refine GoW.sg (mkF m 25 (Sh16 a1 0 4 1 c1) [(.int 48), (.int c1)]) (fun t k => XS.bipush X1171.here hx rfl (hb hby d8_23) k) ?_
      by_cases c1172 : c1 < (48 : Int32)
      · refine GoW.sg (mkF m 35 (Sh16 a1 0 4 1 c1) []) (fun t k => XS.icmpYes X1171.here hx rfl (pc0 := 25) (pc' := 35) rfl (hb hby d8_25) rfl (tlt c1172).1 (by decide) (by decide) k) ?_
        refine GoW.sg (mkF m 36 (Sh16 a1 0 4 1 c1) [(.int 0)]) (fun t k => XS.iconst X1171.here hx rfl (hb hby d8_35) k) ?_
        refine GoW.retN X1171 hx (t := .boolean) Bd.returns (by simp) (hb hby d8_36) Bd.notSynchronized ?_ (by decide) (by decide)
        rw [e1171]
        have hq : (FD04 c0 c1 c2 c3 cs) = (0 : Int32) := by unfold FD04; rw [if_neg c1169, if_neg c1170, if_pos c1172]; try rfl
        exact ⟨by rw [hq] <;> rfl, N1171, rfl⟩
      · refine GoW.sg (mkF m 28 (Sh16 a1 0 4 1 c1) []) (fun t k => XS.icmpNo X1171.here hx rfl (hb hby d8_25) rfl (flt c1172).1 k) ?_
        refine GoW.sg (mkF m 30 (Sh16 a1 0 4 1 c1) [(.int c1)]) (fun t k => XS.iload X1171.here hx rfl (hb hby d8_28) rfl k) ?_
        refine GoW.sg (mkF m 32 (Sh16 a1 0 4 1 c1) [(.int 57), (.int c1)]) (fun t k => XS.bipush X1171.here hx rfl (hb hby d8_30) k) ?_
        by_cases c1173 : (57 : Int32) < c1
        · refine GoW.sg (mkF m 35 (Sh16 a1 0 4 1 c1) []) (fun t k => XS.icmpNo X1171.here hx rfl (hb hby d8_32) rfl (tlt c1173).2.2.2 k) ?_
          refine GoW.sg (mkF m 36 (Sh16 a1 0 4 1 c1) [(.int 0)]) (fun t k => XS.iconst X1171.here hx rfl (hb hby d8_35) k) ?_
          refine GoW.retN X1171 hx (t := .boolean) Bd.returns (by simp) (hb hby d8_36) Bd.notSynchronized ?_ (by decide) (by decide)
          rw [e1171]
          have hq : (FD04 c0 c1 c2 c3 cs) = (0 : Int32) := by unfold FD04; rw [if_neg c1169, if_neg c1170, if_neg c1172, if_pos c1173]; try rfl
          exact ⟨by rw [hq] <;> rfl, N1171, rfl⟩
        · refine GoW.sg (mkF m 37 (Sh16 a1 0 4 1 c1) []) (fun t k => XS.icmpYes X1171.here hx rfl (pc0 := 32) (pc' := 37) rfl (hb hby d8_32) rfl (flt c1173).2.2.2 (by decide) (by decide) k) ?_
          refine GoW.sg (mkF m 40 (Sh16 a1 0 4 2 c1) []) (fun t k => XS.iinc X1171.here hx rfl (hb hby d8_37) rfl (l' := (Sh16 a1 0 4 2 c1)) rfl k) ?_
          refine GoW.sg (mkF m 9 (Sh16 a1 0 4 2 c1) []) (fun t k => XS.goto X1171.here hx rfl (pc0 := 40) (pc' := 9) rfl (hb hby d8_40) (by decide) (by decide) k) ?_
          refine GoW.sg (mkF m 10 (Sh16 a1 0 4 2 c1) [(.int 2)]) (fun t k => XS.iloadN X1171.here hx rfl (hb hby d8_9) rfl k) ?_
          refine GoW.sg (mkF m 11 (Sh16 a1 0 4 2 c1) [(.int 4), (.int 2)]) (fun t k => XS.iloadN X1171.here hx rfl (hb hby d8_10) rfl k) ?_
          refine GoW.sg (mkF m 14 (Sh16 a1 0 4 2 c1) []) (fun t k => XS.icmpNo X1171.here hx rfl (hb hby d8_11) rfl (by decide) k) ?_
          refine GoW.sg (mkF m 15 (Sh16 a1 0 4 2 c1) [(.ref a1)]) (fun t k => XS.aloadN X1171.here hx rfl (hb hby d8_14) rfl rfl k) ?_
          refine GoW.sg (mkF m 16 (Sh16 a1 0 4 2 c1) [(.int 2), (.ref a1)]) (fun t k => XS.iloadN X1171.here hx rfl (hb hby d8_15) rfl k) ?_
          obtain ⟨cq1174, kq1174, q1174a, q1174b, q1174c⟩ := isOf hZ e1171 P0
          obtain ⟨_, _, ⟨T1174, L1174, k1174, n1174⟩, -, X1174, ⟨Lc1174, hQ1174, l1174, y1174, z1174⟩, st1174⟩ := X1171.virtualBack hx (y := (⟨"java/lang/String", "charAt", "(I)C"⟩ : MethodName)) (z := Y9) hown (mvT hZ (ww hw 39 rfl)) (mvT hZ (ww hw 40 rfl)) (notFace_of_selects (args := #[]) (mvT hZ (ww hw 42 rfl))) (mvT hZ (ww hw 42 rfl)) (mvT hZ (ww hw 41 rfl)) (by decide) (backOf (W := 0) (rmCh2 l Z a0 hw a1 c0 c1 c2 c3 cs vf h0 n0 P0 hS P1 P2 P3 P4 P5 hvf lo_c0 hi_c0 lo_c1 hi_c1 lo_c2 hi_c2 lo_c3 hi_c3 ncs) hZ (ww hw 43 rfl) (ww hw 3 rfl) (by decide) (by decide)) q1174a q1174c (g := (mkF m 16 (Sh16 a1 0 4 2 c1) [(.int 2), (.ref a1)])) rfl (by rw [hml]; rfl) (Steps.refl _) (argsL := [(.int (2 : Int32))]) (rest := []) (lenOf pd_28I29C rfl) rfl (by show 2 * 0 + _ ≤ _; exact Nat.le_of_eq rfl) (hb hby d8_16) (fun _ _ => ⟨rfl, e1171, (by decide : 0 + 0 ≤ _), (by decide : 0 + 0 ≤ _)⟩)
          dsimp only [Pt.U, Pt.locs, Pt.cells, Pt.slots] at X1174 l1174 y1174 z1174 st1174 hQ1174
          subst l1174 y1174 z1174
          obtain ⟨rfl, N1174q, e1174⟩ := hQ1174
          have N1174 := Fr.app N1171 N1174q
          refine GoW.sg (mkF m 19 (Sh16 a1 0 4 2 c1) [(.int c2)]) (fun t k => st1174.trans k) ?_
          refine GoW.sg (mkF m 21 (Sh16 a1 0 4 2 c2) []) (fun t k => XS.istore X1174.here hx rfl (hb hby d8_19) rfl (l' := (Sh16 a1 0 4 2 c2)) rfl k) ?_
          refine GoW.sg (mkF m 23 (Sh16 a1 0 4 2 c2) [(.int c2)]) (fun t k => XS.iload X1174.here hx rfl (hb hby d8_21) rfl k) ?_
          refine GoW.sg (mkF m 25 (Sh16 a1 0 4 2 c2) [(.int 48), (.int c2)]) (fun t k => XS.bipush X1174.here hx rfl (hb hby d8_23) k) ?_
          by_cases c1175 : c2 < (48 : Int32)
          · refine GoW.sg (mkF m 35 (Sh16 a1 0 4 2 c2) []) (fun t k => XS.icmpYes X1174.here hx rfl (pc0 := 25) (pc' := 35) rfl (hb hby d8_25) rfl (tlt c1175).1 (by decide) (by decide) k) ?_
            refine GoW.sg (mkF m 36 (Sh16 a1 0 4 2 c2) [(.int 0)]) (fun t k => XS.iconst X1174.here hx rfl (hb hby d8_35) k) ?_
            refine GoW.retN X1174 hx (t := .boolean) Bd.returns (by simp) (hb hby d8_36) Bd.notSynchronized ?_ (by decide) (by decide)
            rw [e1174]
            have hq : (FD04 c0 c1 c2 c3 cs) = (0 : Int32) := by unfold FD04; rw [if_neg c1169, if_neg c1170, if_neg c1172, if_neg c1173, if_pos c1175]; try rfl
            exact ⟨by rw [hq] <;> rfl, N1174, rfl⟩
          · refine GoW.sg (mkF m 28 (Sh16 a1 0 4 2 c2) []) (fun t k => XS.icmpNo X1174.here hx rfl (hb hby d8_25) rfl (flt c1175).1 k) ?_
            refine GoW.sg (mkF m 30 (Sh16 a1 0 4 2 c2) [(.int c2)]) (fun t k => XS.iload X1174.here hx rfl (hb hby d8_28) rfl k) ?_
            refine GoW.sg (mkF m 32 (Sh16 a1 0 4 2 c2) [(.int 57), (.int c2)]) (fun t k => XS.bipush X1174.here hx rfl (hb hby d8_30) k) ?_
            by_cases c1176 : (57 : Int32) < c2
            · refine GoW.sg (mkF m 35 (Sh16 a1 0 4 2 c2) []) (fun t k => XS.icmpNo X1174.here hx rfl (hb hby d8_32) rfl (tlt c1176).2.2.2 k) ?_
              refine GoW.sg (mkF m 36 (Sh16 a1 0 4 2 c2) [(.int 0)]) (fun t k => XS.iconst X1174.here hx rfl (hb hby d8_35) k) ?_
              refine GoW.retN X1174 hx (t := .boolean) Bd.returns (by simp) (hb hby d8_36) Bd.notSynchronized ?_ (by decide) (by decide)
              rw [e1174]
              have hq : (FD04 c0 c1 c2 c3 cs) = (0 : Int32) := by unfold FD04; rw [if_neg c1169, if_neg c1170, if_neg c1172, if_neg c1173, if_neg c1175, if_pos c1176]; try rfl
              exact ⟨by rw [hq] <;> rfl, N1174, rfl⟩
            · refine GoW.sg (mkF m 37 (Sh16 a1 0 4 2 c2) []) (fun t k => XS.icmpYes X1174.here hx rfl (pc0 := 32) (pc' := 37) rfl (hb hby d8_32) rfl (flt c1176).2.2.2 (by decide) (by decide) k) ?_
              refine GoW.sg (mkF m 40 (Sh16 a1 0 4 3 c2) []) (fun t k => XS.iinc X1174.here hx rfl (hb hby d8_37) rfl (l' := (Sh16 a1 0 4 3 c2)) rfl k) ?_
              refine GoW.sg (mkF m 9 (Sh16 a1 0 4 3 c2) []) (fun t k => XS.goto X1174.here hx rfl (pc0 := 40) (pc' := 9) rfl (hb hby d8_40) (by decide) (by decide) k) ?_
              refine GoW.sg (mkF m 10 (Sh16 a1 0 4 3 c2) [(.int 3)]) (fun t k => XS.iloadN X1174.here hx rfl (hb hby d8_9) rfl k) ?_
              refine GoW.sg (mkF m 11 (Sh16 a1 0 4 3 c2) [(.int 4), (.int 3)]) (fun t k => XS.iloadN X1174.here hx rfl (hb hby d8_10) rfl k) ?_
              refine GoW.sg (mkF m 14 (Sh16 a1 0 4 3 c2) []) (fun t k => XS.icmpNo X1174.here hx rfl (hb hby d8_11) rfl (by decide) k) ?_
              refine GoW.sg (mkF m 15 (Sh16 a1 0 4 3 c2) [(.ref a1)]) (fun t k => XS.aloadN X1174.here hx rfl (hb hby d8_14) rfl rfl k) ?_
              refine GoW.sg (mkF m 16 (Sh16 a1 0 4 3 c2) [(.int 3), (.ref a1)]) (fun t k => XS.iloadN X1174.here hx rfl (hb hby d8_15) rfl k) ?_
              obtain ⟨cq1177, kq1177, q1177a, q1177b, q1177c⟩ := isOf hZ e1174 P0
              obtain ⟨_, _, ⟨T1177, L1177, k1177, n1177⟩, -, X1177, ⟨Lc1177, hQ1177, l1177, y1177, z1177⟩, st1177⟩ := X1174.virtualBack hx (y := (⟨"java/lang/String", "charAt", "(I)C"⟩ : MethodName)) (z := Y9) hown (mvT hZ (ww hw 39 rfl)) (mvT hZ (ww hw 40 rfl)) (notFace_of_selects (args := #[]) (mvT hZ (ww hw 42 rfl))) (mvT hZ (ww hw 42 rfl)) (mvT hZ (ww hw 41 rfl)) (by decide) (backOf (W := 0) (rmCh3 l Z a0 hw a1 c0 c1 c2 c3 cs vf h0 n0 P0 hS P1 P2 P3 P4 P5 hvf lo_c0 hi_c0 lo_c1 hi_c1 lo_c2 hi_c2 lo_c3 hi_c3 ncs) hZ (ww hw 43 rfl) (ww hw 3 rfl) (by decide) (by decide)) q1177a q1177c (g := (mkF m 16 (Sh16 a1 0 4 3 c2) [(.int 3), (.ref a1)])) rfl (by rw [hml]; rfl) (Steps.refl _) (argsL := [(.int (3 : Int32))]) (rest := []) (lenOf pd_28I29C rfl) rfl (by show 2 * 0 + _ ≤ _; exact Nat.le_of_eq rfl) (hb hby d8_16) (fun _ _ => ⟨rfl, e1174, (by decide : 0 + 0 ≤ _), (by decide : 0 + 0 ≤ _)⟩)
              dsimp only [Pt.U, Pt.locs, Pt.cells, Pt.slots] at X1177 l1177 y1177 z1177 st1177 hQ1177
              subst l1177 y1177 z1177
              obtain ⟨rfl, N1177q, e1177⟩ := hQ1177
              have N1177 := Fr.app N1174 N1177q
              refine GoW.sg (mkF m 19 (Sh16 a1 0 4 3 c2) [(.int c3)]) (fun t k => st1177.trans k) ?_
              refine GoW.sg (mkF m 21 (Sh16 a1 0 4 3 c3) []) (fun t k => XS.istore X1177.here hx rfl (hb hby d8_19) rfl (l' := (Sh16 a1 0 4 3 c3)) rfl k) ?_
              refine GoW.sg (mkF m 23 (Sh16 a1 0 4 3 c3) [(.int c3)]) (fun t k => XS.iload X1177.here hx rfl (hb hby d8_21) rfl k) ?_
              refine GoW.sg (mkF m 25 (Sh16 a1 0 4 3 c3) [(.int 48), (.int c3)]) (fun t k => XS.bipush X1177.here hx rfl (hb hby d8_23) k) ?_
              by_cases c1178 : c3 < (48 : Int32)
              · refine GoW.sg (mkF m 35 (Sh16 a1 0 4 3 c3) []) (fun t k => XS.icmpYes X1177.here hx rfl (pc0 := 25) (pc' := 35) rfl (hb hby d8_25) rfl (tlt c1178).1 (by decide) (by decide) k) ?_
                refine GoW.sg (mkF m 36 (Sh16 a1 0 4 3 c3) [(.int 0)]) (fun t k => XS.iconst X1177.here hx rfl (hb hby d8_35) k) ?_
                refine GoW.retN X1177 hx (t := .boolean) Bd.returns (by simp) (hb hby d8_36) Bd.notSynchronized ?_ (by decide) (by decide)
                rw [e1177]
                have hq : (FD04 c0 c1 c2 c3 cs) = (0 : Int32) := by unfold FD04; rw [if_neg c1169, if_neg c1170, if_neg c1172, if_neg c1173, if_neg c1175, if_neg c1176, if_pos c1178]; try rfl
                exact ⟨by rw [hq] <;> rfl, N1177, rfl⟩
              · refine GoW.sg (mkF m 28 (Sh16 a1 0 4 3 c3) []) (fun t k => XS.icmpNo X1177.here hx rfl (hb hby d8_25) rfl (flt c1178).1 k) ?_
                refine GoW.sg (mkF m 30 (Sh16 a1 0 4 3 c3) [(.int c3)]) (fun t k => XS.iload X1177.here hx rfl (hb hby d8_28) rfl k) ?_
                refine GoW.sg (mkF m 32 (Sh16 a1 0 4 3 c3) [(.int 57), (.int c3)]) (fun t k => XS.bipush X1177.here hx rfl (hb hby d8_30) k) ?_
                by_cases c1179 : (57 : Int32) < c3
                · refine GoW.sg (mkF m 35 (Sh16 a1 0 4 3 c3) []) (fun t k => XS.icmpNo X1177.here hx rfl (hb hby d8_32) rfl (tlt c1179).2.2.2 k) ?_
                  refine GoW.sg (mkF m 36 (Sh16 a1 0 4 3 c3) [(.int 0)]) (fun t k => XS.iconst X1177.here hx rfl (hb hby d8_35) k) ?_
                  refine GoW.retN X1177 hx (t := .boolean) Bd.returns (by simp) (hb hby d8_36) Bd.notSynchronized ?_ (by decide) (by decide)
                  rw [e1177]
                  have hq : (FD04 c0 c1 c2 c3 cs) = (0 : Int32) := by unfold FD04; rw [if_neg c1169, if_neg c1170, if_neg c1172, if_neg c1173, if_neg c1175, if_neg c1176, if_neg c1178, if_pos c1179]; try rfl
                  exact ⟨by rw [hq] <;> rfl, N1177, rfl⟩
                · refine GoW.sg (mkF m 37 (Sh16 a1 0 4 3 c3) []) (fun t k => XS.icmpYes X1177.here hx rfl (pc0 := 32) (pc' := 37) rfl (hb hby d8_32) rfl (flt c1179).2.2.2 (by decide) (by decide) k) ?_
                  refine GoW.sg (mkF m 40 (Sh16 a1 0 4 4 c3) []) (fun t k => XS.iinc X1177.here hx rfl (hb hby d8_37) rfl (l' := (Sh16 a1 0 4 4 c3)) rfl k) ?_
                  refine GoW.sg (mkF m 9 (Sh16 a1 0 4 4 c3) []) (fun t k => XS.goto X1177.here hx rfl (pc0 := 40) (pc' := 9) rfl (hb hby d8_40) (by decide) (by decide) k) ?_
                  refine GoW.sg (mkF m 10 (Sh16 a1 0 4 4 c3) [(.int 4)]) (fun t k => XS.iloadN X1177.here hx rfl (hb hby d8_9) rfl k) ?_
                  refine GoW.sg (mkF m 11 (Sh16 a1 0 4 4 c3) [(.int 4), (.int 4)]) (fun t k => XS.iloadN X1177.here hx rfl (hb hby d8_10) rfl k) ?_
                  refine GoW.sg (mkF m 43 (Sh16 a1 0 4 4 c3) []) (fun t k => XS.icmpYes X1177.here hx rfl (pc0 := 11) (pc' := 43) rfl (hb hby d8_11) rfl (by decide) (by decide) (by decide) k) ?_
                  refine GoW.sg (mkF m 44 (Sh16 a1 0 4 4 c3) [(.int 1)]) (fun t k => XS.iconst X1177.here hx rfl (hb hby d8_43) k) ?_
                  refine GoW.retN X1177 hx (t := .boolean) Bd.returns (by simp) (hb hby d8_44) Bd.notSynchronized ?_ (by decide) (by decide)
                  rw [e1177]
                  have hq : (FD04 c0 c1 c2 c3 cs) = (1 : Int32) := by unfold FD04; rw [if_neg c1169, if_neg c1170, if_neg c1172, if_neg c1173, if_neg c1175, if_neg c1176, if_neg c1178, if_neg c1179]; try rfl
                  exact ⟨by rw [hq] <;> rfl, N1177, rfl⟩
def FD12 (c0 : Int32) (c1 : Int32) (c2 : Int32) (c3 : Int32) (cs : Int32) : Int32 := (if c1 < (48 : Int32) then (0 : Int32) else (if (57 : Int32) < c1 then (0 : Int32) else (1 : Int32)))
def QD12 (Z : State) (a1 : Addr) (c0 : Int32) (c1 : Int32) (c2 : Int32) (c3 : Int32) (cs : Int32) (vf : Value) (h0 : Heap) (n0 : Nat) (v : Option Value) (h : Heap) (L : List Loc) : Prop := v = some (.int (FD12 c0 c1 c2 c3 cs)) ∧ Fr n0 L ∧ (h = h0)
theorem ef8_rmD12 (m : MethodId) (a1 : Addr) : entryFrame m #[(.ref a1), (.int (1 : Int32)), (.int (2 : Int32))] 5 = (mkF m 0 #[.val (.ref a1), .val (.int 1), .val (.int 2), .unset, .unset] []) := by first | (simp [entryFrame, mkF, argsToLocals, Value.category, maxLocals]; done) | rfl
set_option maxRecDepth 65536 in
set_option maxHeartbeats 40000000 in
theorem rmD12 (l : Launch) (Z : State) (a0 : Array Value) (hw : ∀ d ∈ tables_1, d.before a0 Z = true) (ws : List Jvm.Cond) (a1 : Addr) (c0 : Int32) (c1 : Int32) (c2 : Int32) (c3 : Int32) (cs : Int32) (vf : Value) (h0 : Heap) (n0 : Nat) (P0 : Exa Z h0 a1 "java/lang/String") (P1 : Sta Z h0 "java/lang/String" "COMPACT_STRINGS" "Z" (.int cs)) (P2 : Sta Z h0 "java/lang/StringUTF16" "$assertionsDisabled" "Z" (.int (1 : Int32))) (P3 : Sta Z h0 "java/lang/StringUTF16" "HI_BYTE_SHIFT" "I" (.int (0 : Int32))) (P4 : Sta Z h0 "java/lang/StringUTF16" "LO_BYTE_SHIFT" "I" (.int (8 : Int32))) (P5 : Sta Z h0 "jdk/internal/util/Preconditions" "SIOOBE_FORMATTER" "Ljava/util/function/BiFunction;" vf)    (hS : Str4 Z h0 a1 c0 c1 c2 c3) (hvf : vf.isRef = true) (lo_c0 : ¬ (c0 < (0 : Int32))) (hi_c0 : ¬ ((65535 : Int32) < c0)) (lo_c1 : ¬ (c1 < (0 : Int32))) (hi_c1 : ¬ ((65535 : Int32) < c1)) (lo_c2 : ¬ (c2 < (0 : Int32))) (hi_c2 : ¬ ((65535 : Int32) < c2)) (lo_c3 : ¬ (c3 < (0 : Int32))) (hi_c3 : ¬ ((65535 : Int32) < c3)) (ncs : ¬ (cs = (0 : Int32)))  :
    MetFree l Y8 (head1 (Jvm.Cond.code Y8 prog_10_method_2_code 5 (some .boolean) :: ws) ({ frames := 5, cells := 0, slots := 0, locals := 66 } : Room)) (fun a U => a = #[(.ref a1), (.int (1 : Int32)), (.int (2 : Int32))] ∧ Z.Warmed39 U.vm ∧ U.heap = h0) (fun _ _ _ _ _ => True) (fun _ U o U' => ∃ v L, o = .returned v ∧ (QD12 Z a1 c0 c1 c2 c3 cs vf h0 n0) v U'.heap L ∧ FrameEnd U o U' L 0 0) := by
  refine MetFree.of_bodySF (plainFor_of_name pn_com_example_throttle_throttle_SipSyntax) hisR ?_
  intro p e s m args below meth c s₁ Bd hml0 hP hK
  obtain ⟨rfl, hZ, hh⟩ := hP
  have hx := Bd.exec
  have hby := Bd.bytes
  have hml : c.maxLocals = 5 := hml0
  have hown : s.vm.findClass "com/example/throttle/throttle/SipSyntax" = some m.cls := findClass_of_methodNamed Bd.named
  have hnm := (name_of_methodNamed Bd.named Bd.method).1
  have X0 : Stand p l e ({ frames := 5, cells := 0, slots := 0, locals := 66 } : Room) s m #[(.ref a1), (.int (1 : Int32)), (.int (2 : Int32))] below meth c s₁ [] 0 0 := Stand.of_body Bd
  have e0 : s₁.heap = h0 := by rw [← hh, Bd.state]; rfl
  have N0 := Fr.nil n0
  refine GoW.mk ?_
  refine GoW.st (fun t k => castTop (ef8_rmD12 m a1) k) ?_
  show GoW p e below s (QD12 Z a1 c0 c1 c2 c3 cs vf h0 n0) 0 0 (s₁.setTop (mkF m 0 (Sh7 a1 1 2) []))
  refine GoW.sg (mkF m 1 (Sh7 a1 1 2) [(.int 1)]) (fun t k => XS.iloadN X0.here hx rfl (hb hby d8_0) rfl k) ?_
  refine GoW.sg (mkF m 2 (Sh7 a1 1 2) [(.int 2), (.int 1)]) (fun t k => XS.iloadN X0.here hx rfl (hb hby d8_1) rfl k) ?_
  refine GoW.sg (mkF m 7 (Sh7 a1 1 2) []) (fun t k => XS.icmpYes X0.here hx rfl (pc0 := 2) (pc' := 7) rfl (hb hby d8_2) rfl (by decide) (by decide) (by decide) k) ?_
  refine GoW.sg (mkF m 8 (Sh7 a1 1 2) [(.int 1)]) (fun t k => XS.iloadN X0.here hx rfl (hb hby d8_7) rfl k) ?_
  refine GoW.sg (mkF m 9 (Sh15 a1 1 2 1) []) (fun t k => XS.istoreN X0.here hx rfl (hb hby d8_8) rfl (l' := (Sh15 a1 1 2 1)) rfl k) ?_
  refine GoW.sg (mkF m 10 (Sh15 a1 1 2 1) [(.int 1)]) (fun t k => XS.iloadN X0.here hx rfl (hb hby d8_9) rfl k) ?_
  refine GoW.sg (mkF m 11 (Sh15 a1 1 2 1) [(.int 2), (.int 1)]) (fun t k => XS.iloadN X0.here hx rfl (hb hby d8_10) rfl k) ?_
  refine GoW.sg (mkF m 14 (Sh15 a1 1 2 1) []) (fun t k => XS.icmpNo X0.here hx rfl (hb hby d8_11) rfl (by decide) k) ?_
  refine GoW.sg (mkF m 15 (Sh15 a1 1 2 1) [(.ref a1)]) (fun t k => XS.aloadN X0.here hx rfl (hb hby d8_14) rfl rfl k) ?_
  refine GoW.sg (mkF m 16 (Sh15 a1 1 2 1) [(.int 1), (.ref a1)]) (fun t k => XS.iloadN X0.here hx rfl (hb hby d8_15) rfl k) ?_
  obtain ⟨cq1180, kq1180, q1180a, q1180b, q1180c⟩ := isOf hZ e0 P0
  obtain ⟨_, _, ⟨T1180, L1180, k1180, n1180⟩, -, X1180, ⟨Lc1180, hQ1180, l1180, y1180, z1180⟩, st1180⟩ := X0.virtualBack hx (y := (⟨"java/lang/String", "charAt", "(I)C"⟩ : MethodName)) (z := Y9) hown (mvT hZ (ww hw 39 rfl)) (mvT hZ (ww hw 40 rfl)) (notFace_of_selects (args := #[]) (mvT hZ (ww hw 42 rfl))) (mvT hZ (ww hw 42 rfl)) (mvT hZ (ww hw 41 rfl)) (by decide) (backOf (W := 0) (rmCh1 l Z a0 hw a1 c0 c1 c2 c3 cs vf h0 n0 P0 hS P1 P2 P3 P4 P5 hvf lo_c0 hi_c0 lo_c1 hi_c1 lo_c2 hi_c2 lo_c3 hi_c3 ncs) hZ (ww hw 43 rfl) (ww hw 3 rfl) (by decide) (by decide)) q1180a q1180c (g := (mkF m 16 (Sh15 a1 1 2 1) [(.int 1), (.ref a1)])) rfl (by rw [hml]; rfl) (Steps.refl _) (argsL := [(.int (1 : Int32))]) (rest := []) (lenOf pd_28I29C rfl) rfl (by show 2 * 0 + _ ≤ _; exact Nat.le_of_eq rfl) (hb hby d8_16) (fun _ _ => ⟨rfl, e0, (by decide : 0 + 0 ≤ _), (by decide : 0 + 0 ≤ _)⟩)
  dsimp only [Pt.U, Pt.locs, Pt.cells, Pt.slots] at X1180 l1180 y1180 z1180 st1180 hQ1180
  subst l1180 y1180 z1180
  obtain ⟨rfl, N1180q, e1180⟩ := hQ1180
  have N1180 := Fr.app N0 N1180q
  refine GoW.sg (mkF m 19 (Sh15 a1 1 2 1) [(.int c1)]) (fun t k => st1180.trans k) ?_
  refine GoW.sg (mkF m 21 (Sh16 a1 1 2 1 c1) []) (fun t k => XS.istore X1180.here hx rfl (hb hby d8_19) rfl (l' := (Sh16 a1 1 2 1 c1)) rfl k) ?_
  refine GoW.sg (mkF m 23 (Sh16 a1 1 2 1 c1) [(.int c1)]) (fun t k => XS.iload X1180.here hx rfl (hb hby d8_21) rfl k) ?_
  refine GoW.sg (mkF m 25 (Sh16 a1 1 2 1 c1) [(.int 48), (.int c1)]) (fun t k => XS.bipush X1180.here hx rfl (hb hby d8_23) k) ?_
  by_cases c1181 : c1 < (48 : Int32)
  · refine GoW.sg (mkF m 35 (Sh16 a1 1 2 1 c1) []) (fun t k => XS.icmpYes X1180.here hx rfl (pc0 := 25) (pc' := 35) rfl (hb hby d8_25) rfl (tlt c1181).1 (by decide) (by decide) k) ?_
    refine GoW.sg (mkF m 36 (Sh16 a1 1 2 1 c1) [(.int 0)]) (fun t k => XS.iconst X1180.here hx rfl (hb hby d8_35) k) ?_
    refine GoW.retN X1180 hx (t := .boolean) Bd.returns (by simp) (hb hby d8_36) Bd.notSynchronized ?_ (by decide) (by decide)
    rw [e1180]
    have hq : (FD12 c0 c1 c2 c3 cs) = (0 : Int32) := by unfold FD12; rw [if_pos c1181]; try rfl
    exact ⟨by rw [hq] <;> rfl, N1180, rfl⟩
  · refine GoW.sg (mkF m 28 (Sh16 a1 1 2 1 c1) []) (fun t k => XS.icmpNo X1180.here hx rfl (hb hby d8_25) rfl (flt c1181).1 k) ?_
    refine GoW.sg (mkF m 30 (Sh16 a1 1 2 1 c1) [(.int c1)]) (fun t k => XS.iload X1180.here hx rfl (hb hby d8_28) rfl k) ?_
    refine GoW.sg (mkF m 32 (Sh16 a1 1 2 1 c1) [(.int 57), (.int c1)]) (fun t k => XS.bipush X1180.here hx rfl (hb hby d8_30) k) ?_
    by_cases c1182 : (57 : Int32) < c1
    · refine GoW.sg (mkF m 35 (Sh16 a1 1 2 1 c1) []) (fun t k => XS.icmpNo X1180.here hx rfl (hb hby d8_32) rfl (tlt c1182).2.2.2 k) ?_
      refine GoW.sg (mkF m 36 (Sh16 a1 1 2 1 c1) [(.int 0)]) (fun t k => XS.iconst X1180.here hx rfl (hb hby d8_35) k) ?_
      refine GoW.retN X1180 hx (t := .boolean) Bd.returns (by simp) (hb hby d8_36) Bd.notSynchronized ?_ (by decide) (by decide)
      rw [e1180]
      have hq : (FD12 c0 c1 c2 c3 cs) = (0 : Int32) := by unfold FD12; rw [if_neg c1181, if_pos c1182]; try rfl
      exact ⟨by rw [hq] <;> rfl, N1180, rfl⟩
    · refine GoW.sg (mkF m 37 (Sh16 a1 1 2 1 c1) []) (fun t k => XS.icmpYes X1180.here hx rfl (pc0 := 32) (pc' := 37) rfl (hb hby d8_32) rfl (flt c1182).2.2.2 (by decide) (by decide) k) ?_
      refine GoW.sg (mkF m 40 (Sh16 a1 1 2 2 c1) []) (fun t k => XS.iinc X1180.here hx rfl (hb hby d8_37) rfl (l' := (Sh16 a1 1 2 2 c1)) rfl k) ?_
      refine GoW.sg (mkF m 9 (Sh16 a1 1 2 2 c1) []) (fun t k => XS.goto X1180.here hx rfl (pc0 := 40) (pc' := 9) rfl (hb hby d8_40) (by decide) (by decide) k) ?_
      refine GoW.sg (mkF m 10 (Sh16 a1 1 2 2 c1) [(.int 2)]) (fun t k => XS.iloadN X1180.here hx rfl (hb hby d8_9) rfl k) ?_
      refine GoW.sg (mkF m 11 (Sh16 a1 1 2 2 c1) [(.int 2), (.int 2)]) (fun t k => XS.iloadN X1180.here hx rfl (hb hby d8_10) rfl k) ?_
      refine GoW.sg (mkF m 43 (Sh16 a1 1 2 2 c1) []) (fun t k => XS.icmpYes X1180.here hx rfl (pc0 := 11) (pc' := 43) rfl (hb hby d8_11) rfl (by decide) (by decide) (by decide) k) ?_
      refine GoW.sg (mkF m 44 (Sh16 a1 1 2 2 c1) [(.int 1)]) (fun t k => XS.iconst X1180.here hx rfl (hb hby d8_43) k) ?_
      refine GoW.retN X1180 hx (t := .boolean) Bd.returns (by simp) (hb hby d8_44) Bd.notSynchronized ?_ (by decide) (by decide)
      rw [e1180]
      have hq : (FD12 c0 c1 c2 c3 cs) = (1 : Int32) := by unfold FD12; rw [if_neg c1181, if_neg c1182]; try rfl
      exact ⟨by rw [hq] <;> rfl, N1180, rfl⟩
def FD13 (c0 : Int32) (c1 : Int32) (c2 : Int32) (c3 : Int32) (cs : Int32) : Int32 := (if c1 < (48 : Int32) then (0 : Int32) else (if (57 : Int32) < c1 then (0 : Int32) else (if c2 < (48 : Int32) then (0 : Int32) else (if (57 : Int32) < c2 then (0 : Int32) else (1 : Int32)))))
def QD13 (Z : State) (a1 : Addr) (c0 : Int32) (c1 : Int32) (c2 : Int32) (c3 : Int32) (cs : Int32) (vf : Value) (h0 : Heap) (n0 : Nat) (v : Option Value) (h : Heap) (L : List Loc) : Prop := v = some (.int (FD13 c0 c1 c2 c3 cs)) ∧ Fr n0 L ∧ (h = h0)
theorem ef8_rmD13 (m : MethodId) (a1 : Addr) : entryFrame m #[(.ref a1), (.int (1 : Int32)), (.int (3 : Int32))] 5 = (mkF m 0 #[.val (.ref a1), .val (.int 1), .val (.int 3), .unset, .unset] []) := by first | (simp [entryFrame, mkF, argsToLocals, Value.category, maxLocals]; done) | rfl
set_option maxRecDepth 65536 in
set_option maxHeartbeats 40000000 in
theorem rmD13 (l : Launch) (Z : State) (a0 : Array Value) (hw : ∀ d ∈ tables_1, d.before a0 Z = true) (ws : List Jvm.Cond) (a1 : Addr) (c0 : Int32) (c1 : Int32) (c2 : Int32) (c3 : Int32) (cs : Int32) (vf : Value) (h0 : Heap) (n0 : Nat) (P0 : Exa Z h0 a1 "java/lang/String") (P1 : Sta Z h0 "java/lang/String" "COMPACT_STRINGS" "Z" (.int cs)) (P2 : Sta Z h0 "java/lang/StringUTF16" "$assertionsDisabled" "Z" (.int (1 : Int32))) (P3 : Sta Z h0 "java/lang/StringUTF16" "HI_BYTE_SHIFT" "I" (.int (0 : Int32))) (P4 : Sta Z h0 "java/lang/StringUTF16" "LO_BYTE_SHIFT" "I" (.int (8 : Int32))) (P5 : Sta Z h0 "jdk/internal/util/Preconditions" "SIOOBE_FORMATTER" "Ljava/util/function/BiFunction;" vf)    (hS : Str4 Z h0 a1 c0 c1 c2 c3) (hvf : vf.isRef = true) (lo_c0 : ¬ (c0 < (0 : Int32))) (hi_c0 : ¬ ((65535 : Int32) < c0)) (lo_c1 : ¬ (c1 < (0 : Int32))) (hi_c1 : ¬ ((65535 : Int32) < c1)) (lo_c2 : ¬ (c2 < (0 : Int32))) (hi_c2 : ¬ ((65535 : Int32) < c2)) (lo_c3 : ¬ (c3 < (0 : Int32))) (hi_c3 : ¬ ((65535 : Int32) < c3)) (ncs : ¬ (cs = (0 : Int32)))  :
    MetFree l Y8 (head1 (Jvm.Cond.code Y8 prog_10_method_2_code 5 (some .boolean) :: ws) ({ frames := 5, cells := 0, slots := 0, locals := 66 } : Room)) (fun a U => a = #[(.ref a1), (.int (1 : Int32)), (.int (3 : Int32))] ∧ Z.Warmed39 U.vm ∧ U.heap = h0) (fun _ _ _ _ _ => True) (fun _ U o U' => ∃ v L, o = .returned v ∧ (QD13 Z a1 c0 c1 c2 c3 cs vf h0 n0) v U'.heap L ∧ FrameEnd U o U' L 0 0) := by
  refine MetFree.of_bodySF (plainFor_of_name pn_com_example_throttle_throttle_SipSyntax) hisR ?_
  intro p e s m args below meth c s₁ Bd hml0 hP hK
  obtain ⟨rfl, hZ, hh⟩ := hP
  have hx := Bd.exec
  have hby := Bd.bytes
  have hml : c.maxLocals = 5 := hml0
  have hown : s.vm.findClass "com/example/throttle/throttle/SipSyntax" = some m.cls := findClass_of_methodNamed Bd.named
  have hnm := (name_of_methodNamed Bd.named Bd.method).1
  have X0 : Stand p l e ({ frames := 5, cells := 0, slots := 0, locals := 66 } : Room) s m #[(.ref a1), (.int (1 : Int32)), (.int (3 : Int32))] below meth c s₁ [] 0 0 := Stand.of_body Bd
  have e0 : s₁.heap = h0 := by rw [← hh, Bd.state]; rfl
  have N0 := Fr.nil n0
  refine GoW.mk ?_
  refine GoW.st (fun t k => castTop (ef8_rmD13 m a1) k) ?_
  show GoW p e below s (QD13 Z a1 c0 c1 c2 c3 cs vf h0 n0) 0 0 (s₁.setTop (mkF m 0 (Sh7 a1 1 3) []))
  refine GoW.sg (mkF m 1 (Sh7 a1 1 3) [(.int 1)]) (fun t k => XS.iloadN X0.here hx rfl (hb hby d8_0) rfl k) ?_
  refine GoW.sg (mkF m 2 (Sh7 a1 1 3) [(.int 3), (.int 1)]) (fun t k => XS.iloadN X0.here hx rfl (hb hby d8_1) rfl k) ?_
  refine GoW.sg (mkF m 7 (Sh7 a1 1 3) []) (fun t k => XS.icmpYes X0.here hx rfl (pc0 := 2) (pc' := 7) rfl (hb hby d8_2) rfl (by decide) (by decide) (by decide) k) ?_
  refine GoW.sg (mkF m 8 (Sh7 a1 1 3) [(.int 1)]) (fun t k => XS.iloadN X0.here hx rfl (hb hby d8_7) rfl k) ?_
  refine GoW.sg (mkF m 9 (Sh15 a1 1 3 1) []) (fun t k => XS.istoreN X0.here hx rfl (hb hby d8_8) rfl (l' := (Sh15 a1 1 3 1)) rfl k) ?_
  refine GoW.sg (mkF m 10 (Sh15 a1 1 3 1) [(.int 1)]) (fun t k => XS.iloadN X0.here hx rfl (hb hby d8_9) rfl k) ?_
  refine GoW.sg (mkF m 11 (Sh15 a1 1 3 1) [(.int 3), (.int 1)]) (fun t k => XS.iloadN X0.here hx rfl (hb hby d8_10) rfl k) ?_
  refine GoW.sg (mkF m 14 (Sh15 a1 1 3 1) []) (fun t k => XS.icmpNo X0.here hx rfl (hb hby d8_11) rfl (by decide) k) ?_
  refine GoW.sg (mkF m 15 (Sh15 a1 1 3 1) [(.ref a1)]) (fun t k => XS.aloadN X0.here hx rfl (hb hby d8_14) rfl rfl k) ?_
  refine GoW.sg (mkF m 16 (Sh15 a1 1 3 1) [(.int 1), (.ref a1)]) (fun t k => XS.iloadN X0.here hx rfl (hb hby d8_15) rfl k) ?_
  obtain ⟨cq1183, kq1183, q1183a, q1183b, q1183c⟩ := isOf hZ e0 P0
  obtain ⟨_, _, ⟨T1183, L1183, k1183, n1183⟩, -, X1183, ⟨Lc1183, hQ1183, l1183, y1183, z1183⟩, st1183⟩ := X0.virtualBack hx (y := (⟨"java/lang/String", "charAt", "(I)C"⟩ : MethodName)) (z := Y9) hown (mvT hZ (ww hw 39 rfl)) (mvT hZ (ww hw 40 rfl)) (notFace_of_selects (args := #[]) (mvT hZ (ww hw 42 rfl))) (mvT hZ (ww hw 42 rfl)) (mvT hZ (ww hw 41 rfl)) (by decide) (backOf (W := 0) (rmCh1 l Z a0 hw a1 c0 c1 c2 c3 cs vf h0 n0 P0 hS P1 P2 P3 P4 P5 hvf lo_c0 hi_c0 lo_c1 hi_c1 lo_c2 hi_c2 lo_c3 hi_c3 ncs) hZ (ww hw 43 rfl) (ww hw 3 rfl) (by decide) (by decide)) q1183a q1183c (g := (mkF m 16 (Sh15 a1 1 3 1) [(.int 1), (.ref a1)])) rfl (by rw [hml]; rfl) (Steps.refl _) (argsL := [(.int (1 : Int32))]) (rest := []) (lenOf pd_28I29C rfl) rfl (by show 2 * 0 + _ ≤ _; exact Nat.le_of_eq rfl) (hb hby d8_16) (fun _ _ => ⟨rfl, e0, (by decide : 0 + 0 ≤ _), (by decide : 0 + 0 ≤ _)⟩)
  dsimp only [Pt.U, Pt.locs, Pt.cells, Pt.slots] at X1183 l1183 y1183 z1183 st1183 hQ1183
  subst l1183 y1183 z1183
  obtain ⟨rfl, N1183q, e1183⟩ := hQ1183
  have N1183 := Fr.app N0 N1183q
  refine GoW.sg (mkF m 19 (Sh15 a1 1 3 1) [(.int c1)]) (fun t k => st1183.trans k) ?_
  refine GoW.sg (mkF m 21 (Sh16 a1 1 3 1 c1) []) (fun t k => XS.istore X1183.here hx rfl (hb hby d8_19) rfl (l' := (Sh16 a1 1 3 1 c1)) rfl k) ?_
  refine GoW.sg (mkF m 23 (Sh16 a1 1 3 1 c1) [(.int c1)]) (fun t k => XS.iload X1183.here hx rfl (hb hby d8_21) rfl k) ?_
  refine GoW.sg (mkF m 25 (Sh16 a1 1 3 1 c1) [(.int 48), (.int c1)]) (fun t k => XS.bipush X1183.here hx rfl (hb hby d8_23) k) ?_
  by_cases c1184 : c1 < (48 : Int32)
  · refine GoW.sg (mkF m 35 (Sh16 a1 1 3 1 c1) []) (fun t k => XS.icmpYes X1183.here hx rfl (pc0 := 25) (pc' := 35) rfl (hb hby d8_25) rfl (tlt c1184).1 (by decide) (by decide) k) ?_
    refine GoW.sg (mkF m 36 (Sh16 a1 1 3 1 c1) [(.int 0)]) (fun t k => XS.iconst X1183.here hx rfl (hb hby d8_35) k) ?_
    refine GoW.retN X1183 hx (t := .boolean) Bd.returns (by simp) (hb hby d8_36) Bd.notSynchronized ?_ (by decide) (by decide)
    rw [e1183]
    have hq : (FD13 c0 c1 c2 c3 cs) = (0 : Int32) := by unfold FD13; rw [if_pos c1184]; try rfl
    exact ⟨by rw [hq] <;> rfl, N1183, rfl⟩
  · refine GoW.sg (mkF m 28 (Sh16 a1 1 3 1 c1) []) (fun t k => XS.icmpNo X1183.here hx rfl (hb hby d8_25) rfl (flt c1184).1 k) ?_
    refine GoW.sg (mkF m 30 (Sh16 a1 1 3 1 c1) [(.int c1)]) (fun t k => XS.iload X1183.here hx rfl (hb hby d8_28) rfl k) ?_
    refine GoW.sg (mkF m 32 (Sh16 a1 1 3 1 c1) [(.int 57), (.int c1)]) (fun t k => XS.bipush X1183.here hx rfl (hb hby d8_30) k) ?_
    by_cases c1185 : (57 : Int32) < c1
    · refine GoW.sg (mkF m 35 (Sh16 a1 1 3 1 c1) []) (fun t k => XS.icmpNo X1183.here hx rfl (hb hby d8_32) rfl (tlt c1185).2.2.2 k) ?_
      refine GoW.sg (mkF m 36 (Sh16 a1 1 3 1 c1) [(.int 0)]) (fun t k => XS.iconst X1183.here hx rfl (hb hby d8_35) k) ?_
      refine GoW.retN X1183 hx (t := .boolean) Bd.returns (by simp) (hb hby d8_36) Bd.notSynchronized ?_ (by decide) (by decide)
      rw [e1183]
      have hq : (FD13 c0 c1 c2 c3 cs) = (0 : Int32) := by unfold FD13; rw [if_neg c1184, if_pos c1185]; try rfl
      exact ⟨by rw [hq] <;> rfl, N1183, rfl⟩
    · refine GoW.sg (mkF m 37 (Sh16 a1 1 3 1 c1) []) (fun t k => XS.icmpYes X1183.here hx rfl (pc0 := 32) (pc' := 37) rfl (hb hby d8_32) rfl (flt c1185).2.2.2 (by decide) (by decide) k) ?_
      refine GoW.sg (mkF m 40 (Sh16 a1 1 3 2 c1) []) (fun t k => XS.iinc X1183.here hx rfl (hb hby d8_37) rfl (l' := (Sh16 a1 1 3 2 c1)) rfl k) ?_
      refine GoW.sg (mkF m 9 (Sh16 a1 1 3 2 c1) []) (fun t k => XS.goto X1183.here hx rfl (pc0 := 40) (pc' := 9) rfl (hb hby d8_40) (by decide) (by decide) k) ?_
      refine GoW.sg (mkF m 10 (Sh16 a1 1 3 2 c1) [(.int 2)]) (fun t k => XS.iloadN X1183.here hx rfl (hb hby d8_9) rfl k) ?_
      refine GoW.sg (mkF m 11 (Sh16 a1 1 3 2 c1) [(.int 3), (.int 2)]) (fun t k => XS.iloadN X1183.here hx rfl (hb hby d8_10) rfl k) ?_
      refine GoW.sg (mkF m 14 (Sh16 a1 1 3 2 c1) []) (fun t k => XS.icmpNo X1183.here hx rfl (hb hby d8_11) rfl (by decide) k) ?_
      refine GoW.sg (mkF m 15 (Sh16 a1 1 3 2 c1) [(.ref a1)]) (fun t k => XS.aloadN X1183.here hx rfl (hb hby d8_14) rfl rfl k) ?_
      refine GoW.sg (mkF m 16 (Sh16 a1 1 3 2 c1) [(.int 2), (.ref a1)]) (fun t k => XS.iloadN X1183.here hx rfl (hb hby d8_15) rfl k) ?_
      obtain ⟨cq1186, kq1186, q1186a, q1186b, q1186c⟩ := isOf hZ e1183 P0
      obtain ⟨_, _, ⟨T1186, L1186, k1186, n1186⟩, -, X1186, ⟨Lc1186, hQ1186, l1186, y1186, z1186⟩, st1186⟩ := X1183.virtualBack hx (y := (⟨"java/lang/String", "charAt", "(I)C"⟩ : MethodName)) (z := Y9) hown (mvT hZ (ww hw 39 rfl)) (mvT hZ (ww hw 40 rfl)) (notFace_of_selects (args := #[]) (mvT hZ (ww hw 42 rfl))) (mvT hZ (ww hw 42 rfl)) (mvT hZ (ww hw 41 rfl)) (by decide) (backOf (W := 0) (rmCh2 l Z a0 hw a1 c0 c1 c2 c3 cs vf h0 n0 P0 hS P1 P2 P3 P4 P5 hvf lo_c0 hi_c0 lo_c1 hi_c1 lo_c2 hi_c2 lo_c3 hi_c3 ncs) hZ (ww hw 43 rfl) (ww hw 3 rfl) (by decide) (by decide)) q1186a q1186c (g := (mkF m 16 (Sh16 a1 1 3 2 c1) [(.int 2), (.ref a1)])) rfl (by rw [hml]; rfl) (Steps.refl _) (argsL := [(.int (2 : Int32))]) (rest := []) (lenOf pd_28I29C rfl) rfl (by show 2 * 0 + _ ≤ _; exact Nat.le_of_eq rfl) (hb hby d8_16) (fun _ _ => ⟨rfl, e1183, (by decide : 0 + 0 ≤ _), (by decide : 0 + 0 ≤ _)⟩)
      dsimp only [Pt.U, Pt.locs, Pt.cells, Pt.slots] at X1186 l1186 y1186 z1186 st1186 hQ1186
      subst l1186 y1186 z1186
      obtain ⟨rfl, N1186q, e1186⟩ := hQ1186
      have N1186 := Fr.app N1183 N1186q
      refine GoW.sg (mkF m 19 (Sh16 a1 1 3 2 c1) [(.int c2)]) (fun t k => st1186.trans k) ?_
      refine GoW.sg (mkF m 21 (Sh16 a1 1 3 2 c2) []) (fun t k => XS.istore X1186.here hx rfl (hb hby d8_19) rfl (l' := (Sh16 a1 1 3 2 c2)) rfl k) ?_
      refine GoW.sg (mkF m 23 (Sh16 a1 1 3 2 c2) [(.int c2)]) (fun t k => XS.iload X1186.here hx rfl (hb hby d8_21) rfl k) ?_
      refine GoW.sg (mkF m 25 (Sh16 a1 1 3 2 c2) [(.int 48), (.int c2)]) (fun t k => XS.bipush X1186.here hx rfl (hb hby d8_23) k) ?_
      by_cases c1187 : c2 < (48 : Int32)
      · refine GoW.sg (mkF m 35 (Sh16 a1 1 3 2 c2) []) (fun t k => XS.icmpYes X1186.here hx rfl (pc0 := 25) (pc' := 35) rfl (hb hby d8_25) rfl (tlt c1187).1 (by decide) (by decide) k) ?_
        refine GoW.sg (mkF m 36 (Sh16 a1 1 3 2 c2) [(.int 0)]) (fun t k => XS.iconst X1186.here hx rfl (hb hby d8_35) k) ?_
        refine GoW.retN X1186 hx (t := .boolean) Bd.returns (by simp) (hb hby d8_36) Bd.notSynchronized ?_ (by decide) (by decide)
        rw [e1186]
        have hq : (FD13 c0 c1 c2 c3 cs) = (0 : Int32) := by unfold FD13; rw [if_neg c1184, if_neg c1185, if_pos c1187]; try rfl
        exact ⟨by rw [hq] <;> rfl, N1186, rfl⟩
      · refine GoW.sg (mkF m 28 (Sh16 a1 1 3 2 c2) []) (fun t k => XS.icmpNo X1186.here hx rfl (hb hby d8_25) rfl (flt c1187).1 k) ?_
        refine GoW.sg (mkF m 30 (Sh16 a1 1 3 2 c2) [(.int c2)]) (fun t k => XS.iload X1186.here hx rfl (hb hby d8_28) rfl k) ?_
        refine GoW.sg (mkF m 32 (Sh16 a1 1 3 2 c2) [(.int 57), (.int c2)]) (fun t k => XS.bipush X1186.here hx rfl (hb hby d8_30) k) ?_
        by_cases c1188 : (57 : Int32) < c2
        · refine GoW.sg (mkF m 35 (Sh16 a1 1 3 2 c2) []) (fun t k => XS.icmpNo X1186.here hx rfl (hb hby d8_32) rfl (tlt c1188).2.2.2 k) ?_
          refine GoW.sg (mkF m 36 (Sh16 a1 1 3 2 c2) [(.int 0)]) (fun t k => XS.iconst X1186.here hx rfl (hb hby d8_35) k) ?_
          refine GoW.retN X1186 hx (t := .boolean) Bd.returns (by simp) (hb hby d8_36) Bd.notSynchronized ?_ (by decide) (by decide)
          rw [e1186]
          have hq : (FD13 c0 c1 c2 c3 cs) = (0 : Int32) := by unfold FD13; rw [if_neg c1184, if_neg c1185, if_neg c1187, if_pos c1188]; try rfl
          exact ⟨by rw [hq] <;> rfl, N1186, rfl⟩
        · refine GoW.sg (mkF m 37 (Sh16 a1 1 3 2 c2) []) (fun t k => XS.icmpYes X1186.here hx rfl (pc0 := 32) (pc' := 37) rfl (hb hby d8_32) rfl (flt c1188).2.2.2 (by decide) (by decide) k) ?_
          refine GoW.sg (mkF m 40 (Sh16 a1 1 3 3 c2) []) (fun t k => XS.iinc X1186.here hx rfl (hb hby d8_37) rfl (l' := (Sh16 a1 1 3 3 c2)) rfl k) ?_
          refine GoW.sg (mkF m 9 (Sh16 a1 1 3 3 c2) []) (fun t k => XS.goto X1186.here hx rfl (pc0 := 40) (pc' := 9) rfl (hb hby d8_40) (by decide) (by decide) k) ?_
          refine GoW.sg (mkF m 10 (Sh16 a1 1 3 3 c2) [(.int 3)]) (fun t k => XS.iloadN X1186.here hx rfl (hb hby d8_9) rfl k) ?_
          refine GoW.sg (mkF m 11 (Sh16 a1 1 3 3 c2) [(.int 3), (.int 3)]) (fun t k => XS.iloadN X1186.here hx rfl (hb hby d8_10) rfl k) ?_
          refine GoW.sg (mkF m 43 (Sh16 a1 1 3 3 c2) []) (fun t k => XS.icmpYes X1186.here hx rfl (pc0 := 11) (pc' := 43) rfl (hb hby d8_11) rfl (by decide) (by decide) (by decide) k) ?_
          refine GoW.sg (mkF m 44 (Sh16 a1 1 3 3 c2) [(.int 1)]) (fun t k => XS.iconst X1186.here hx rfl (hb hby d8_43) k) ?_
          refine GoW.retN X1186 hx (t := .boolean) Bd.returns (by simp) (hb hby d8_44) Bd.notSynchronized ?_ (by decide) (by decide)
          rw [e1186]
          have hq : (FD13 c0 c1 c2 c3 cs) = (1 : Int32) := by unfold FD13; rw [if_neg c1184, if_neg c1185, if_neg c1187, if_neg c1188]; try rfl
          exact ⟨by rw [hq] <;> rfl, N1186, rfl⟩
def FD14 (c0 : Int32) (c1 : Int32) (c2 : Int32) (c3 : Int32) (cs : Int32) : Int32 := (if c1 < (48 : Int32) then (0 : Int32) else (if (57 : Int32) < c1 then (0 : Int32) else (if c2 < (48 : Int32) then (0 : Int32) else (if (57 : Int32) < c2 then (0 : Int32) else (if c3 < (48 : Int32) then (0 : Int32) else (if (57 : Int32) < c3 then (0 : Int32) else (1 : Int32)))))))
def QD14 (Z : State) (a1 : Addr) (c0 : Int32) (c1 : Int32) (c2 : Int32) (c3 : Int32) (cs : Int32) (vf : Value) (h0 : Heap) (n0 : Nat) (v : Option Value) (h : Heap) (L : List Loc) : Prop := v = some (.int (FD14 c0 c1 c2 c3 cs)) ∧ Fr n0 L ∧ (h = h0)
theorem ef8_rmD14 (m : MethodId) (a1 : Addr) : entryFrame m #[(.ref a1), (.int (1 : Int32)), (.int (4 : Int32))] 5 = (mkF m 0 #[.val (.ref a1), .val (.int 1), .val (.int 4), .unset, .unset] []) := by first | (simp [entryFrame, mkF, argsToLocals, Value.category, maxLocals]; done) | rfl
set_option maxRecDepth 65536 in
set_option maxHeartbeats 40000000 in
theorem rmD14 (l : Launch) (Z : State) (a0 : Array Value) (hw : ∀ d ∈ tables_1, d.before a0 Z = true) (ws : List Jvm.Cond) (a1 : Addr) (c0 : Int32) (c1 : Int32) (c2 : Int32) (c3 : Int32) (cs : Int32) (vf : Value) (h0 : Heap) (n0 : Nat) (P0 : Exa Z h0 a1 "java/lang/String") (P1 : Sta Z h0 "java/lang/String" "COMPACT_STRINGS" "Z" (.int cs)) (P2 : Sta Z h0 "java/lang/StringUTF16" "$assertionsDisabled" "Z" (.int (1 : Int32))) (P3 : Sta Z h0 "java/lang/StringUTF16" "HI_BYTE_SHIFT" "I" (.int (0 : Int32))) (P4 : Sta Z h0 "java/lang/StringUTF16" "LO_BYTE_SHIFT" "I" (.int (8 : Int32))) (P5 : Sta Z h0 "jdk/internal/util/Preconditions" "SIOOBE_FORMATTER" "Ljava/util/function/BiFunction;" vf)    (hS : Str4 Z h0 a1 c0 c1 c2 c3) (hvf : vf.isRef = true) (lo_c0 : ¬ (c0 < (0 : Int32))) (hi_c0 : ¬ ((65535 : Int32) < c0)) (lo_c1 : ¬ (c1 < (0 : Int32))) (hi_c1 : ¬ ((65535 : Int32) < c1)) (lo_c2 : ¬ (c2 < (0 : Int32))) (hi_c2 : ¬ ((65535 : Int32) < c2)) (lo_c3 : ¬ (c3 < (0 : Int32))) (hi_c3 : ¬ ((65535 : Int32) < c3)) (ncs : ¬ (cs = (0 : Int32)))  :
    MetFree l Y8 (head1 (Jvm.Cond.code Y8 prog_10_method_2_code 5 (some .boolean) :: ws) ({ frames := 5, cells := 0, slots := 0, locals := 66 } : Room)) (fun a U => a = #[(.ref a1), (.int (1 : Int32)), (.int (4 : Int32))] ∧ Z.Warmed39 U.vm ∧ U.heap = h0) (fun _ _ _ _ _ => True) (fun _ U o U' => ∃ v L, o = .returned v ∧ (QD14 Z a1 c0 c1 c2 c3 cs vf h0 n0) v U'.heap L ∧ FrameEnd U o U' L 0 0) := by
  refine MetFree.of_bodySF (plainFor_of_name pn_com_example_throttle_throttle_SipSyntax) hisR ?_
  intro p e s m args below meth c s₁ Bd hml0 hP hK
  obtain ⟨rfl, hZ, hh⟩ := hP
  have hx := Bd.exec
  have hby := Bd.bytes
  have hml : c.maxLocals = 5 := hml0
  have hown : s.vm.findClass "com/example/throttle/throttle/SipSyntax" = some m.cls := findClass_of_methodNamed Bd.named
  have hnm := (name_of_methodNamed Bd.named Bd.method).1
  have X0 : Stand p l e ({ frames := 5, cells := 0, slots := 0, locals := 66 } : Room) s m #[(.ref a1), (.int (1 : Int32)), (.int (4 : Int32))] below meth c s₁ [] 0 0 := Stand.of_body Bd
  have e0 : s₁.heap = h0 := by rw [← hh, Bd.state]; rfl
  have N0 := Fr.nil n0
  refine GoW.mk ?_
  refine GoW.st (fun t k => castTop (ef8_rmD14 m a1) k) ?_
  show GoW p e below s (QD14 Z a1 c0 c1 c2 c3 cs vf h0 n0) 0 0 (s₁.setTop (mkF m 0 (Sh7 a1 1 4) []))
  refine GoW.sg (mkF m 1 (Sh7 a1 1 4) [(.int 1)]) (fun t k => XS.iloadN X0.here hx rfl (hb hby d8_0) rfl k) ?_
  refine GoW.sg (mkF m 2 (Sh7 a1 1 4) [(.int 4), (.int 1)]) (fun t k => XS.iloadN X0.here hx rfl (hb hby d8_1) rfl k) ?_
  refine GoW.sg (mkF m 7 (Sh7 a1 1 4) []) (fun t k => XS.icmpYes X0.here hx rfl (pc0 := 2) (pc' := 7) rfl (hb hby d8_2) rfl (by decide) (by decide) (by decide) k) ?_
  refine GoW.sg (mkF m 8 (Sh7 a1 1 4) [(.int 1)]) (fun t k => XS.iloadN X0.here hx rfl (hb hby d8_7) rfl k) ?_
  refine GoW.sg (mkF m 9 (Sh15 a1 1 4 1) []) (fun t k => XS.istoreN X0.here hx rfl (hb hby d8_8) rfl (l' := (Sh15 a1 1 4 1)) rfl k) ?_
  refine GoW.sg (mkF m 10 (Sh15 a1 1 4 1) [(.int 1)]) (fun t k => XS.iloadN X0.here hx rfl (hb hby d8_9) rfl k) ?_
  refine GoW.sg (mkF m 11 (Sh15 a1 1 4 1) [(.int 4), (.int 1)]) (fun t k => XS.iloadN X0.here hx rfl (hb hby d8_10) rfl k) ?_
  refine GoW.sg (mkF m 14 (Sh15 a1 1 4 1) []) (fun t k => XS.icmpNo X0.here hx rfl (hb hby d8_11) rfl (by decide) k) ?_
  refine GoW.sg (mkF m 15 (Sh15 a1 1 4 1) [(.ref a1)]) (fun t k => XS.aloadN X0.here hx rfl (hb hby d8_14) rfl rfl k) ?_
  refine GoW.sg (mkF m 16 (Sh15 a1 1 4 1) [(.int 1), (.ref a1)]) (fun t k => XS.iloadN X0.here hx rfl (hb hby d8_15) rfl k) ?_
  obtain ⟨cq1189, kq1189, q1189a, q1189b, q1189c⟩ := isOf hZ e0 P0
  obtain ⟨_, _, ⟨T1189, L1189, k1189, n1189⟩, -, X1189, ⟨Lc1189, hQ1189, l1189, y1189, z1189⟩, st1189⟩ := X0.virtualBack hx (y := (⟨"java/lang/String", "charAt", "(I)C"⟩ : MethodName)) (z := Y9) hown (mvT hZ (ww hw 39 rfl)) (mvT hZ (ww hw 40 rfl)) (notFace_of_selects (args := #[]) (mvT hZ (ww hw 42 rfl))) (mvT hZ (ww hw 42 rfl)) (mvT hZ (ww hw 41 rfl)) (by decide) (backOf (W := 0) (rmCh1 l Z a0 hw a1 c0 c1 c2 c3 cs vf h0 n0 P0 hS P1 P2 P3 P4 P5 hvf lo_c0 hi_c0 lo_c1 hi_c1 lo_c2 hi_c2 lo_c3 hi_c3 ncs) hZ (ww hw 43 rfl) (ww hw 3 rfl) (by decide) (by decide)) q1189a q1189c (g := (mkF m 16 (Sh15 a1 1 4 1) [(.int 1), (.ref a1)])) rfl (by rw [hml]; rfl) (Steps.refl _) (argsL := [(.int (1 : Int32))]) (rest := []) (lenOf pd_28I29C rfl) rfl (by show 2 * 0 + _ ≤ _; exact Nat.le_of_eq rfl) (hb hby d8_16) (fun _ _ => ⟨rfl, e0, (by decide : 0 + 0 ≤ _), (by decide : 0 + 0 ≤ _)⟩)
  dsimp only [Pt.U, Pt.locs, Pt.cells, Pt.slots] at X1189 l1189 y1189 z1189 st1189 hQ1189
  subst l1189 y1189 z1189
  obtain ⟨rfl, N1189q, e1189⟩ := hQ1189
  have N1189 := Fr.app N0 N1189q
  refine GoW.sg (mkF m 19 (Sh15 a1 1 4 1) [(.int c1)]) (fun t k => st1189.trans k) ?_
  refine GoW.sg (mkF m 21 (Sh16 a1 1 4 1 c1) []) (fun t k => XS.istore X1189.here hx rfl (hb hby d8_19) rfl (l' := (Sh16 a1 1 4 1 c1)) rfl k) ?_
  refine GoW.sg (mkF m 23 (Sh16 a1 1 4 1 c1) [(.int c1)]) (fun t k => XS.iload X1189.here hx rfl (hb hby d8_21) rfl k) ?_
  refine GoW.sg (mkF m 25 (Sh16 a1 1 4 1 c1) [(.int 48), (.int c1)]) (fun t k => XS.bipush X1189.here hx rfl (hb hby d8_23) k) ?_
  by_cases c1190 : c1 < (48 : Int32)
  · refine GoW.sg (mkF m 35 (Sh16 a1 1 4 1 c1) []) (fun t k => XS.icmpYes X1189.here hx rfl (pc0 := 25) (pc' := 35) rfl (hb hby d8_25) rfl (tlt c1190).1 (by decide) (by decide) k) ?_
    refine GoW.sg (mkF m 36 (Sh16 a1 1 4 1 c1) [(.int 0)]) (fun t k => XS.iconst X1189.here hx rfl (hb hby d8_35) k) ?_
    refine GoW.retN X1189 hx (t := .boolean) Bd.returns (by simp) (hb hby d8_36) Bd.notSynchronized ?_ (by decide) (by decide)
    rw [e1189]
    have hq : (FD14 c0 c1 c2 c3 cs) = (0 : Int32) := by unfold FD14; rw [if_pos c1190]; try rfl
    exact ⟨by rw [hq] <;> rfl, N1189, rfl⟩
  · refine GoW.sg (mkF m 28 (Sh16 a1 1 4 1 c1) []) (fun t k => XS.icmpNo X1189.here hx rfl (hb hby d8_25) rfl (flt c1190).1 k) ?_
    refine GoW.sg (mkF m 30 (Sh16 a1 1 4 1 c1) [(.int c1)]) (fun t k => XS.iload X1189.here hx rfl (hb hby d8_28) rfl k) ?_
    refine GoW.sg (mkF m 32 (Sh16 a1 1 4 1 c1) [(.int 57), (.int c1)]) (fun t k => XS.bipush X1189.here hx rfl (hb hby d8_30) k) ?_
    by_cases c1191 : (57 : Int32) < c1
    · refine GoW.sg (mkF m 35 (Sh16 a1 1 4 1 c1) []) (fun t k => XS.icmpNo X1189.here hx rfl (hb hby d8_32) rfl (tlt c1191).2.2.2 k) ?_
      refine GoW.sg (mkF m 36 (Sh16 a1 1 4 1 c1) [(.int 0)]) (fun t k => XS.iconst X1189.here hx rfl (hb hby d8_35) k) ?_
      refine GoW.retN X1189 hx (t := .boolean) Bd.returns (by simp) (hb hby d8_36) Bd.notSynchronized ?_ (by decide) (by decide)
      rw [e1189]
      have hq : (FD14 c0 c1 c2 c3 cs) = (0 : Int32) := by unfold FD14; rw [if_neg c1190, if_pos c1191]; try rfl
      exact ⟨by rw [hq] <;> rfl, N1189, rfl⟩
    · refine GoW.sg (mkF m 37 (Sh16 a1 1 4 1 c1) []) (fun t k => XS.icmpYes X1189.here hx rfl (pc0 := 32) (pc' := 37) rfl (hb hby d8_32) rfl (flt c1191).2.2.2 (by decide) (by decide) k) ?_
      refine GoW.sg (mkF m 40 (Sh16 a1 1 4 2 c1) []) (fun t k => XS.iinc X1189.here hx rfl (hb hby d8_37) rfl (l' := (Sh16 a1 1 4 2 c1)) rfl k) ?_
      refine GoW.sg (mkF m 9 (Sh16 a1 1 4 2 c1) []) (fun t k => XS.goto X1189.here hx rfl (pc0 := 40) (pc' := 9) rfl (hb hby d8_40) (by decide) (by decide) k) ?_
      refine GoW.sg (mkF m 10 (Sh16 a1 1 4 2 c1) [(.int 2)]) (fun t k => XS.iloadN X1189.here hx rfl (hb hby d8_9) rfl k) ?_
      refine GoW.sg (mkF m 11 (Sh16 a1 1 4 2 c1) [(.int 4), (.int 2)]) (fun t k => XS.iloadN X1189.here hx rfl (hb hby d8_10) rfl k) ?_
      refine GoW.sg (mkF m 14 (Sh16 a1 1 4 2 c1) []) (fun t k => XS.icmpNo X1189.here hx rfl (hb hby d8_11) rfl (by decide) k) ?_
      refine GoW.sg (mkF m 15 (Sh16 a1 1 4 2 c1) [(.ref a1)]) (fun t k => XS.aloadN X1189.here hx rfl (hb hby d8_14) rfl rfl k) ?_
      refine GoW.sg (mkF m 16 (Sh16 a1 1 4 2 c1) [(.int 2), (.ref a1)]) (fun t k => XS.iloadN X1189.here hx rfl (hb hby d8_15) rfl k) ?_
      obtain ⟨cq1192, kq1192, q1192a, q1192b, q1192c⟩ := isOf hZ e1189 P0
      obtain ⟨_, _, ⟨T1192, L1192, k1192, n1192⟩, -, X1192, ⟨Lc1192, hQ1192, l1192, y1192, z1192⟩, st1192⟩ := X1189.virtualBack hx (y := (⟨"java/lang/String", "charAt", "(I)C"⟩ : MethodName)) (z := Y9) hown (mvT hZ (ww hw 39 rfl)) (mvT hZ (ww hw 40 rfl)) (notFace_of_selects (args := #[]) (mvT hZ (ww hw 42 rfl))) (mvT hZ (ww hw 42 rfl)) (mvT hZ (ww hw 41 rfl)) (by decide) (backOf (W := 0) (rmCh2 l Z a0 hw a1 c0 c1 c2 c3 cs vf h0 n0 P0 hS P1 P2 P3 P4 P5 hvf lo_c0 hi_c0 lo_c1 hi_c1 lo_c2 hi_c2 lo_c3 hi_c3 ncs) hZ (ww hw 43 rfl) (ww hw 3 rfl) (by decide) (by decide)) q1192a q1192c (g := (mkF m 16 (Sh16 a1 1 4 2 c1) [(.int 2), (.ref a1)])) rfl (by rw [hml]; rfl) (Steps.refl _) (argsL := [(.int (2 : Int32))]) (rest := []) (lenOf pd_28I29C rfl) rfl (by show 2 * 0 + _ ≤ _; exact Nat.le_of_eq rfl) (hb hby d8_16) (fun _ _ => ⟨rfl, e1189, (by decide : 0 + 0 ≤ _), (by decide : 0 + 0 ≤ _)⟩)
      dsimp only [Pt.U, Pt.locs, Pt.cells, Pt.slots] at X1192 l1192 y1192 z1192 st1192 hQ1192
      subst l1192 y1192 z1192
      obtain ⟨rfl, N1192q, e1192⟩ := hQ1192
      have N1192 := Fr.app N1189 N1192q
      refine GoW.sg (mkF m 19 (Sh16 a1 1 4 2 c1) [(.int c2)]) (fun t k => st1192.trans k) ?_
      refine GoW.sg (mkF m 21 (Sh16 a1 1 4 2 c2) []) (fun t k => XS.istore X1192.here hx rfl (hb hby d8_19) rfl (l' := (Sh16 a1 1 4 2 c2)) rfl k) ?_
      refine GoW.sg (mkF m 23 (Sh16 a1 1 4 2 c2) [(.int c2)]) (fun t k => XS.iload X1192.here hx rfl (hb hby d8_21) rfl k) ?_
      refine GoW.sg (mkF m 25 (Sh16 a1 1 4 2 c2) [(.int 48), (.int c2)]) (fun t k => XS.bipush X1192.here hx rfl (hb hby d8_23) k) ?_
      by_cases c1193 : c2 < (48 : Int32)
      · refine GoW.sg (mkF m 35 (Sh16 a1 1 4 2 c2) []) (fun t k => XS.icmpYes X1192.here hx rfl (pc0 := 25) (pc' := 35) rfl (hb hby d8_25) rfl (tlt c1193).1 (by decide) (by decide) k) ?_
        refine GoW.sg (mkF m 36 (Sh16 a1 1 4 2 c2) [(.int 0)]) (fun t k => XS.iconst X1192.here hx rfl (hb hby d8_35) k) ?_
        refine GoW.retN X1192 hx (t := .boolean) Bd.returns (by simp) (hb hby d8_36) Bd.notSynchronized ?_ (by decide) (by decide)
        rw [e1192]
        have hq : (FD14 c0 c1 c2 c3 cs) = (0 : Int32) := by unfold FD14; rw [if_neg c1190, if_neg c1191, if_pos c1193]; try rfl
        exact ⟨by rw [hq] <;> rfl, N1192, rfl⟩
      · refine GoW.sg (mkF m 28 (Sh16 a1 1 4 2 c2) []) (fun t k => XS.icmpNo X1192.here hx rfl (hb hby d8_25) rfl (flt c1193).1 k) ?_
        refine GoW.sg (mkF m 30 (Sh16 a1 1 4 2 c2) [(.int c2)]) (fun t k => XS.iload X1192.here hx rfl (hb hby d8_28) rfl k) ?_
        refine GoW.sg (mkF m 32 (Sh16 a1 1 4 2 c2) [(.int 57), (.int c2)]) (fun t k => XS.bipush X1192.here hx rfl (hb hby d8_30) k) ?_
        by_cases c1194 : (57 : Int32) < c2
        · refine GoW.sg (mkF m 35 (Sh16 a1 1 4 2 c2) []) (fun t k => XS.icmpNo X1192.here hx rfl (hb hby d8_32) rfl (tlt c1194).2.2.2 k) ?_
          refine GoW.sg (mkF m 36 (Sh16 a1 1 4 2 c2) [(.int 0)]) (fun t k => XS.iconst X1192.here hx rfl (hb hby d8_35) k) ?_
          refine GoW.retN X1192 hx (t := .boolean) Bd.returns (by simp) (hb hby d8_36) Bd.notSynchronized ?_ (by decide) (by decide)
          rw [e1192]
          have hq : (FD14 c0 c1 c2 c3 cs) = (0 : Int32) := by unfold FD14; rw [if_neg c1190, if_neg c1191, if_neg c1193, if_pos c1194]; try rfl
          exact ⟨by rw [hq] <;> rfl, N1192, rfl⟩
        · refine GoW.sg (mkF m 37 (Sh16 a1 1 4 2 c2) []) (fun t k => XS.icmpYes X1192.here hx rfl (pc0 := 32) (pc' := 37) rfl (hb hby d8_32) rfl (flt c1194).2.2.2 (by decide) (by decide) k) ?_
          refine GoW.sg (mkF m 40 (Sh16 a1 1 4 3 c2) []) (fun t k => XS.iinc X1192.here hx rfl (hb hby d8_37) rfl (l' := (Sh16 a1 1 4 3 c2)) rfl k) ?_
          refine GoW.sg (mkF m 9 (Sh16 a1 1 4 3 c2) []) (fun t k => XS.goto X1192.here hx rfl (pc0 := 40) (pc' := 9) rfl (hb hby d8_40) (by decide) (by decide) k) ?_
          refine GoW.sg (mkF m 10 (Sh16 a1 1 4 3 c2) [(.int 3)]) (fun t k => XS.iloadN X1192.here hx rfl (hb hby d8_9) rfl k) ?_
          refine GoW.sg (mkF m 11 (Sh16 a1 1 4 3 c2) [(.int 4), (.int 3)]) (fun t k => XS.iloadN X1192.here hx rfl (hb hby d8_10) rfl k) ?_
          refine GoW.sg (mkF m 14 (Sh16 a1 1 4 3 c2) []) (fun t k => XS.icmpNo X1192.here hx rfl (hb hby d8_11) rfl (by decide) k) ?_
          refine GoW.sg (mkF m 15 (Sh16 a1 1 4 3 c2) [(.ref a1)]) (fun t k => XS.aloadN X1192.here hx rfl (hb hby d8_14) rfl rfl k) ?_
          refine GoW.sg (mkF m 16 (Sh16 a1 1 4 3 c2) [(.int 3), (.ref a1)]) (fun t k => XS.iloadN X1192.here hx rfl (hb hby d8_15) rfl k) ?_
          obtain ⟨cq1195, kq1195, q1195a, q1195b, q1195c⟩ := isOf hZ e1192 P0
          obtain ⟨_, _, ⟨T1195, L1195, k1195, n1195⟩, -, X1195, ⟨Lc1195, hQ1195, l1195, y1195, z1195⟩, st1195⟩ := X1192.virtualBack hx (y := (⟨"java/lang/String", "charAt", "(I)C"⟩ : MethodName)) (z := Y9) hown (mvT hZ (ww hw 39 rfl)) (mvT hZ (ww hw 40 rfl)) (notFace_of_selects (args := #[]) (mvT hZ (ww hw 42 rfl))) (mvT hZ (ww hw 42 rfl)) (mvT hZ (ww hw 41 rfl)) (by decide) (backOf (W := 0) (rmCh3 l Z a0 hw a1 c0 c1 c2 c3 cs vf h0 n0 P0 hS P1 P2 P3 P4 P5 hvf lo_c0 hi_c0 lo_c1 hi_c1 lo_c2 hi_c2 lo_c3 hi_c3 ncs) hZ (ww hw 43 rfl) (ww hw 3 rfl) (by decide) (by decide)) q1195a q1195c (g := (mkF m 16 (Sh16 a1 1 4 3 c2) [(.int 3), (.ref a1)])) rfl (by rw [hml]; rfl) (Steps.refl _) (argsL := [(.int (3 : Int32))]) (rest := []) (lenOf pd_28I29C rfl) rfl (by show 2 * 0 + _ ≤ _; exact Nat.le_of_eq rfl) (hb hby d8_16) (fun _ _ => ⟨rfl, e1192, (by decide : 0 + 0 ≤ _), (by decide : 0 + 0 ≤ _)⟩)
          dsimp only [Pt.U, Pt.locs, Pt.cells, Pt.slots] at X1195 l1195 y1195 z1195 st1195 hQ1195
          subst l1195 y1195 z1195
          obtain ⟨rfl, N1195q, e1195⟩ := hQ1195
          have N1195 := Fr.app N1192 N1195q
          refine GoW.sg (mkF m 19 (Sh16 a1 1 4 3 c2) [(.int c3)]) (fun t k => st1195.trans k) ?_
          refine GoW.sg (mkF m 21 (Sh16 a1 1 4 3 c3) []) (fun t k => XS.istore X1195.here hx rfl (hb hby d8_19) rfl (l' := (Sh16 a1 1 4 3 c3)) rfl k) ?_
          refine GoW.sg (mkF m 23 (Sh16 a1 1 4 3 c3) [(.int c3)]) (fun t k => XS.iload X1195.here hx rfl (hb hby d8_21) rfl k) ?_
          refine GoW.sg (mkF m 25 (Sh16 a1 1 4 3 c3) [(.int 48), (.int c3)]) (fun t k => XS.bipush X1195.here hx rfl (hb hby d8_23) k) ?_
          by_cases c1196 : c3 < (48 : Int32)
          · refine GoW.sg (mkF m 35 (Sh16 a1 1 4 3 c3) []) (fun t k => XS.icmpYes X1195.here hx rfl (pc0 := 25) (pc' := 35) rfl (hb hby d8_25) rfl (tlt c1196).1 (by decide) (by decide) k) ?_
            refine GoW.sg (mkF m 36 (Sh16 a1 1 4 3 c3) [(.int 0)]) (fun t k => XS.iconst X1195.here hx rfl (hb hby d8_35) k) ?_
            refine GoW.retN X1195 hx (t := .boolean) Bd.returns (by simp) (hb hby d8_36) Bd.notSynchronized ?_ (by decide) (by decide)
            rw [e1195]
            have hq : (FD14 c0 c1 c2 c3 cs) = (0 : Int32) := by unfold FD14; rw [if_neg c1190, if_neg c1191, if_neg c1193, if_neg c1194, if_pos c1196]; try rfl
            exact ⟨by rw [hq] <;> rfl, N1195, rfl⟩
          · refine GoW.sg (mkF m 28 (Sh16 a1 1 4 3 c3) []) (fun t k => XS.icmpNo X1195.here hx rfl (hb hby d8_25) rfl (flt c1196).1 k) ?_
            refine GoW.sg (mkF m 30 (Sh16 a1 1 4 3 c3) [(.int c3)]) (fun t k => XS.iload X1195.here hx rfl (hb hby d8_28) rfl k) ?_
            refine GoW.sg (mkF m 32 (Sh16 a1 1 4 3 c3) [(.int 57), (.int c3)]) (fun t k => XS.bipush X1195.here hx rfl (hb hby d8_30) k) ?_
            by_cases c1197 : (57 : Int32) < c3
            · refine GoW.sg (mkF m 35 (Sh16 a1 1 4 3 c3) []) (fun t k => XS.icmpNo X1195.here hx rfl (hb hby d8_32) rfl (tlt c1197).2.2.2 k) ?_
              refine GoW.sg (mkF m 36 (Sh16 a1 1 4 3 c3) [(.int 0)]) (fun t k => XS.iconst X1195.here hx rfl (hb hby d8_35) k) ?_
              refine GoW.retN X1195 hx (t := .boolean) Bd.returns (by simp) (hb hby d8_36) Bd.notSynchronized ?_ (by decide) (by decide)
              rw [e1195]
              have hq : (FD14 c0 c1 c2 c3 cs) = (0 : Int32) := by unfold FD14; rw [if_neg c1190, if_neg c1191, if_neg c1193, if_neg c1194, if_neg c1196, if_pos c1197]; try rfl
              exact ⟨by rw [hq] <;> rfl, N1195, rfl⟩
            · refine GoW.sg (mkF m 37 (Sh16 a1 1 4 3 c3) []) (fun t k => XS.icmpYes X1195.here hx rfl (pc0 := 32) (pc' := 37) rfl (hb hby d8_32) rfl (flt c1197).2.2.2 (by decide) (by decide) k) ?_
              refine GoW.sg (mkF m 40 (Sh16 a1 1 4 4 c3) []) (fun t k => XS.iinc X1195.here hx rfl (hb hby d8_37) rfl (l' := (Sh16 a1 1 4 4 c3)) rfl k) ?_
              refine GoW.sg (mkF m 9 (Sh16 a1 1 4 4 c3) []) (fun t k => XS.goto X1195.here hx rfl (pc0 := 40) (pc' := 9) rfl (hb hby d8_40) (by decide) (by decide) k) ?_
              refine GoW.sg (mkF m 10 (Sh16 a1 1 4 4 c3) [(.int 4)]) (fun t k => XS.iloadN X1195.here hx rfl (hb hby d8_9) rfl k) ?_
              refine GoW.sg (mkF m 11 (Sh16 a1 1 4 4 c3) [(.int 4), (.int 4)]) (fun t k => XS.iloadN X1195.here hx rfl (hb hby d8_10) rfl k) ?_
              refine GoW.sg (mkF m 43 (Sh16 a1 1 4 4 c3) []) (fun t k => XS.icmpYes X1195.here hx rfl (pc0 := 11) (pc' := 43) rfl (hb hby d8_11) rfl (by decide) (by decide) (by decide) k) ?_
              refine GoW.sg (mkF m 44 (Sh16 a1 1 4 4 c3) [(.int 1)]) (fun t k => XS.iconst X1195.here hx rfl (hb hby d8_43) k) ?_
              refine GoW.retN X1195 hx (t := .boolean) Bd.returns (by simp) (hb hby d8_44) Bd.notSynchronized ?_ (by decide) (by decide)
              rw [e1195]
              have hq : (FD14 c0 c1 c2 c3 cs) = (1 : Int32) := by unfold FD14; rw [if_neg c1190, if_neg c1191, if_neg c1193, if_neg c1194, if_neg c1196, if_neg c1197]; try rfl
              exact ⟨by rw [hq] <;> rfl, N1195, rfl⟩
def FD23 (c0 : Int32) (c1 : Int32) (c2 : Int32) (c3 : Int32) (cs : Int32) : Int32 := (if c2 < (48 : Int32) then (0 : Int32) else (if (57 : Int32) < c2 then (0 : Int32) else (1 : Int32)))
def QD23 (Z : State) (a1 : Addr) (c0 : Int32) (c1 : Int32) (c2 : Int32) (c3 : Int32) (cs : Int32) (vf : Value) (h0 : Heap) (n0 : Nat) (v : Option Value) (h : Heap) (L : List Loc) : Prop := v = some (.int (FD23 c0 c1 c2 c3 cs)) ∧ Fr n0 L ∧ (h = h0)
theorem ef8_rmD23 (m : MethodId) (a1 : Addr) : entryFrame m #[(.ref a1), (.int (2 : Int32)), (.int (3 : Int32))] 5 = (mkF m 0 #[.val (.ref a1), .val (.int 2), .val (.int 3), .unset, .unset] []) := by first | (simp [entryFrame, mkF, argsToLocals, Value.category, maxLocals]; done) | rfl
set_option maxRecDepth 65536 in
set_option maxHeartbeats 40000000 in
theorem rmD23 (l : Launch) (Z : State) (a0 : Array Value) (hw : ∀ d ∈ tables_1, d.before a0 Z = true) (ws : List Jvm.Cond) (a1 : Addr) (c0 : Int32) (c1 : Int32) (c2 : Int32) (c3 : Int32) (cs : Int32) (vf : Value) (h0 : Heap) (n0 : Nat) (P0 : Exa Z h0 a1 "java/lang/String") (P1 : Sta Z h0 "java/lang/String" "COMPACT_STRINGS" "Z" (.int cs)) (P2 : Sta Z h0 "java/lang/StringUTF16" "$assertionsDisabled" "Z" (.int (1 : Int32))) (P3 : Sta Z h0 "java/lang/StringUTF16" "HI_BYTE_SHIFT" "I" (.int (0 : Int32))) (P4 : Sta Z h0 "java/lang/StringUTF16" "LO_BYTE_SHIFT" "I" (.int (8 : Int32))) (P5 : Sta Z h0 "jdk/internal/util/Preconditions" "SIOOBE_FORMATTER" "Ljava/util/function/BiFunction;" vf)    (hS : Str4 Z h0 a1 c0 c1 c2 c3) (hvf : vf.isRef = true) (lo_c0 : ¬ (c0 < (0 : Int32))) (hi_c0 : ¬ ((65535 : Int32) < c0)) (lo_c1 : ¬ (c1 < (0 : Int32))) (hi_c1 : ¬ ((65535 : Int32) < c1)) (lo_c2 : ¬ (c2 < (0 : Int32))) (hi_c2 : ¬ ((65535 : Int32) < c2)) (lo_c3 : ¬ (c3 < (0 : Int32))) (hi_c3 : ¬ ((65535 : Int32) < c3)) (ncs : ¬ (cs = (0 : Int32)))  :
    MetFree l Y8 (head1 (Jvm.Cond.code Y8 prog_10_method_2_code 5 (some .boolean) :: ws) ({ frames := 5, cells := 0, slots := 0, locals := 66 } : Room)) (fun a U => a = #[(.ref a1), (.int (2 : Int32)), (.int (3 : Int32))] ∧ Z.Warmed39 U.vm ∧ U.heap = h0) (fun _ _ _ _ _ => True) (fun _ U o U' => ∃ v L, o = .returned v ∧ (QD23 Z a1 c0 c1 c2 c3 cs vf h0 n0) v U'.heap L ∧ FrameEnd U o U' L 0 0) := by
  refine MetFree.of_bodySF (plainFor_of_name pn_com_example_throttle_throttle_SipSyntax) hisR ?_
  intro p e s m args below meth c s₁ Bd hml0 hP hK
  obtain ⟨rfl, hZ, hh⟩ := hP
  have hx := Bd.exec
  have hby := Bd.bytes
  have hml : c.maxLocals = 5 := hml0
  have hown : s.vm.findClass "com/example/throttle/throttle/SipSyntax" = some m.cls := findClass_of_methodNamed Bd.named
  have hnm := (name_of_methodNamed Bd.named Bd.method).1
  have X0 : Stand p l e ({ frames := 5, cells := 0, slots := 0, locals := 66 } : Room) s m #[(.ref a1), (.int (2 : Int32)), (.int (3 : Int32))] below meth c s₁ [] 0 0 := Stand.of_body Bd
  have e0 : s₁.heap = h0 := by rw [← hh, Bd.state]; rfl
  have N0 := Fr.nil n0
  refine GoW.mk ?_
  refine GoW.st (fun t k => castTop (ef8_rmD23 m a1) k) ?_
  show GoW p e below s (QD23 Z a1 c0 c1 c2 c3 cs vf h0 n0) 0 0 (s₁.setTop (mkF m 0 (Sh7 a1 2 3) []))
  refine GoW.sg (mkF m 1 (Sh7 a1 2 3) [(.int 2)]) (fun t k => XS.iloadN X0.here hx rfl (hb hby d8_0) rfl k) ?_
  refine GoW.sg (mkF m 2 (Sh7 a1 2 3) [(.int 3), (.int 2)]) (fun t k => XS.iloadN X0.here hx rfl (hb hby d8_1) rfl k) ?_
  refine GoW.sg (mkF m 7 (Sh7 a1 2 3) []) (fun t k => XS.icmpYes X0.here hx rfl (pc0 := 2) (pc' := 7) rfl (hb hby d8_2) rfl (by decide) (by decide) (by decide) k) ?_
  refine GoW.sg (mkF m 8 (Sh7 a1 2 3) [(.int 2)]) (fun t k => XS.iloadN X0.here hx rfl (hb hby d8_7) rfl k) ?_
  refine GoW.sg (mkF m 9 (Sh15 a1 2 3 2) []) (fun t k => XS.istoreN X0.here hx rfl (hb hby d8_8) rfl (l' := (Sh15 a1 2 3 2)) rfl k) ?_
  refine GoW.sg (mkF m 10 (Sh15 a1 2 3 2) [(.int 2)]) (fun t k => XS.iloadN X0.here hx rfl (hb hby d8_9) rfl k) ?_
  refine GoW.sg (mkF m 11 (Sh15 a1 2 3 2) [(.int 3), (.int 2)]) (fun t k => XS.iloadN X0.here hx rfl (hb hby d8_10) rfl k) ?_
  refine GoW.sg (mkF m 14 (Sh15 a1 2 3 2) []) (fun t k => XS.icmpNo X0.here hx rfl (hb hby d8_11) rfl (by decide) k) ?_
  refine GoW.sg (mkF m 15 (Sh15 a1 2 3 2) [(.ref a1)]) (fun t k => XS.aloadN X0.here hx rfl (hb hby d8_14) rfl rfl k) ?_
  refine GoW.sg (mkF m 16 (Sh15 a1 2 3 2) [(.int 2), (.ref a1)]) (fun t k => XS.iloadN X0.here hx rfl (hb hby d8_15) rfl k) ?_
  obtain ⟨cq1198, kq1198, q1198a, q1198b, q1198c⟩ := isOf hZ e0 P0
  obtain ⟨_, _, ⟨T1198, L1198, k1198, n1198⟩, -, X1198, ⟨Lc1198, hQ1198, l1198, y1198, z1198⟩, st1198⟩ := X0.virtualBack hx (y := (⟨"java/lang/String", "charAt", "(I)C"⟩ : MethodName)) (z := Y9) hown (mvT hZ (ww hw 39 rfl)) (mvT hZ (ww hw 40 rfl)) (notFace_of_selects (args := #[]) (mvT hZ (ww hw 42 rfl))) (mvT hZ (ww hw 42 rfl)) (mvT hZ (ww hw 41 rfl)) (by decide) (backOf (W := 0) (rmCh2 l Z a0 hw a1 c0 c1 c2 c3 cs vf h0 n0 P0 hS P1 P2 P3 P4 P5 hvf lo_c0 hi_c0 lo_c1 hi_c1 lo_c2 hi_c2 lo_c3 hi_c3 ncs) hZ (ww hw 43 rfl) (ww hw 3 rfl) (by decide) (by decide)) q1198a q1198c (g := (mkF m 16 (Sh15 a1 2 3 2) [(.int 2), (.ref a1)])) rfl (by rw [hml]; rfl) (Steps.refl _) (argsL := [(.int (2 : Int32))]) (rest := []) (lenOf pd_28I29C rfl) rfl (by show 2 * 0 + _ ≤ _; exact Nat.le_of_eq rfl) (hb hby d8_16) (fun _ _ => ⟨rfl, e0, (by decide : 0 + 0 ≤ _), (by decide : 0 + 0 ≤ _)⟩)
  dsimp only [Pt.U, Pt.locs, Pt.cells, Pt.slots] at X1198 l1198 y1198 z1198 st1198 hQ1198
  subst l1198 y1198 z1198
  obtain ⟨rfl, N1198q, e1198⟩ := hQ1198
  have N1198 := Fr.app N0 N1198q
  refine GoW.sg (mkF m 19 (Sh15 a1 2 3 2) [(.int c2)]) (fun t k => st1198.trans k) ?_
  refine GoW.sg (mkF m 21 (Sh16 a1 2 3 2 c2) []) (fun t k => XS.istore X1198.here hx rfl (hb hby d8_19) rfl (l' := (Sh16 a1 2 3 2 c2)) rfl k) ?_
  refine GoW.sg (mkF m 23 (Sh16 a1 2 3 2 c2) [(.int c2)]) (fun t k => XS.iload X1198.here hx rfl (hb hby d8_21) rfl k) ?_
  refine GoW.sg (mkF m 25 (Sh16 a1 2 3 2 c2) [(.int 48), (.int c2)]) (fun t k => XS.bipush X1198.here hx rfl (hb hby d8_23) k) ?_
  by_cases c1199 : c2 < (48 : Int32)
  · refine GoW.sg (mkF m 35 (Sh16 a1 2 3 2 c2) []) (fun t k => XS.icmpYes X1198.here hx rfl (pc0 := 25) (pc' := 35) rfl (hb hby d8_25) rfl (tlt c1199).1 (by decide) (by decide) k) ?_
    refine GoW.sg (mkF m 36 (Sh16 a1 2 3 2 c2) [(.int 0)]) (fun t k => XS.iconst X1198.here hx rfl (hb hby d8_35) k) ?_
    refine GoW.retN X1198 hx (t := .boolean) Bd.returns (by simp) (hb hby d8_36) Bd.notSynchronized ?_ (by decide) (by decide)
    rw [e1198]
    have hq : (FD23 c0 c1 c2 c3 cs) = (0 : Int32) := by unfold FD23; rw [if_pos c1199]; try rfl
    exact ⟨by rw [hq] <;> rfl, N1198, rfl⟩
  · refine GoW.sg (mkF m 28 (Sh16 a1 2 3 2 c2) []) (fun t k => XS.icmpNo X1198.here hx rfl (hb hby d8_25) rfl (flt c1199).1 k) ?_
    refine GoW.sg (mkF m 30 (Sh16 a1 2 3 2 c2) [(.int c2)]) (fun t k => XS.iload X1198.here hx rfl (hb hby d8_28) rfl k) ?_
    refine GoW.sg (mkF m 32 (Sh16 a1 2 3 2 c2) [(.int 57), (.int c2)]) (fun t k => XS.bipush X1198.here hx rfl (hb hby d8_30) k) ?_
    by_cases c1200 : (57 : Int32) < c2
    · refine GoW.sg (mkF m 35 (Sh16 a1 2 3 2 c2) []) (fun t k => XS.icmpNo X1198.here hx rfl (hb hby d8_32) rfl (tlt c1200).2.2.2 k) ?_
      refine GoW.sg (mkF m 36 (Sh16 a1 2 3 2 c2) [(.int 0)]) (fun t k => XS.iconst X1198.here hx rfl (hb hby d8_35) k) ?_
      refine GoW.retN X1198 hx (t := .boolean) Bd.returns (by simp) (hb hby d8_36) Bd.notSynchronized ?_ (by decide) (by decide)
      rw [e1198]
      have hq : (FD23 c0 c1 c2 c3 cs) = (0 : Int32) := by unfold FD23; rw [if_neg c1199, if_pos c1200]; try rfl
      exact ⟨by rw [hq] <;> rfl, N1198, rfl⟩
    · refine GoW.sg (mkF m 37 (Sh16 a1 2 3 2 c2) []) (fun t k => XS.icmpYes X1198.here hx rfl (pc0 := 32) (pc' := 37) rfl (hb hby d8_32) rfl (flt c1200).2.2.2 (by decide) (by decide) k) ?_
      refine GoW.sg (mkF m 40 (Sh16 a1 2 3 3 c2) []) (fun t k => XS.iinc X1198.here hx rfl (hb hby d8_37) rfl (l' := (Sh16 a1 2 3 3 c2)) rfl k) ?_
      refine GoW.sg (mkF m 9 (Sh16 a1 2 3 3 c2) []) (fun t k => XS.goto X1198.here hx rfl (pc0 := 40) (pc' := 9) rfl (hb hby d8_40) (by decide) (by decide) k) ?_
      refine GoW.sg (mkF m 10 (Sh16 a1 2 3 3 c2) [(.int 3)]) (fun t k => XS.iloadN X1198.here hx rfl (hb hby d8_9) rfl k) ?_
      refine GoW.sg (mkF m 11 (Sh16 a1 2 3 3 c2) [(.int 3), (.int 3)]) (fun t k => XS.iloadN X1198.here hx rfl (hb hby d8_10) rfl k) ?_
      refine GoW.sg (mkF m 43 (Sh16 a1 2 3 3 c2) []) (fun t k => XS.icmpYes X1198.here hx rfl (pc0 := 11) (pc' := 43) rfl (hb hby d8_11) rfl (by decide) (by decide) (by decide) k) ?_
      refine GoW.sg (mkF m 44 (Sh16 a1 2 3 3 c2) [(.int 1)]) (fun t k => XS.iconst X1198.here hx rfl (hb hby d8_43) k) ?_
      refine GoW.retN X1198 hx (t := .boolean) Bd.returns (by simp) (hb hby d8_44) Bd.notSynchronized ?_ (by decide) (by decide)
      rw [e1198]
      have hq : (FD23 c0 c1 c2 c3 cs) = (1 : Int32) := by unfold FD23; rw [if_neg c1199, if_neg c1200]; try rfl
      exact ⟨by rw [hq] <;> rfl, N1198, rfl⟩
def FD24 (c0 : Int32) (c1 : Int32) (c2 : Int32) (c3 : Int32) (cs : Int32) : Int32 := (if c2 < (48 : Int32) then (0 : Int32) else (if (57 : Int32) < c2 then (0 : Int32) else (if c3 < (48 : Int32) then (0 : Int32) else (if (57 : Int32) < c3 then (0 : Int32) else (1 : Int32)))))
def QD24 (Z : State) (a1 : Addr) (c0 : Int32) (c1 : Int32) (c2 : Int32) (c3 : Int32) (cs : Int32) (vf : Value) (h0 : Heap) (n0 : Nat) (v : Option Value) (h : Heap) (L : List Loc) : Prop := v = some (.int (FD24 c0 c1 c2 c3 cs)) ∧ Fr n0 L ∧ (h = h0)
theorem ef8_rmD24 (m : MethodId) (a1 : Addr) : entryFrame m #[(.ref a1), (.int (2 : Int32)), (.int (4 : Int32))] 5 = (mkF m 0 #[.val (.ref a1), .val (.int 2), .val (.int 4), .unset, .unset] []) := by first | (simp [entryFrame, mkF, argsToLocals, Value.category, maxLocals]; done) | rfl
set_option maxRecDepth 65536 in
set_option maxHeartbeats 40000000 in
theorem rmD24 (l : Launch) (Z : State) (a0 : Array Value) (hw : ∀ d ∈ tables_1, d.before a0 Z = true) (ws : List Jvm.Cond) (a1 : Addr) (c0 : Int32) (c1 : Int32) (c2 : Int32) (c3 : Int32) (cs : Int32) (vf : Value) (h0 : Heap) (n0 : Nat) (P0 : Exa Z h0 a1 "java/lang/String") (P1 : Sta Z h0 "java/lang/String" "COMPACT_STRINGS" "Z" (.int cs)) (P2 : Sta Z h0 "java/lang/StringUTF16" "$assertionsDisabled" "Z" (.int (1 : Int32))) (P3 : Sta Z h0 "java/lang/StringUTF16" "HI_BYTE_SHIFT" "I" (.int (0 : Int32))) (P4 : Sta Z h0 "java/lang/StringUTF16" "LO_BYTE_SHIFT" "I" (.int (8 : Int32))) (P5 : Sta Z h0 "jdk/internal/util/Preconditions" "SIOOBE_FORMATTER" "Ljava/util/function/BiFunction;" vf)    (hS : Str4 Z h0 a1 c0 c1 c2 c3) (hvf : vf.isRef = true) (lo_c0 : ¬ (c0 < (0 : Int32))) (hi_c0 : ¬ ((65535 : Int32) < c0)) (lo_c1 : ¬ (c1 < (0 : Int32))) (hi_c1 : ¬ ((65535 : Int32) < c1)) (lo_c2 : ¬ (c2 < (0 : Int32))) (hi_c2 : ¬ ((65535 : Int32) < c2)) (lo_c3 : ¬ (c3 < (0 : Int32))) (hi_c3 : ¬ ((65535 : Int32) < c3)) (ncs : ¬ (cs = (0 : Int32)))  :
    MetFree l Y8 (head1 (Jvm.Cond.code Y8 prog_10_method_2_code 5 (some .boolean) :: ws) ({ frames := 5, cells := 0, slots := 0, locals := 66 } : Room)) (fun a U => a = #[(.ref a1), (.int (2 : Int32)), (.int (4 : Int32))] ∧ Z.Warmed39 U.vm ∧ U.heap = h0) (fun _ _ _ _ _ => True) (fun _ U o U' => ∃ v L, o = .returned v ∧ (QD24 Z a1 c0 c1 c2 c3 cs vf h0 n0) v U'.heap L ∧ FrameEnd U o U' L 0 0) := by
  refine MetFree.of_bodySF (plainFor_of_name pn_com_example_throttle_throttle_SipSyntax) hisR ?_
  intro p e s m args below meth c s₁ Bd hml0 hP hK
  obtain ⟨rfl, hZ, hh⟩ := hP
  have hx := Bd.exec
  have hby := Bd.bytes
  have hml : c.maxLocals = 5 := hml0
  have hown : s.vm.findClass "com/example/throttle/throttle/SipSyntax" = some m.cls := findClass_of_methodNamed Bd.named
  have hnm := (name_of_methodNamed Bd.named Bd.method).1
  have X0 : Stand p l e ({ frames := 5, cells := 0, slots := 0, locals := 66 } : Room) s m #[(.ref a1), (.int (2 : Int32)), (.int (4 : Int32))] below meth c s₁ [] 0 0 := Stand.of_body Bd
  have e0 : s₁.heap = h0 := by rw [← hh, Bd.state]; rfl
  have N0 := Fr.nil n0
  refine GoW.mk ?_
  refine GoW.st (fun t k => castTop (ef8_rmD24 m a1) k) ?_
  show GoW p e below s (QD24 Z a1 c0 c1 c2 c3 cs vf h0 n0) 0 0 (s₁.setTop (mkF m 0 (Sh7 a1 2 4) []))
  refine GoW.sg (mkF m 1 (Sh7 a1 2 4) [(.int 2)]) (fun t k => XS.iloadN X0.here hx rfl (hb hby d8_0) rfl k) ?_
  refine GoW.sg (mkF m 2 (Sh7 a1 2 4) [(.int 4), (.int 2)]) (fun t k => XS.iloadN X0.here hx rfl (hb hby d8_1) rfl k) ?_
  refine GoW.sg (mkF m 7 (Sh7 a1 2 4) []) (fun t k => XS.icmpYes X0.here hx rfl (pc0 := 2) (pc' := 7) rfl (hb hby d8_2) rfl (by decide) (by decide) (by decide) k) ?_
  refine GoW.sg (mkF m 8 (Sh7 a1 2 4) [(.int 2)]) (fun t k => XS.iloadN X0.here hx rfl (hb hby d8_7) rfl k) ?_
  refine GoW.sg (mkF m 9 (Sh15 a1 2 4 2) []) (fun t k => XS.istoreN X0.here hx rfl (hb hby d8_8) rfl (l' := (Sh15 a1 2 4 2)) rfl k) ?_
  refine GoW.sg (mkF m 10 (Sh15 a1 2 4 2) [(.int 2)]) (fun t k => XS.iloadN X0.here hx rfl (hb hby d8_9) rfl k) ?_
  refine GoW.sg (mkF m 11 (Sh15 a1 2 4 2) [(.int 4), (.int 2)]) (fun t k => XS.iloadN X0.here hx rfl (hb hby d8_10) rfl k) ?_
  refine GoW.sg (mkF m 14 (Sh15 a1 2 4 2) []) (fun t k => XS.icmpNo X0.here hx rfl (hb hby d8_11) rfl (by decide) k) ?_
  refine GoW.sg (mkF m 15 (Sh15 a1 2 4 2) [(.ref a1)]) (fun t k => XS.aloadN X0.here hx rfl (hb hby d8_14) rfl rfl k) ?_
  refine GoW.sg (mkF m 16 (Sh15 a1 2 4 2) [(.int 2), (.ref a1)]) (fun t k => XS.iloadN X0.here hx rfl (hb hby d8_15) rfl k) ?_
  obtain ⟨cq1201, kq1201, q1201a, q1201b, q1201c⟩ := isOf hZ e0 P0
  obtain ⟨_, _, ⟨T1201, L1201, k1201, n1201⟩, -, X1201, ⟨Lc1201, hQ1201, l1201, y1201, z1201⟩, st1201⟩ := X0.virtualBack hx (y := (⟨"java/lang/String", "charAt", "(I)C"⟩ : MethodName)) (z := Y9) hown (mvT hZ (ww hw 39 rfl)) (mvT hZ (ww hw 40 rfl)) (notFace_of_selects (args := #[]) (mvT hZ (ww hw 42 rfl))) (mvT hZ (ww hw 42 rfl)) (mvT hZ (ww hw 41 rfl)) (by decide) (backOf (W := 0) (rmCh2 l Z a0 hw a1 c0 c1 c2 c3 cs vf h0 n0 P0 hS P1 P2 P3 P4 P5 hvf lo_c0 hi_c0 lo_c1 hi_c1 lo_c2 hi_c2 lo_c3 hi_c3 ncs) hZ (ww hw 43 rfl) (ww hw 3 rfl) (by decide) (by decide)) q1201a q1201c (g := (mkF m 16 (Sh15 a1 2 4 2) [(.int 2), (.ref a1)])) rfl (by rw [hml]; rfl) (Steps.refl _) (argsL := [(.int (2 : Int32))]) (rest := []) (lenOf pd_28I29C rfl) rfl (by show 2 * 0 + _ ≤ _; exact Nat.le_of_eq rfl) (hb hby d8_16) (fun _ _ => ⟨rfl, e0, (by decide : 0 + 0 ≤ _), (by decide : 0 + 0 ≤ _)⟩)
  dsimp only [Pt.U, Pt.locs, Pt.cells, Pt.slots] at X1201 l1201 y1201 z1201 st1201 hQ1201
  subst l1201 y1201 z1201
  obtain ⟨rfl, N1201q, e1201⟩ := hQ1201
  have N1201 := Fr.app N0 N1201q
  refine GoW.sg (mkF m 19 (Sh15 a1 2 4 2) [(.int c2)]) (fun t k => st1201.trans k) ?_
  refine GoW.sg (mkF m 21 (Sh16 a1 2 4 2 c2) []) (fun t k => XS.istore X1201.here hx rfl (hb hby d8_19) rfl (l' := (Sh16 a1 2 4 2 c2)) rfl k) ?_
  refine GoW.sg (mkF m 23 (Sh16 a1 2 4 2 c2) [(.int c2)]) (fun t k => XS.iload X1201.here hx rfl (hb hby d8_21) rfl k) ?_
  refine GoW.sg (mkF m 25 (Sh16 a1 2 4 2 c2) [(.int 48), (.int c2)]) (fun t k => XS.bipush X1201.here hx rfl (hb hby d8_23) k) ?_
  by_cases c1202 : c2 < (48 : Int32)
  · refine GoW.sg (mkF m 35 (Sh16 a1 2 4 2 c2) []) (fun t k => XS.icmpYes X1201.here hx rfl (pc0 := 25) (pc' := 35) rfl (hb hby d8_25) rfl (tlt c1202).1 (by decide) (by decide) k) ?_
    refine GoW.sg (mkF m 36 (Sh16 a1 2 4 2 c2) [(.int 0)]) (fun t k => XS.iconst X1201.here hx rfl (hb hby d8_35) k) ?_
    refine GoW.retN X1201 hx (t := .boolean) Bd.returns (by simp) (hb hby d8_36) Bd.notSynchronized ?_ (by decide) (by decide)
    rw [e1201]
    have hq : (FD24 c0 c1 c2 c3 cs) = (0 : Int32) := by unfold FD24; rw [if_pos c1202]; try rfl
    exact ⟨by rw [hq] <;> rfl, N1201, rfl⟩
  · refine GoW.sg (mkF m 28 (Sh16 a1 2 4 2 c2) []) (fun t k => XS.icmpNo X1201.here hx rfl (hb hby d8_25) rfl (flt c1202).1 k) ?_
    refine GoW.sg (mkF m 30 (Sh16 a1 2 4 2 c2) [(.int c2)]) (fun t k => XS.iload X1201.here hx rfl (hb hby d8_28) rfl k) ?_
    refine GoW.sg (mkF m 32 (Sh16 a1 2 4 2 c2) [(.int 57), (.int c2)]) (fun t k => XS.bipush X1201.here hx rfl (hb hby d8_30) k) ?_
    by_cases c1203 : (57 : Int32) < c2
    · refine GoW.sg (mkF m 35 (Sh16 a1 2 4 2 c2) []) (fun t k => XS.icmpNo X1201.here hx rfl (hb hby d8_32) rfl (tlt c1203).2.2.2 k) ?_
      refine GoW.sg (mkF m 36 (Sh16 a1 2 4 2 c2) [(.int 0)]) (fun t k => XS.iconst X1201.here hx rfl (hb hby d8_35) k) ?_
      refine GoW.retN X1201 hx (t := .boolean) Bd.returns (by simp) (hb hby d8_36) Bd.notSynchronized ?_ (by decide) (by decide)
      rw [e1201]
      have hq : (FD24 c0 c1 c2 c3 cs) = (0 : Int32) := by unfold FD24; rw [if_neg c1202, if_pos c1203]; try rfl
      exact ⟨by rw [hq] <;> rfl, N1201, rfl⟩
    · refine GoW.sg (mkF m 37 (Sh16 a1 2 4 2 c2) []) (fun t k => XS.icmpYes X1201.here hx rfl (pc0 := 32) (pc' := 37) rfl (hb hby d8_32) rfl (flt c1203).2.2.2 (by decide) (by decide) k) ?_
      refine GoW.sg (mkF m 40 (Sh16 a1 2 4 3 c2) []) (fun t k => XS.iinc X1201.here hx rfl (hb hby d8_37) rfl (l' := (Sh16 a1 2 4 3 c2)) rfl k) ?_
      refine GoW.sg (mkF m 9 (Sh16 a1 2 4 3 c2) []) (fun t k => XS.goto X1201.here hx rfl (pc0 := 40) (pc' := 9) rfl (hb hby d8_40) (by decide) (by decide) k) ?_
      refine GoW.sg (mkF m 10 (Sh16 a1 2 4 3 c2) [(.int 3)]) (fun t k => XS.iloadN X1201.here hx rfl (hb hby d8_9) rfl k) ?_
      refine GoW.sg (mkF m 11 (Sh16 a1 2 4 3 c2) [(.int 4), (.int 3)]) (fun t k => XS.iloadN X1201.here hx rfl (hb hby d8_10) rfl k) ?_
      refine GoW.sg (mkF m 14 (Sh16 a1 2 4 3 c2) []) (fun t k => XS.icmpNo X1201.here hx rfl (hb hby d8_11) rfl (by decide) k) ?_
      refine GoW.sg (mkF m 15 (Sh16 a1 2 4 3 c2) [(.ref a1)]) (fun t k => XS.aloadN X1201.here hx rfl (hb hby d8_14) rfl rfl k) ?_
      refine GoW.sg (mkF m 16 (Sh16 a1 2 4 3 c2) [(.int 3), (.ref a1)]) (fun t k => XS.iloadN X1201.here hx rfl (hb hby d8_15) rfl k) ?_
      obtain ⟨cq1204, kq1204, q1204a, q1204b, q1204c⟩ := isOf hZ e1201 P0
      obtain ⟨_, _, ⟨T1204, L1204, k1204, n1204⟩, -, X1204, ⟨Lc1204, hQ1204, l1204, y1204, z1204⟩, st1204⟩ := X1201.virtualBack hx (y := (⟨"java/lang/String", "charAt", "(I)C"⟩ : MethodName)) (z := Y9) hown (mvT hZ (ww hw 39 rfl)) (mvT hZ (ww hw 40 rfl)) (notFace_of_selects (args := #[]) (mvT hZ (ww hw 42 rfl))) (mvT hZ (ww hw 42 rfl)) (mvT hZ (ww hw 41 rfl)) (by decide) (backOf (W := 0) (rmCh3 l Z a0 hw a1 c0 c1 c2 c3 cs vf h0 n0 P0 hS P1 P2 P3 P4 P5 hvf lo_c0 hi_c0 lo_c1 hi_c1 lo_c2 hi_c2 lo_c3 hi_c3 ncs) hZ (ww hw 43 rfl) (ww hw 3 rfl) (by decide) (by decide)) q1204a q1204c (g := (mkF m 16 (Sh16 a1 2 4 3 c2) [(.int 3), (.ref a1)])) rfl (by rw [hml]; rfl) (Steps.refl _) (argsL := [(.int (3 : Int32))]) (rest := []) (lenOf pd_28I29C rfl) rfl (by show 2 * 0 + _ ≤ _; exact Nat.le_of_eq rfl) (hb hby d8_16) (fun _ _ => ⟨rfl, e1201, (by decide : 0 + 0 ≤ _), (by decide : 0 + 0 ≤ _)⟩)
      dsimp only [Pt.U, Pt.locs, Pt.cells, Pt.slots] at X1204 l1204 y1204 z1204 st1204 hQ1204
      subst l1204 y1204 z1204
      obtain ⟨rfl, N1204q, e1204⟩ := hQ1204
      have N1204 := Fr.app N1201 N1204q
      refine GoW.sg (mkF m 19 (Sh16 a1 2 4 3 c2) [(.int c3)]) (fun t k => st1204.trans k) ?_
      refine GoW.sg (mkF m 21 (Sh16 a1 2 4 3 c3) []) (fun t k => XS.istore X1204.here hx rfl (hb hby d8_19) rfl (l' := (Sh16 a1 2 4 3 c3)) rfl k) ?_
      refine GoW.sg (mkF m 23 (Sh16 a1 2 4 3 c3) [(.int c3)]) (fun t k => XS.iload X1204.here hx rfl (hb hby d8_21) rfl k) ?_
      refine GoW.sg (mkF m 25 (Sh16 a1 2 4 3 c3) [(.int 48), (.int c3)]) (fun t k => XS.bipush X1204.here hx rfl (hb hby d8_23) k) ?_
      by_cases c1205 : c3 < (48 : Int32)
      · refine GoW.sg (mkF m 35 (Sh16 a1 2 4 3 c3) []) (fun t k => XS.icmpYes X1204.here hx rfl (pc0 := 25) (pc' := 35) rfl (hb hby d8_25) rfl (tlt c1205).1 (by decide) (by decide) k) ?_
        refine GoW.sg (mkF m 36 (Sh16 a1 2 4 3 c3) [(.int 0)]) (fun t k => XS.iconst X1204.here hx rfl (hb hby d8_35) k) ?_
        refine GoW.retN X1204 hx (t := .boolean) Bd.returns (by simp) (hb hby d8_36) Bd.notSynchronized ?_ (by decide) (by decide)
        rw [e1204]
        have hq : (FD24 c0 c1 c2 c3 cs) = (0 : Int32) := by unfold FD24; rw [if_neg c1202, if_neg c1203, if_pos c1205]; try rfl
        exact ⟨by rw [hq] <;> rfl, N1204, rfl⟩
      · refine GoW.sg (mkF m 28 (Sh16 a1 2 4 3 c3) []) (fun t k => XS.icmpNo X1204.here hx rfl (hb hby d8_25) rfl (flt c1205).1 k) ?_
        refine GoW.sg (mkF m 30 (Sh16 a1 2 4 3 c3) [(.int c3)]) (fun t k => XS.iload X1204.here hx rfl (hb hby d8_28) rfl k) ?_
        refine GoW.sg (mkF m 32 (Sh16 a1 2 4 3 c3) [(.int 57), (.int c3)]) (fun t k => XS.bipush X1204.here hx rfl (hb hby d8_30) k) ?_
        by_cases c1206 : (57 : Int32) < c3
        · refine GoW.sg (mkF m 35 (Sh16 a1 2 4 3 c3) []) (fun t k => XS.icmpNo X1204.here hx rfl (hb hby d8_32) rfl (tlt c1206).2.2.2 k) ?_
          refine GoW.sg (mkF m 36 (Sh16 a1 2 4 3 c3) [(.int 0)]) (fun t k => XS.iconst X1204.here hx rfl (hb hby d8_35) k) ?_
          refine GoW.retN X1204 hx (t := .boolean) Bd.returns (by simp) (hb hby d8_36) Bd.notSynchronized ?_ (by decide) (by decide)
          rw [e1204]
          have hq : (FD24 c0 c1 c2 c3 cs) = (0 : Int32) := by unfold FD24; rw [if_neg c1202, if_neg c1203, if_neg c1205, if_pos c1206]; try rfl
          exact ⟨by rw [hq] <;> rfl, N1204, rfl⟩
        · refine GoW.sg (mkF m 37 (Sh16 a1 2 4 3 c3) []) (fun t k => XS.icmpYes X1204.here hx rfl (pc0 := 32) (pc' := 37) rfl (hb hby d8_32) rfl (flt c1206).2.2.2 (by decide) (by decide) k) ?_
          refine GoW.sg (mkF m 40 (Sh16 a1 2 4 4 c3) []) (fun t k => XS.iinc X1204.here hx rfl (hb hby d8_37) rfl (l' := (Sh16 a1 2 4 4 c3)) rfl k) ?_
          refine GoW.sg (mkF m 9 (Sh16 a1 2 4 4 c3) []) (fun t k => XS.goto X1204.here hx rfl (pc0 := 40) (pc' := 9) rfl (hb hby d8_40) (by decide) (by decide) k) ?_
          refine GoW.sg (mkF m 10 (Sh16 a1 2 4 4 c3) [(.int 4)]) (fun t k => XS.iloadN X1204.here hx rfl (hb hby d8_9) rfl k) ?_
          refine GoW.sg (mkF m 11 (Sh16 a1 2 4 4 c3) [(.int 4), (.int 4)]) (fun t k => XS.iloadN X1204.here hx rfl (hb hby d8_10) rfl k) ?_
          refine GoW.sg (mkF m 43 (Sh16 a1 2 4 4 c3) []) (fun t k => XS.icmpYes X1204.here hx rfl (pc0 := 11) (pc' := 43) rfl (hb hby d8_11) rfl (by decide) (by decide) (by decide) k) ?_
          refine GoW.sg (mkF m 44 (Sh16 a1 2 4 4 c3) [(.int 1)]) (fun t k => XS.iconst X1204.here hx rfl (hb hby d8_43) k) ?_
          refine GoW.retN X1204 hx (t := .boolean) Bd.returns (by simp) (hb hby d8_44) Bd.notSynchronized ?_ (by decide) (by decide)
          rw [e1204]
          have hq : (FD24 c0 c1 c2 c3 cs) = (1 : Int32) := by unfold FD24; rw [if_neg c1202, if_neg c1203, if_neg c1205, if_neg c1206]; try rfl
          exact ⟨by rw [hq] <;> rfl, N1204, rfl⟩
def FD34 (c0 : Int32) (c1 : Int32) (c2 : Int32) (c3 : Int32) (cs : Int32) : Int32 := (if c3 < (48 : Int32) then (0 : Int32) else (if (57 : Int32) < c3 then (0 : Int32) else (1 : Int32)))
def QD34 (Z : State) (a1 : Addr) (c0 : Int32) (c1 : Int32) (c2 : Int32) (c3 : Int32) (cs : Int32) (vf : Value) (h0 : Heap) (n0 : Nat) (v : Option Value) (h : Heap) (L : List Loc) : Prop := v = some (.int (FD34 c0 c1 c2 c3 cs)) ∧ Fr n0 L ∧ (h = h0)
theorem ef8_rmD34 (m : MethodId) (a1 : Addr) : entryFrame m #[(.ref a1), (.int (3 : Int32)), (.int (4 : Int32))] 5 = (mkF m 0 #[.val (.ref a1), .val (.int 3), .val (.int 4), .unset, .unset] []) := by first | (simp [entryFrame, mkF, argsToLocals, Value.category, maxLocals]; done) | rfl
set_option maxRecDepth 65536 in
set_option maxHeartbeats 40000000 in
theorem rmD34 (l : Launch) (Z : State) (a0 : Array Value) (hw : ∀ d ∈ tables_1, d.before a0 Z = true) (ws : List Jvm.Cond) (a1 : Addr) (c0 : Int32) (c1 : Int32) (c2 : Int32) (c3 : Int32) (cs : Int32) (vf : Value) (h0 : Heap) (n0 : Nat) (P0 : Exa Z h0 a1 "java/lang/String") (P1 : Sta Z h0 "java/lang/String" "COMPACT_STRINGS" "Z" (.int cs)) (P2 : Sta Z h0 "java/lang/StringUTF16" "$assertionsDisabled" "Z" (.int (1 : Int32))) (P3 : Sta Z h0 "java/lang/StringUTF16" "HI_BYTE_SHIFT" "I" (.int (0 : Int32))) (P4 : Sta Z h0 "java/lang/StringUTF16" "LO_BYTE_SHIFT" "I" (.int (8 : Int32))) (P5 : Sta Z h0 "jdk/internal/util/Preconditions" "SIOOBE_FORMATTER" "Ljava/util/function/BiFunction;" vf)    (hS : Str4 Z h0 a1 c0 c1 c2 c3) (hvf : vf.isRef = true) (lo_c0 : ¬ (c0 < (0 : Int32))) (hi_c0 : ¬ ((65535 : Int32) < c0)) (lo_c1 : ¬ (c1 < (0 : Int32))) (hi_c1 : ¬ ((65535 : Int32) < c1)) (lo_c2 : ¬ (c2 < (0 : Int32))) (hi_c2 : ¬ ((65535 : Int32) < c2)) (lo_c3 : ¬ (c3 < (0 : Int32))) (hi_c3 : ¬ ((65535 : Int32) < c3)) (ncs : ¬ (cs = (0 : Int32)))  :
    MetFree l Y8 (head1 (Jvm.Cond.code Y8 prog_10_method_2_code 5 (some .boolean) :: ws) ({ frames := 5, cells := 0, slots := 0, locals := 66 } : Room)) (fun a U => a = #[(.ref a1), (.int (3 : Int32)), (.int (4 : Int32))] ∧ Z.Warmed39 U.vm ∧ U.heap = h0) (fun _ _ _ _ _ => True) (fun _ U o U' => ∃ v L, o = .returned v ∧ (QD34 Z a1 c0 c1 c2 c3 cs vf h0 n0) v U'.heap L ∧ FrameEnd U o U' L 0 0) := by
  refine MetFree.of_bodySF (plainFor_of_name pn_com_example_throttle_throttle_SipSyntax) hisR ?_
  intro p e s m args below meth c s₁ Bd hml0 hP hK
  obtain ⟨rfl, hZ, hh⟩ := hP
  have hx := Bd.exec
  have hby := Bd.bytes
  have hml : c.maxLocals = 5 := hml0
  have hown : s.vm.findClass "com/example/throttle/throttle/SipSyntax" = some m.cls := findClass_of_methodNamed Bd.named
  have hnm := (name_of_methodNamed Bd.named Bd.method).1
  have X0 : Stand p l e ({ frames := 5, cells := 0, slots := 0, locals := 66 } : Room) s m #[(.ref a1), (.int (3 : Int32)), (.int (4 : Int32))] below meth c s₁ [] 0 0 := Stand.of_body Bd
  have e0 : s₁.heap = h0 := by rw [← hh, Bd.state]; rfl
  have N0 := Fr.nil n0
  refine GoW.mk ?_
  refine GoW.st (fun t k => castTop (ef8_rmD34 m a1) k) ?_
  show GoW p e below s (QD34 Z a1 c0 c1 c2 c3 cs vf h0 n0) 0 0 (s₁.setTop (mkF m 0 (Sh7 a1 3 4) []))
  refine GoW.sg (mkF m 1 (Sh7 a1 3 4) [(.int 3)]) (fun t k => XS.iloadN X0.here hx rfl (hb hby d8_0) rfl k) ?_
  refine GoW.sg (mkF m 2 (Sh7 a1 3 4) [(.int 4), (.int 3)]) (fun t k => XS.iloadN X0.here hx rfl (hb hby d8_1) rfl k) ?_
  refine GoW.sg (mkF m 7 (Sh7 a1 3 4) []) (fun t k => XS.icmpYes X0.here hx rfl (pc0 := 2) (pc' := 7) rfl (hb hby d8_2) rfl (by decide) (by decide) (by decide) k) ?_
  refine GoW.sg (mkF m 8 (Sh7 a1 3 4) [(.int 3)]) (fun t k => XS.iloadN X0.here hx rfl (hb hby d8_7) rfl k) ?_
  refine GoW.sg (mkF m 9 (Sh15 a1 3 4 3) []) (fun t k => XS.istoreN X0.here hx rfl (hb hby d8_8) rfl (l' := (Sh15 a1 3 4 3)) rfl k) ?_
  refine GoW.sg (mkF m 10 (Sh15 a1 3 4 3) [(.int 3)]) (fun t k => XS.iloadN X0.here hx rfl (hb hby d8_9) rfl k) ?_
  refine GoW.sg (mkF m 11 (Sh15 a1 3 4 3) [(.int 4), (.int 3)]) (fun t k => XS.iloadN X0.here hx rfl (hb hby d8_10) rfl k) ?_
  refine GoW.sg (mkF m 14 (Sh15 a1 3 4 3) []) (fun t k => XS.icmpNo X0.here hx rfl (hb hby d8_11) rfl (by decide) k) ?_
  refine GoW.sg (mkF m 15 (Sh15 a1 3 4 3) [(.ref a1)]) (fun t k => XS.aloadN X0.here hx rfl (hb hby d8_14) rfl rfl k) ?_
  refine GoW.sg (mkF m 16 (Sh15 a1 3 4 3) [(.int 3), (.ref a1)]) (fun t k => XS.iloadN X0.here hx rfl (hb hby d8_15) rfl k) ?_
  obtain ⟨cq1207, kq1207, q1207a, q1207b, q1207c⟩ := isOf hZ e0 P0
  obtain ⟨_, _, ⟨T1207, L1207, k1207, n1207⟩, -, X1207, ⟨Lc1207, hQ1207, l1207, y1207, z1207⟩, st1207⟩ := X0.virtualBack hx (y := (⟨"java/lang/String", "charAt", "(I)C"⟩ : MethodName)) (z := Y9) hown (mvT hZ (ww hw 39 rfl)) (mvT hZ (ww hw 40 rfl)) (notFace_of_selects (args := #[]) (mvT hZ (ww hw 42 rfl))) (mvT hZ (ww hw 42 rfl)) (mvT hZ (ww hw 41 rfl)) (by decide) (backOf (W := 0) (rmCh3 l Z a0 hw a1 c0 c1 c2 c3 cs vf h0 n0 P0 hS P1 P2 P3 P4 P5 hvf lo_c0 hi_c0 lo_c1 hi_c1 lo_c2 hi_c2 lo_c3 hi_c3 ncs) hZ (ww hw 43 rfl) (ww hw 3 rfl) (by decide) (by decide)) q1207a q1207c (g := (mkF m 16 (Sh15 a1 3 4 3) [(.int 3), (.ref a1)])) rfl (by rw [hml]; rfl) (Steps.refl _) (argsL := [(.int (3 : Int32))]) (rest := []) (lenOf pd_28I29C rfl) rfl (by show 2 * 0 + _ ≤ _; exact Nat.le_of_eq rfl) (hb hby d8_16) (fun _ _ => ⟨rfl, e0, (by decide : 0 + 0 ≤ _), (by decide : 0 + 0 ≤ _)⟩)
  dsimp only [Pt.U, Pt.locs, Pt.cells, Pt.slots] at X1207 l1207 y1207 z1207 st1207 hQ1207
  subst l1207 y1207 z1207
  obtain ⟨rfl, N1207q, e1207⟩ := hQ1207
  have N1207 := Fr.app N0 N1207q
  refine GoW.sg (mkF m 19 (Sh15 a1 3 4 3) [(.int c3)]) (fun t k => st1207.trans k) ?_
  refine GoW.sg (mkF m 21 (Sh16 a1 3 4 3 c3) []) (fun t k => XS.istore X1207.here hx rfl (hb hby d8_19) rfl (l' := (Sh16 a1 3 4 3 c3)) rfl k) ?_
  refine GoW.sg (mkF m 23 (Sh16 a1 3 4 3 c3) [(.int c3)]) (fun t k => XS.iload X1207.here hx rfl (hb hby d8_21) rfl k) ?_
  refine GoW.sg (mkF m 25 (Sh16 a1 3 4 3 c3) [(.int 48), (.int c3)]) (fun t k => XS.bipush X1207.here hx rfl (hb hby d8_23) k) ?_
  by_cases c1208 : c3 < (48 : Int32)
  · refine GoW.sg (mkF m 35 (Sh16 a1 3 4 3 c3) []) (fun t k => XS.icmpYes X1207.here hx rfl (pc0 := 25) (pc' := 35) rfl (hb hby d8_25) rfl (tlt c1208).1 (by decide) (by decide) k) ?_
    refine GoW.sg (mkF m 36 (Sh16 a1 3 4 3 c3) [(.int 0)]) (fun t k => XS.iconst X1207.here hx rfl (hb hby d8_35) k) ?_
    refine GoW.retN X1207 hx (t := .boolean) Bd.returns (by simp) (hb hby d8_36) Bd.notSynchronized ?_ (by decide) (by decide)
    rw [e1207]
    have hq : (FD34 c0 c1 c2 c3 cs) = (0 : Int32) := by unfold FD34; rw [if_pos c1208]; try rfl
    exact ⟨by rw [hq] <;> rfl, N1207, rfl⟩
  · refine GoW.sg (mkF m 28 (Sh16 a1 3 4 3 c3) []) (fun t k => XS.icmpNo X1207.here hx rfl (hb hby d8_25) rfl (flt c1208).1 k) ?_
    refine GoW.sg (mkF m 30 (Sh16 a1 3 4 3 c3) [(.int c3)]) (fun t k => XS.iload X1207.here hx rfl (hb hby d8_28) rfl k) ?_
    refine GoW.sg (mkF m 32 (Sh16 a1 3 4 3 c3) [(.int 57), (.int c3)]) (fun t k => XS.bipush X1207.here hx rfl (hb hby d8_30) k) ?_
    by_cases c1209 : (57 : Int32) < c3
    · refine GoW.sg (mkF m 35 (Sh16 a1 3 4 3 c3) []) (fun t k => XS.icmpNo X1207.here hx rfl (hb hby d8_32) rfl (tlt c1209).2.2.2 k) ?_
      refine GoW.sg (mkF m 36 (Sh16 a1 3 4 3 c3) [(.int 0)]) (fun t k => XS.iconst X1207.here hx rfl (hb hby d8_35) k) ?_
      refine GoW.retN X1207 hx (t := .boolean) Bd.returns (by simp) (hb hby d8_36) Bd.notSynchronized ?_ (by decide) (by decide)
      rw [e1207]
      have hq : (FD34 c0 c1 c2 c3 cs) = (0 : Int32) := by unfold FD34; rw [if_neg c1208, if_pos c1209]; try rfl
      exact ⟨by rw [hq] <;> rfl, N1207, rfl⟩
    · refine GoW.sg (mkF m 37 (Sh16 a1 3 4 3 c3) []) (fun t k => XS.icmpYes X1207.here hx rfl (pc0 := 32) (pc' := 37) rfl (hb hby d8_32) rfl (flt c1209).2.2.2 (by decide) (by decide) k) ?_
      refine GoW.sg (mkF m 40 (Sh16 a1 3 4 4 c3) []) (fun t k => XS.iinc X1207.here hx rfl (hb hby d8_37) rfl (l' := (Sh16 a1 3 4 4 c3)) rfl k) ?_
      refine GoW.sg (mkF m 9 (Sh16 a1 3 4 4 c3) []) (fun t k => XS.goto X1207.here hx rfl (pc0 := 40) (pc' := 9) rfl (hb hby d8_40) (by decide) (by decide) k) ?_
      refine GoW.sg (mkF m 10 (Sh16 a1 3 4 4 c3) [(.int 4)]) (fun t k => XS.iloadN X1207.here hx rfl (hb hby d8_9) rfl k) ?_
      refine GoW.sg (mkF m 11 (Sh16 a1 3 4 4 c3) [(.int 4), (.int 4)]) (fun t k => XS.iloadN X1207.here hx rfl (hb hby d8_10) rfl k) ?_
      refine GoW.sg (mkF m 43 (Sh16 a1 3 4 4 c3) []) (fun t k => XS.icmpYes X1207.here hx rfl (pc0 := 11) (pc' := 43) rfl (hb hby d8_11) rfl (by decide) (by decide) (by decide) k) ?_
      refine GoW.sg (mkF m 44 (Sh16 a1 3 4 4 c3) [(.int 1)]) (fun t k => XS.iconst X1207.here hx rfl (hb hby d8_43) k) ?_
      refine GoW.retN X1207 hx (t := .boolean) Bd.returns (by simp) (hb hby d8_44) Bd.notSynchronized ?_ (by decide) (by decide)
      rw [e1207]
      have hq : (FD34 c0 c1 c2 c3 cs) = (1 : Int32) := by unfold FD34; rw [if_neg c1208, if_neg c1209]; try rfl
      exact ⟨by rw [hq] <;> rfl, N1207, rfl⟩
def QDn (Z : State) (a1 : Addr) (f1 : Int32) (t1 : Int32) (h0 : Heap) (n0 : Nat) (v : Option Value) (h : Heap) (L : List Loc) : Prop := v = some (.int (0 : Int32)) ∧ Fr n0 L ∧ (h = h0)
theorem ef8_rmDn (m : MethodId) (a1 : Addr) (f1 : Int32) (t1 : Int32) : entryFrame m #[(.ref a1), (.int f1), (.int t1)] 5 = (mkF m 0 #[.val (.ref a1), .val (.int f1), .val (.int t1), .unset, .unset] []) := by first | (simp [entryFrame, mkF, argsToLocals, Value.category, maxLocals]; done) | rfl
set_option maxRecDepth 65536 in
set_option maxHeartbeats 40000000 in
theorem rmDn (l : Launch) (Z : State) (a0 : Array Value) (hw : ∀ d ∈ tables_1, d.before a0 Z = true) (ws : List Jvm.Cond) (a1 : Addr) (f1 : Int32) (t1 : Int32)  (h0 : Heap) (n0 : Nat)    (hft : ¬ (f1 < t1))   :
    MetFree l Y8 (head1 (Jvm.Cond.code Y8 prog_10_method_2_code 5 (some .boolean) :: ws) ({ frames := 0, cells := 0, slots := 0, locals := 0 } : Room)) (fun a U => a = #[(.ref a1), (.int f1), (.int t1)] ∧ Z.Warmed39 U.vm ∧ U.heap = h0) (fun _ _ _ _ _ => True) (fun _ U o U' => ∃ v L, o = .returned v ∧ (QDn Z a1 f1 t1 h0 n0) v U'.heap L ∧ FrameEnd U o U' L 0 0) := by
  refine MetFree.of_bodySF (plainFor_of_name pn_com_example_throttle_throttle_SipSyntax) hisR ?_
  intro p e s m args below meth c s₁ Bd hml0 hP hK
  obtain ⟨rfl, hZ, hh⟩ := hP
  have hx := Bd.exec
  have hby := Bd.bytes
  have hml : c.maxLocals = 5 := hml0
  have hown : s.vm.findClass "com/example/throttle/throttle/SipSyntax" = some m.cls := findClass_of_methodNamed Bd.named
  have hnm := (name_of_methodNamed Bd.named Bd.method).1
  have X0 : Stand p l e ({ frames := 0, cells := 0, slots := 0, locals := 0 } : Room) s m #[(.ref a1), (.int f1), (.int t1)] below meth c s₁ [] 0 0 := Stand.of_body Bd
  have e0 : s₁.heap = h0 := by rw [← hh, Bd.state]; rfl
  have N0 := Fr.nil n0
  refine GoW.mk ?_
  refine GoW.st (fun t k => castTop (ef8_rmDn m a1 f1 t1) k) ?_
  show GoW p e below s (QDn Z a1 f1 t1 h0 n0) 0 0 (s₁.setTop (mkF m 0 (Sh7 a1 f1 t1) []))
  refine GoW.sg (mkF m 1 (Sh7 a1 f1 t1) [(.int f1)]) (fun t k => XS.iloadN X0.here hx rfl (hb hby d8_0) rfl k) ?_
  refine GoW.sg (mkF m 2 (Sh7 a1 f1 t1) [(.int t1), (.int f1)]) (fun t k => XS.iloadN X0.here hx rfl (hb hby d8_1) rfl k) ?_
  refine GoW.sg (mkF m 5 (Sh7 a1 f1 t1) []) (fun t k => XS.icmpNo X0.here hx rfl (hb hby d8_2) rfl (flt hft).1 k) ?_
  refine GoW.sg (mkF m 6 (Sh7 a1 f1 t1) [(.int 0)]) (fun t k => XS.iconst X0.here hx rfl (hb hby d8_5) k) ?_
  refine GoW.retN X0 hx (t := .boolean) Bd.returns (by simp) (hb hby d8_6) Bd.notSynchronized ?_ (by decide) (by decide)
  rw [e0]
  exact ⟨rfl, N0, rfl⟩
def F7 (q1 : Int32) (q2 : Int32) (q3 : Int32) (q4 : Int32) : Int32 := (if q2 < q3 then (1 : Int32) else (if q2 < q4 then (if q1 < (48 : Int32) then (0 : Int32) else (if (57 : Int32) < q1 then (0 : Int32) else (1 : Int32))) else (1 : Int32)))
theorem ef7_rm7 (m : MethodId) (q1 : Int32) (q2 : Int32) (q3 : Int32) (q4 : Int32) : entryFrame m #[(.int q1), (.int q2), (.int q3), (.int q4)] 4 = (mkF m 0 #[.val (.int q1), .val (.int q2), .val (.int q3), .val (.int q4)] []) := by first | (simp [entryFrame, mkF, argsToLocals, Value.category, maxLocals]; done) | rfl
set_option maxRecDepth 65536 in
set_option maxHeartbeats 40000000 in
theorem rm7 (l : Launch) (Z : State) (a0 : Array Value) (hw : ∀ d ∈ tables_1, d.before a0 Z = true) (ws : List Jvm.Cond) (q1 : Int32) (q2 : Int32) (q3 : Int32) (q4 : Int32)  (h0 : Heap) (n0 : Nat)  :
    MetFree l Y7 (head1 (Jvm.Cond.code Y7 method_3_code 4 (some .boolean) :: ws) ({ frames := 0, cells := 0, slots := 0, locals := 0 } : Room)) (fun a U => a = #[(.int q1), (.int q2), (.int q3), (.int q4)] ∧ Z.Warmed39 U.vm ∧ U.heap = h0) (fun _ _ _ _ _ => True) (fun _ U o U' => ∃ v L, o = .returned v ∧ (PureQ (.int (F7 q1 q2 q3 q4)) h0 n0) v U'.heap L ∧ FrameEnd U o U' L 0 0) := by
  refine MetFree.of_bodySF (plainFor_of_name pn_com_example_throttle_throttle_SipSyntaxIsDigitsPinLaw) hisR ?_
  intro p e s m args below meth c s₁ Bd hml0 hP hK
  obtain ⟨rfl, hZ, hh⟩ := hP
  have hx := Bd.exec
  have hby := Bd.bytes
  have hml : c.maxLocals = 4 := hml0
  have hown : s.vm.findClass "com/example/throttle/throttle/SipSyntaxIsDigitsPinLaw" = some m.cls := findClass_of_methodNamed Bd.named
  have hnm := (name_of_methodNamed Bd.named Bd.method).1
  have X0 : Stand p l e ({ frames := 0, cells := 0, slots := 0, locals := 0 } : Room) s m #[(.int q1), (.int q2), (.int q3), (.int q4)] below meth c s₁ [] 0 0 := Stand.of_body Bd
  have e0 : s₁.heap = h0 := by rw [← hh, Bd.state]; rfl
  have N0 := Fr.nil n0
  refine GoW.mk ?_
  refine GoW.st (fun t k => castTop (ef7_rm7 m q1 q2 q3 q4) k) ?_
  show GoW p e below s (PureQ (.int (F7 q1 q2 q3 q4)) h0 n0) 0 0 (s₁.setTop (mkF m 0 (Sh17 q1 q2 q3 q4) []))
  refine GoW.sg (mkF m 1 (Sh17 q1 q2 q3 q4) [(.int q2)]) (fun t k => XS.iloadN X0.here hx rfl (hb hby d7_0) rfl k) ?_
  refine GoW.sg (mkF m 2 (Sh17 q1 q2 q3 q4) [(.int q3), (.int q2)]) (fun t k => XS.iloadN X0.here hx rfl (hb hby d7_1) rfl k) ?_
  by_cases c1210 : q2 < q3
  · refine GoW.sg (mkF m 10 (Sh17 q1 q2 q3 q4) []) (fun t k => XS.icmpYes X0.here hx rfl (pc0 := 2) (pc' := 10) rfl (hb hby d7_2) rfl (tlt c1210).1 (by decide) (by decide) k) ?_
    refine GoW.sg (mkF m 11 (Sh17 q1 q2 q3 q4) [(.int 1)]) (fun t k => XS.iconst X0.here hx rfl (hb hby d7_10) k) ?_
    refine GoW.retN X0 hx (t := .boolean) Bd.returns (by simp) (hb hby d7_11) Bd.notSynchronized ?_ (by decide) (by decide)
    have hq : (F7 q1 q2 q3 q4) = (1 : Int32) := by unfold F7; rw [if_pos c1210]; try rfl
    exact ⟨by rw [hq] <;> rfl, N0, e0⟩
  · refine GoW.sg (mkF m 5 (Sh17 q1 q2 q3 q4) []) (fun t k => XS.icmpNo X0.here hx rfl (hb hby d7_2) rfl (flt c1210).1 k) ?_
    refine GoW.sg (mkF m 6 (Sh17 q1 q2 q3 q4) [(.int q2)]) (fun t k => XS.iloadN X0.here hx rfl (hb hby d7_5) rfl k) ?_
    refine GoW.sg (mkF m 7 (Sh17 q1 q2 q3 q4) [(.int q4), (.int q2)]) (fun t k => XS.iloadN X0.here hx rfl (hb hby d7_6) rfl k) ?_
    by_cases c1211 : q2 < q4
    · refine GoW.sg (mkF m 12 (Sh17 q1 q2 q3 q4) []) (fun t k => XS.icmpYes X0.here hx rfl (pc0 := 7) (pc' := 12) rfl (hb hby d7_7) rfl (tlt c1211).1 (by decide) (by decide) k) ?_
      refine GoW.sg (mkF m 13 (Sh17 q1 q2 q3 q4) [(.int q1)]) (fun t k => XS.iloadN X0.here hx rfl (hb hby d7_12) rfl k) ?_
      refine GoW.sg (mkF m 15 (Sh17 q1 q2 q3 q4) [(.int 48), (.int q1)]) (fun t k => XS.bipush X0.here hx rfl (hb hby d7_13) k) ?_
      by_cases c1212 : q1 < (48 : Int32)
      · refine GoW.sg (mkF m 28 (Sh17 q1 q2 q3 q4) []) (fun t k => XS.icmpYes X0.here hx rfl (pc0 := 15) (pc' := 28) rfl (hb hby d7_15) rfl (tlt c1212).1 (by decide) (by decide) k) ?_
        refine GoW.sg (mkF m 29 (Sh17 q1 q2 q3 q4) [(.int 0)]) (fun t k => XS.iconst X0.here hx rfl (hb hby d7_28) k) ?_
        refine GoW.retN X0 hx (t := .boolean) Bd.returns (by simp) (hb hby d7_29) Bd.notSynchronized ?_ (by decide) (by decide)
        have hq : (F7 q1 q2 q3 q4) = (0 : Int32) := by unfold F7; rw [if_neg c1210, if_pos c1211, if_pos c1212]; try rfl
        exact ⟨by rw [hq] <;> rfl, N0, e0⟩
      · refine GoW.sg (mkF m 18 (Sh17 q1 q2 q3 q4) []) (fun t k => XS.icmpNo X0.here hx rfl (hb hby d7_15) rfl (flt c1212).1 k) ?_
        refine GoW.sg (mkF m 19 (Sh17 q1 q2 q3 q4) [(.int q1)]) (fun t k => XS.iloadN X0.here hx rfl (hb hby d7_18) rfl k) ?_
        refine GoW.sg (mkF m 21 (Sh17 q1 q2 q3 q4) [(.int 57), (.int q1)]) (fun t k => XS.bipush X0.here hx rfl (hb hby d7_19) k) ?_
        by_cases c1213 : (57 : Int32) < q1
        · refine GoW.sg (mkF m 28 (Sh17 q1 q2 q3 q4) []) (fun t k => XS.icmpYes X0.here hx rfl (pc0 := 21) (pc' := 28) rfl (hb hby d7_21) rfl (tlt c1213).2.2.1 (by decide) (by decide) k) ?_
          refine GoW.sg (mkF m 29 (Sh17 q1 q2 q3 q4) [(.int 0)]) (fun t k => XS.iconst X0.here hx rfl (hb hby d7_28) k) ?_
          refine GoW.retN X0 hx (t := .boolean) Bd.returns (by simp) (hb hby d7_29) Bd.notSynchronized ?_ (by decide) (by decide)
          have hq : (F7 q1 q2 q3 q4) = (0 : Int32) := by unfold F7; rw [if_neg c1210, if_pos c1211, if_neg c1212, if_pos c1213]; try rfl
          exact ⟨by rw [hq] <;> rfl, N0, e0⟩
        · refine GoW.sg (mkF m 24 (Sh17 q1 q2 q3 q4) []) (fun t k => XS.icmpNo X0.here hx rfl (hb hby d7_21) rfl (flt c1213).2.2.1 k) ?_
          refine GoW.sg (mkF m 25 (Sh17 q1 q2 q3 q4) [(.int 1)]) (fun t k => XS.iconst X0.here hx rfl (hb hby d7_24) k) ?_
          refine GoW.sg (mkF m 29 (Sh17 q1 q2 q3 q4) [(.int 1)]) (fun t k => XS.goto X0.here hx rfl (pc0 := 25) (pc' := 29) rfl (hb hby d7_25) (by decide) (by decide) k) ?_
          refine GoW.retN X0 hx (t := .boolean) Bd.returns (by simp) (hb hby d7_29) Bd.notSynchronized ?_ (by decide) (by decide)
          have hq : (F7 q1 q2 q3 q4) = (1 : Int32) := by unfold F7; rw [if_neg c1210, if_pos c1211, if_neg c1212, if_neg c1213]; try rfl
          exact ⟨by rw [hq] <;> rfl, N0, e0⟩
    · refine GoW.sg (mkF m 10 (Sh17 q1 q2 q3 q4) []) (fun t k => XS.icmpNo X0.here hx rfl (hb hby d7_7) rfl (flt c1211).1 k) ?_
      refine GoW.sg (mkF m 11 (Sh17 q1 q2 q3 q4) [(.int 1)]) (fun t k => XS.iconst X0.here hx rfl (hb hby d7_10) k) ?_
      refine GoW.retN X0 hx (t := .boolean) Bd.returns (by simp) (hb hby d7_11) Bd.notSynchronized ?_ (by decide) (by decide)
      have hq : (F7 q1 q2 q3 q4) = (1 : Int32) := by unfold F7; rw [if_neg c1210, if_neg c1211]; try rfl
      exact ⟨by rw [hq] <;> rfl, N0, e0⟩
theorem own_D (c X : Int32) : (if (if c < (48 : Int32) then (0 : Int32) else (if (57 : Int32) < c then (0 : Int32) else (1 : Int32))) = (0 : Int32) then (0 : Int32) else X) = (if c < (48 : Int32) then (0 : Int32) else (if (57 : Int32) < c then (0 : Int32) else X)) := by
  by_cases h1 : c < (48 : Int32) <;> by_cases h2 : (57 : Int32) < c <;> simp [h1, h2]
theorem own_d01 (c0 : Int32) (c1 : Int32) (c2 : Int32) (c3 : Int32) (cs : Int32) : FD01 c0 c1 c2 c3 cs = (if (F7 c0 (0 : Int32) (0 : Int32) (1 : Int32)) = (0 : Int32) then (0 : Int32) else (if (F7 c1 (1 : Int32) (0 : Int32) (1 : Int32)) = (0 : Int32) then (0 : Int32) else (if (F7 c2 (2 : Int32) (0 : Int32) (1 : Int32)) = (0 : Int32) then (0 : Int32) else (if (F7 c3 (3 : Int32) (0 : Int32) (1 : Int32)) = (0 : Int32) then (0 : Int32) else (1 : Int32))))) := by
  unfold FD01 F7
  simp only [show ((0 : Int32) < (0 : Int32)) = False from by decide, show ((0 : Int32) < (1 : Int32)) = True from by decide, show ((0 : Int32) < (2 : Int32)) = True from by decide, show ((0 : Int32) < (3 : Int32)) = True from by decide, show ((0 : Int32) < (4 : Int32)) = True from by decide, show ((1 : Int32) < (0 : Int32)) = False from by decide, show ((1 : Int32) < (1 : Int32)) = False from by decide, show ((1 : Int32) < (2 : Int32)) = True from by decide, show ((1 : Int32) < (3 : Int32)) = True from by decide, show ((1 : Int32) < (4 : Int32)) = True from by decide, show ((2 : Int32) < (0 : Int32)) = False from by decide, show ((2 : Int32) < (1 : Int32)) = False from by decide, show ((2 : Int32) < (2 : Int32)) = False from by decide, show ((2 : Int32) < (3 : Int32)) = True from by decide, show ((2 : Int32) < (4 : Int32)) = True from by decide, show ((3 : Int32) < (0 : Int32)) = False from by decide, show ((3 : Int32) < (1 : Int32)) = False from by decide, show ((3 : Int32) < (2 : Int32)) = False from by decide, show ((3 : Int32) < (3 : Int32)) = False from by decide, show ((3 : Int32) < (4 : Int32)) = True from by decide, if_true, if_false, own_D, show ((1 : Int32) = (0 : Int32)) = False from by decide, show ((0 : Int32) = (0 : Int32)) = True from by decide]
theorem own_d02 (c0 : Int32) (c1 : Int32) (c2 : Int32) (c3 : Int32) (cs : Int32) : FD02 c0 c1 c2 c3 cs = (if (F7 c0 (0 : Int32) (0 : Int32) (2 : Int32)) = (0 : Int32) then (0 : Int32) else (if (F7 c1 (1 : Int32) (0 : Int32) (2 : Int32)) = (0 : Int32) then (0 : Int32) else (if (F7 c2 (2 : Int32) (0 : Int32) (2 : Int32)) = (0 : Int32) then (0 : Int32) else (if (F7 c3 (3 : Int32) (0 : Int32) (2 : Int32)) = (0 : Int32) then (0 : Int32) else (1 : Int32))))) := by
  unfold FD02 F7
  simp only [show ((0 : Int32) < (0 : Int32)) = False from by decide, show ((0 : Int32) < (1 : Int32)) = True from by decide, show ((0 : Int32) < (2 : Int32)) = True from by decide, show ((0 : Int32) < (3 : Int32)) = True from by decide, show ((0 : Int32) < (4 : Int32)) = True from by decide, show ((1 : Int32) < (0 : Int32)) = False from by decide, show ((1 : Int32) < (1 : Int32)) = False from by decide, show ((1 : Int32) < (2 : Int32)) = True from by decide, show ((1 : Int32) < (3 : Int32)) = True from by decide, show ((1 : Int32) < (4 : Int32)) = True from by decide, show ((2 : Int32) < (0 : Int32)) = False from by decide, show ((2 : Int32) < (1 : Int32)) = False from by decide, show ((2 : Int32) < (2 : Int32)) = False from by decide, show ((2 : Int32) < (3 : Int32)) = True from by decide, show ((2 : Int32) < (4 : Int32)) = True from by decide, show ((3 : Int32) < (0 : Int32)) = False from by decide, show ((3 : Int32) < (1 : Int32)) = False from by decide, show ((3 : Int32) < (2 : Int32)) = False from by decide, show ((3 : Int32) < (3 : Int32)) = False from by decide, show ((3 : Int32) < (4 : Int32)) = True from by decide, if_true, if_false, own_D, show ((1 : Int32) = (0 : Int32)) = False from by decide, show ((0 : Int32) = (0 : Int32)) = True from by decide]
theorem own_d03 (c0 : Int32) (c1 : Int32) (c2 : Int32) (c3 : Int32) (cs : Int32) : FD03 c0 c1 c2 c3 cs = (if (F7 c0 (0 : Int32) (0 : Int32) (3 : Int32)) = (0 : Int32) then (0 : Int32) else (if (F7 c1 (1 : Int32) (0 : Int32) (3 : Int32)) = (0 : Int32) then (0 : Int32) else (if (F7 c2 (2 : Int32) (0 : Int32) (3 : Int32)) = (0 : Int32) then (0 : Int32) else (if (F7 c3 (3 : Int32) (0 : Int32) (3 : Int32)) = (0 : Int32) then (0 : Int32) else (1 : Int32))))) := by
  unfold FD03 F7
  simp only [show ((0 : Int32) < (0 : Int32)) = False from by decide, show ((0 : Int32) < (1 : Int32)) = True from by decide, show ((0 : Int32) < (2 : Int32)) = True from by decide, show ((0 : Int32) < (3 : Int32)) = True from by decide, show ((0 : Int32) < (4 : Int32)) = True from by decide, show ((1 : Int32) < (0 : Int32)) = False from by decide, show ((1 : Int32) < (1 : Int32)) = False from by decide, show ((1 : Int32) < (2 : Int32)) = True from by decide, show ((1 : Int32) < (3 : Int32)) = True from by decide, show ((1 : Int32) < (4 : Int32)) = True from by decide, show ((2 : Int32) < (0 : Int32)) = False from by decide, show ((2 : Int32) < (1 : Int32)) = False from by decide, show ((2 : Int32) < (2 : Int32)) = False from by decide, show ((2 : Int32) < (3 : Int32)) = True from by decide, show ((2 : Int32) < (4 : Int32)) = True from by decide, show ((3 : Int32) < (0 : Int32)) = False from by decide, show ((3 : Int32) < (1 : Int32)) = False from by decide, show ((3 : Int32) < (2 : Int32)) = False from by decide, show ((3 : Int32) < (3 : Int32)) = False from by decide, show ((3 : Int32) < (4 : Int32)) = True from by decide, if_true, if_false, own_D, show ((1 : Int32) = (0 : Int32)) = False from by decide, show ((0 : Int32) = (0 : Int32)) = True from by decide]
theorem own_d04 (c0 : Int32) (c1 : Int32) (c2 : Int32) (c3 : Int32) (cs : Int32) : FD04 c0 c1 c2 c3 cs = (if (F7 c0 (0 : Int32) (0 : Int32) (4 : Int32)) = (0 : Int32) then (0 : Int32) else (if (F7 c1 (1 : Int32) (0 : Int32) (4 : Int32)) = (0 : Int32) then (0 : Int32) else (if (F7 c2 (2 : Int32) (0 : Int32) (4 : Int32)) = (0 : Int32) then (0 : Int32) else (if (F7 c3 (3 : Int32) (0 : Int32) (4 : Int32)) = (0 : Int32) then (0 : Int32) else (1 : Int32))))) := by
  unfold FD04 F7
  simp only [show ((0 : Int32) < (0 : Int32)) = False from by decide, show ((0 : Int32) < (1 : Int32)) = True from by decide, show ((0 : Int32) < (2 : Int32)) = True from by decide, show ((0 : Int32) < (3 : Int32)) = True from by decide, show ((0 : Int32) < (4 : Int32)) = True from by decide, show ((1 : Int32) < (0 : Int32)) = False from by decide, show ((1 : Int32) < (1 : Int32)) = False from by decide, show ((1 : Int32) < (2 : Int32)) = True from by decide, show ((1 : Int32) < (3 : Int32)) = True from by decide, show ((1 : Int32) < (4 : Int32)) = True from by decide, show ((2 : Int32) < (0 : Int32)) = False from by decide, show ((2 : Int32) < (1 : Int32)) = False from by decide, show ((2 : Int32) < (2 : Int32)) = False from by decide, show ((2 : Int32) < (3 : Int32)) = True from by decide, show ((2 : Int32) < (4 : Int32)) = True from by decide, show ((3 : Int32) < (0 : Int32)) = False from by decide, show ((3 : Int32) < (1 : Int32)) = False from by decide, show ((3 : Int32) < (2 : Int32)) = False from by decide, show ((3 : Int32) < (3 : Int32)) = False from by decide, show ((3 : Int32) < (4 : Int32)) = True from by decide, if_true, if_false, own_D, show ((1 : Int32) = (0 : Int32)) = False from by decide, show ((0 : Int32) = (0 : Int32)) = True from by decide]
theorem own_d12 (c0 : Int32) (c1 : Int32) (c2 : Int32) (c3 : Int32) (cs : Int32) : FD12 c0 c1 c2 c3 cs = (if (F7 c0 (0 : Int32) (1 : Int32) (2 : Int32)) = (0 : Int32) then (0 : Int32) else (if (F7 c1 (1 : Int32) (1 : Int32) (2 : Int32)) = (0 : Int32) then (0 : Int32) else (if (F7 c2 (2 : Int32) (1 : Int32) (2 : Int32)) = (0 : Int32) then (0 : Int32) else (if (F7 c3 (3 : Int32) (1 : Int32) (2 : Int32)) = (0 : Int32) then (0 : Int32) else (1 : Int32))))) := by
  unfold FD12 F7
  simp only [show ((0 : Int32) < (0 : Int32)) = False from by decide, show ((0 : Int32) < (1 : Int32)) = True from by decide, show ((0 : Int32) < (2 : Int32)) = True from by decide, show ((0 : Int32) < (3 : Int32)) = True from by decide, show ((0 : Int32) < (4 : Int32)) = True from by decide, show ((1 : Int32) < (0 : Int32)) = False from by decide, show ((1 : Int32) < (1 : Int32)) = False from by decide, show ((1 : Int32) < (2 : Int32)) = True from by decide, show ((1 : Int32) < (3 : Int32)) = True from by decide, show ((1 : Int32) < (4 : Int32)) = True from by decide, show ((2 : Int32) < (0 : Int32)) = False from by decide, show ((2 : Int32) < (1 : Int32)) = False from by decide, show ((2 : Int32) < (2 : Int32)) = False from by decide, show ((2 : Int32) < (3 : Int32)) = True from by decide, show ((2 : Int32) < (4 : Int32)) = True from by decide, show ((3 : Int32) < (0 : Int32)) = False from by decide, show ((3 : Int32) < (1 : Int32)) = False from by decide, show ((3 : Int32) < (2 : Int32)) = False from by decide, show ((3 : Int32) < (3 : Int32)) = False from by decide, show ((3 : Int32) < (4 : Int32)) = True from by decide, if_true, if_false, own_D, show ((1 : Int32) = (0 : Int32)) = False from by decide, show ((0 : Int32) = (0 : Int32)) = True from by decide]
theorem own_d13 (c0 : Int32) (c1 : Int32) (c2 : Int32) (c3 : Int32) (cs : Int32) : FD13 c0 c1 c2 c3 cs = (if (F7 c0 (0 : Int32) (1 : Int32) (3 : Int32)) = (0 : Int32) then (0 : Int32) else (if (F7 c1 (1 : Int32) (1 : Int32) (3 : Int32)) = (0 : Int32) then (0 : Int32) else (if (F7 c2 (2 : Int32) (1 : Int32) (3 : Int32)) = (0 : Int32) then (0 : Int32) else (if (F7 c3 (3 : Int32) (1 : Int32) (3 : Int32)) = (0 : Int32) then (0 : Int32) else (1 : Int32))))) := by
  unfold FD13 F7
  simp only [show ((0 : Int32) < (0 : Int32)) = False from by decide, show ((0 : Int32) < (1 : Int32)) = True from by decide, show ((0 : Int32) < (2 : Int32)) = True from by decide, show ((0 : Int32) < (3 : Int32)) = True from by decide, show ((0 : Int32) < (4 : Int32)) = True from by decide, show ((1 : Int32) < (0 : Int32)) = False from by decide, show ((1 : Int32) < (1 : Int32)) = False from by decide, show ((1 : Int32) < (2 : Int32)) = True from by decide, show ((1 : Int32) < (3 : Int32)) = True from by decide, show ((1 : Int32) < (4 : Int32)) = True from by decide, show ((2 : Int32) < (0 : Int32)) = False from by decide, show ((2 : Int32) < (1 : Int32)) = False from by decide, show ((2 : Int32) < (2 : Int32)) = False from by decide, show ((2 : Int32) < (3 : Int32)) = True from by decide, show ((2 : Int32) < (4 : Int32)) = True from by decide, show ((3 : Int32) < (0 : Int32)) = False from by decide, show ((3 : Int32) < (1 : Int32)) = False from by decide, show ((3 : Int32) < (2 : Int32)) = False from by decide, show ((3 : Int32) < (3 : Int32)) = False from by decide, show ((3 : Int32) < (4 : Int32)) = True from by decide, if_true, if_false, own_D, show ((1 : Int32) = (0 : Int32)) = False from by decide, show ((0 : Int32) = (0 : Int32)) = True from by decide]
theorem own_d14 (c0 : Int32) (c1 : Int32) (c2 : Int32) (c3 : Int32) (cs : Int32) : FD14 c0 c1 c2 c3 cs = (if (F7 c0 (0 : Int32) (1 : Int32) (4 : Int32)) = (0 : Int32) then (0 : Int32) else (if (F7 c1 (1 : Int32) (1 : Int32) (4 : Int32)) = (0 : Int32) then (0 : Int32) else (if (F7 c2 (2 : Int32) (1 : Int32) (4 : Int32)) = (0 : Int32) then (0 : Int32) else (if (F7 c3 (3 : Int32) (1 : Int32) (4 : Int32)) = (0 : Int32) then (0 : Int32) else (1 : Int32))))) := by
  unfold FD14 F7
  simp only [show ((0 : Int32) < (0 : Int32)) = False from by decide, show ((0 : Int32) < (1 : Int32)) = True from by decide, show ((0 : Int32) < (2 : Int32)) = True from by decide, show ((0 : Int32) < (3 : Int32)) = True from by decide, show ((0 : Int32) < (4 : Int32)) = True from by decide, show ((1 : Int32) < (0 : Int32)) = False from by decide, show ((1 : Int32) < (1 : Int32)) = False from by decide, show ((1 : Int32) < (2 : Int32)) = True from by decide, show ((1 : Int32) < (3 : Int32)) = True from by decide, show ((1 : Int32) < (4 : Int32)) = True from by decide, show ((2 : Int32) < (0 : Int32)) = False from by decide, show ((2 : Int32) < (1 : Int32)) = False from by decide, show ((2 : Int32) < (2 : Int32)) = False from by decide, show ((2 : Int32) < (3 : Int32)) = True from by decide, show ((2 : Int32) < (4 : Int32)) = True from by decide, show ((3 : Int32) < (0 : Int32)) = False from by decide, show ((3 : Int32) < (1 : Int32)) = False from by decide, show ((3 : Int32) < (2 : Int32)) = False from by decide, show ((3 : Int32) < (3 : Int32)) = False from by decide, show ((3 : Int32) < (4 : Int32)) = True from by decide, if_true, if_false, own_D, show ((1 : Int32) = (0 : Int32)) = False from by decide, show ((0 : Int32) = (0 : Int32)) = True from by decide]
theorem own_d23 (c0 : Int32) (c1 : Int32) (c2 : Int32) (c3 : Int32) (cs : Int32) : FD23 c0 c1 c2 c3 cs = (if (F7 c0 (0 : Int32) (2 : Int32) (3 : Int32)) = (0 : Int32) then (0 : Int32) else (if (F7 c1 (1 : Int32) (2 : Int32) (3 : Int32)) = (0 : Int32) then (0 : Int32) else (if (F7 c2 (2 : Int32) (2 : Int32) (3 : Int32)) = (0 : Int32) then (0 : Int32) else (if (F7 c3 (3 : Int32) (2 : Int32) (3 : Int32)) = (0 : Int32) then (0 : Int32) else (1 : Int32))))) := by
  unfold FD23 F7
  simp only [show ((0 : Int32) < (0 : Int32)) = False from by decide, show ((0 : Int32) < (1 : Int32)) = True from by decide, show ((0 : Int32) < (2 : Int32)) = True from by decide, show ((0 : Int32) < (3 : Int32)) = True from by decide, show ((0 : Int32) < (4 : Int32)) = True from by decide, show ((1 : Int32) < (0 : Int32)) = False from by decide, show ((1 : Int32) < (1 : Int32)) = False from by decide, show ((1 : Int32) < (2 : Int32)) = True from by decide, show ((1 : Int32) < (3 : Int32)) = True from by decide, show ((1 : Int32) < (4 : Int32)) = True from by decide, show ((2 : Int32) < (0 : Int32)) = False from by decide, show ((2 : Int32) < (1 : Int32)) = False from by decide, show ((2 : Int32) < (2 : Int32)) = False from by decide, show ((2 : Int32) < (3 : Int32)) = True from by decide, show ((2 : Int32) < (4 : Int32)) = True from by decide, show ((3 : Int32) < (0 : Int32)) = False from by decide, show ((3 : Int32) < (1 : Int32)) = False from by decide, show ((3 : Int32) < (2 : Int32)) = False from by decide, show ((3 : Int32) < (3 : Int32)) = False from by decide, show ((3 : Int32) < (4 : Int32)) = True from by decide, if_true, if_false, own_D, show ((1 : Int32) = (0 : Int32)) = False from by decide, show ((0 : Int32) = (0 : Int32)) = True from by decide]
theorem own_d24 (c0 : Int32) (c1 : Int32) (c2 : Int32) (c3 : Int32) (cs : Int32) : FD24 c0 c1 c2 c3 cs = (if (F7 c0 (0 : Int32) (2 : Int32) (4 : Int32)) = (0 : Int32) then (0 : Int32) else (if (F7 c1 (1 : Int32) (2 : Int32) (4 : Int32)) = (0 : Int32) then (0 : Int32) else (if (F7 c2 (2 : Int32) (2 : Int32) (4 : Int32)) = (0 : Int32) then (0 : Int32) else (if (F7 c3 (3 : Int32) (2 : Int32) (4 : Int32)) = (0 : Int32) then (0 : Int32) else (1 : Int32))))) := by
  unfold FD24 F7
  simp only [show ((0 : Int32) < (0 : Int32)) = False from by decide, show ((0 : Int32) < (1 : Int32)) = True from by decide, show ((0 : Int32) < (2 : Int32)) = True from by decide, show ((0 : Int32) < (3 : Int32)) = True from by decide, show ((0 : Int32) < (4 : Int32)) = True from by decide, show ((1 : Int32) < (0 : Int32)) = False from by decide, show ((1 : Int32) < (1 : Int32)) = False from by decide, show ((1 : Int32) < (2 : Int32)) = True from by decide, show ((1 : Int32) < (3 : Int32)) = True from by decide, show ((1 : Int32) < (4 : Int32)) = True from by decide, show ((2 : Int32) < (0 : Int32)) = False from by decide, show ((2 : Int32) < (1 : Int32)) = False from by decide, show ((2 : Int32) < (2 : Int32)) = False from by decide, show ((2 : Int32) < (3 : Int32)) = True from by decide, show ((2 : Int32) < (4 : Int32)) = True from by decide, show ((3 : Int32) < (0 : Int32)) = False from by decide, show ((3 : Int32) < (1 : Int32)) = False from by decide, show ((3 : Int32) < (2 : Int32)) = False from by decide, show ((3 : Int32) < (3 : Int32)) = False from by decide, show ((3 : Int32) < (4 : Int32)) = True from by decide, if_true, if_false, own_D, show ((1 : Int32) = (0 : Int32)) = False from by decide, show ((0 : Int32) = (0 : Int32)) = True from by decide]
theorem own_d34 (c0 : Int32) (c1 : Int32) (c2 : Int32) (c3 : Int32) (cs : Int32) : FD34 c0 c1 c2 c3 cs = (if (F7 c0 (0 : Int32) (3 : Int32) (4 : Int32)) = (0 : Int32) then (0 : Int32) else (if (F7 c1 (1 : Int32) (3 : Int32) (4 : Int32)) = (0 : Int32) then (0 : Int32) else (if (F7 c2 (2 : Int32) (3 : Int32) (4 : Int32)) = (0 : Int32) then (0 : Int32) else (if (F7 c3 (3 : Int32) (3 : Int32) (4 : Int32)) = (0 : Int32) then (0 : Int32) else (1 : Int32))))) := by
  unfold FD34 F7
  simp only [show ((0 : Int32) < (0 : Int32)) = False from by decide, show ((0 : Int32) < (1 : Int32)) = True from by decide, show ((0 : Int32) < (2 : Int32)) = True from by decide, show ((0 : Int32) < (3 : Int32)) = True from by decide, show ((0 : Int32) < (4 : Int32)) = True from by decide, show ((1 : Int32) < (0 : Int32)) = False from by decide, show ((1 : Int32) < (1 : Int32)) = False from by decide, show ((1 : Int32) < (2 : Int32)) = True from by decide, show ((1 : Int32) < (3 : Int32)) = True from by decide, show ((1 : Int32) < (4 : Int32)) = True from by decide, show ((2 : Int32) < (0 : Int32)) = False from by decide, show ((2 : Int32) < (1 : Int32)) = False from by decide, show ((2 : Int32) < (2 : Int32)) = False from by decide, show ((2 : Int32) < (3 : Int32)) = True from by decide, show ((2 : Int32) < (4 : Int32)) = True from by decide, show ((3 : Int32) < (0 : Int32)) = False from by decide, show ((3 : Int32) < (1 : Int32)) = False from by decide, show ((3 : Int32) < (2 : Int32)) = False from by decide, show ((3 : Int32) < (3 : Int32)) = False from by decide, show ((3 : Int32) < (4 : Int32)) = True from by decide, if_true, if_false, own_D, show ((1 : Int32) = (0 : Int32)) = False from by decide, show ((0 : Int32) = (0 : Int32)) = True from by decide]
theorem ef0_rm0 (m : MethodId) (q1 : Int32) (q2 : Int32) (q3 : Int32) (q4 : Int32) (q5 : Int32) (q6 : Int32) : entryFrame m #[(.int q1), (.int q2), (.int q3), (.int q4), (.int q5), (.int q6)] maxLocals = (mkF m 0 #[.val (.int q1), .val (.int q2), .val (.int q3), .val (.int q4), .val (.int q5), .val (.int q6), .unset, .unset, .unset, .unset, .unset] []) := by first | (simp [entryFrame, mkF, argsToLocals, Value.category, maxLocals]; done) | rfl
set_option maxRecDepth 65536 in
set_option maxHeartbeats 40000000 in
theorem rm0 (l : Launch) (Z : State) (a0 : Array Value) (hw : ∀ d ∈ tables_1, d.before a0 Z = true) (ws : List Jvm.Cond) (q1 : Int32) (q2 : Int32) (q3 : Int32) (q4 : Int32) (q5 : Int32) (q6 : Int32) (cs : Int32) (vf : Value) (h0 : Heap) (n0 : Nat) (Z0 : n0 ≤ h0.size) (PC : Sta Z h0 "java/lang/String" "COMPACT_STRINGS" "Z" (.int cs)) (PA : Sta Z h0 "java/lang/StringUTF16" "$assertionsDisabled" "Z" (.int (1 : Int32))) (PH : Sta Z h0 "java/lang/StringUTF16" "HI_BYTE_SHIFT" "I" (.int (0 : Int32))) (PL : Sta Z h0 "java/lang/StringUTF16" "LO_BYTE_SHIFT" "I" (.int (8 : Int32))) (PF : Sta Z h0 "jdk/internal/util/Preconditions" "SIOOBE_FORMATTER" "Ljava/util/function/BiFunction;" vf) (hvf : vf.isRef = true) (ncs : ¬ (cs = (0 : Int32))) :
    MetFree l x (head1 (Jvm.Cond.code x code maxLocals ret :: ws) room_1) (fun a U => a = #[(.int q1), (.int q2), (.int q3), (.int q4), (.int q5), (.int q6)] ∧ Z.Warmed39 U.vm ∧ U.heap = h0) (fun _ _ _ _ _ => True) (fun _ U o U' => ∃ v L, o = .returned v ∧ (ValQ (.int (1 : Int32)) n0) v U'.heap L ∧ FrameEnd U o U' L room_1.cells room_1.slots) := by
  refine MetFree.of_bodySF (plainFor_of_name pn_com_example_throttle_throttle_SipSyntaxIsDigitsPinLaw) hisR ?_
  intro p e s m args below meth c s₁ Bd hml0 hP hK
  obtain ⟨rfl, hZ, hh⟩ := hP
  have hx := Bd.exec
  have hby := Bd.bytes
  have hml : c.maxLocals = 11 := hml0
  have hown : s.vm.findClass "com/example/throttle/throttle/SipSyntaxIsDigitsPinLaw" = some m.cls := findClass_of_methodNamed Bd.named
  have hnm := (name_of_methodNamed Bd.named Bd.method).1
  have X0 : Stand p l e room_1 s m #[(.int q1), (.int q2), (.int q3), (.int q4), (.int q5), (.int q6)] below meth c s₁ [] 0 0 := Stand.of_body Bd
  have e0 : s₁.heap = h0 := by rw [← hh, Bd.state]; rfl
  have N0 := Fr.nil n0
  refine GoW.mk ?_
  refine GoW.st (fun t k => castTop (ef0_rm0 m q1 q2 q3 q4 q5 q6) k) ?_
  show GoW p e below s (ValQ (.int (1 : Int32)) n0) room_1.cells room_1.slots (s₁.setTop (mkF m 0 (Sh18 q1 q2 q3 q4 q5 q6) []))
  refine GoW.sg (mkF m 1 (Sh18 q1 q2 q3 q4 q5 q6) [(.int 4)]) (fun t k => XS.iconst X0.here hx rfl (hb hby at_0) k) ?_
  obtain ⟨T1214, h1214, k1214, X1214, e1214, E1214, A1214, st1214⟩ := newP X0 hx hZ (ww hw 0 rfl) e0 (g := (mkF m 1 (Sh18 q1 q2 q3 q4 q5 q6) [(.int 4)])) rfl (hb hby at_1) rfl (by decide) (cap := 4) (by decide) (by decide) (by decide) (by decide)
  obtain ⟨b1214, g1214⟩ : ∃ z, z = h0.size := ⟨_, rfl⟩
  rw [← g1214] at A1214 st1214
  have g_b1214 : n0 ≤ b1214 := Nat.le_trans Z0 (Nat.le_of_eq g1214.symm)
  have f1214_1 := Nat.le_trans Z0 E1214.1
  have f1214_2 := PC.ext E1214
  have f1214_3 := PA.ext E1214
  have f1214_4 := PH.ext E1214
  have f1214_5 := PL.ext E1214
  have f1214_6 := PF.ext E1214
  have V1214 : Arv Z h1214 b1214 k1214 .char (4 : Int32) [(.int (0 : Int32)), (.int (0 : Int32)), (.int (0 : Int32)), (.int (0 : Int32))] (.int (0 : Int32)) := (Arv.new A1214 (by decide)).pad (pad_rep [] (.int (0 : Int32)) 4)
  refine GoW.sg (mkF m 3 (Sh18 q1 q2 q3 q4 q5 q6) [(.ref b1214)]) (fun t k => st1214 t k) ?_
  refine GoW.sg (mkF m 5 (Sh19 q1 q2 q3 q4 q5 q6 b1214) []) (fun t k => XS.astore X1214.here hx rfl (hb hby at_3) rfl rfl (l' := (Sh19 q1 q2 q3 q4 q5 q6 b1214)) rfl k) ?_
  refine GoW.sg (mkF m 7 (Sh19 q1 q2 q3 q4 q5 q6 b1214) [(.ref b1214)]) (fun t k => XS.aload X1214.here hx rfl (hb hby at_5) rfl rfl k) ?_
  refine GoW.sg (mkF m 8 (Sh19 q1 q2 q3 q4 q5 q6 b1214) [(.int 0), (.ref b1214)]) (fun t k => XS.iconst X1214.here hx rfl (hb hby at_7) k) ?_
  refine GoW.sg (mkF m 9 (Sh19 q1 q2 q3 q4 q5 q6 b1214) [(.int q1), (.int 0), (.ref b1214)]) (fun t k => XS.iloadN X1214.here hx rfl (hb hby at_8) rfl k) ?_
  refine GoW.sg (mkF m 10 (Sh19 q1 q2 q3 q4 q5 q6 b1214) [(.int q1.toUInt32.toUInt16.toUInt32.toInt32), (.int 0), (.ref b1214)]) (fun t k => XS.i2c X1214.here hx rfl (hb hby at_9) rfl k) ?_
  obtain ⟨cl1215, Ar1215, q1215, Sz1215, Nn1215, Hh1215, Gg1215⟩ := V1214
  have hin1215 : ¬ ((0 : Int32) < 0 ∨ cl1215.slots.size ≤ ((0 : Int32)).toNatClampNeg) := inb_of Sz1215 ⟨by decide, by decide⟩
  obtain ⟨T1215, h1215, X1215, e1215, W1215, st1215⟩ := stC X1214 hx hZ e1214 Ar1215 (j := (0 : Int32)) hin1215 (g := (mkF m 10 (Sh19 q1 q2 q3 q4 q5 q6 b1214) [(.int q1.toUInt32.toUInt16.toUInt32.toInt32), (.int 0), (.ref b1214)])) rfl rfl (hb hby at_10)
  have f1215_7 := Nat.le_trans f1214_1 (Nat.le_of_eq W1215.size.symm)
  have f1215_8 := f1214_2.wr W1215
  have f1215_9 := f1214_3.wr W1215
  have f1215_10 := f1214_4.wr W1215
  have f1215_11 := f1214_5.wr W1215
  have f1215_12 := f1214_6.wr W1215
  have V1215 : Arv Z h1215 b1214 k1214 .char (4 : Int32) [(.int (nar .char q1.toUInt32.toUInt16.toUInt32.toInt32)), (.int (0 : Int32)), (.int (0 : Int32)), (.int (0 : Int32))] (.int (0 : Int32)) := Arv.set Ar1215 q1215 Sz1215 Nn1215 Hh1215 Gg1215 (fits_nar_char _) W1215 0 rfl (Nat.le_of_ble_eq_true rfl)
  have N1215 := Fr.snoc X1215 N0 g_b1214
  refine GoW.sg (mkF m 11 (Sh19 q1 q2 q3 q4 q5 q6 b1214) []) (fun t k => st1215 t k) ?_
  refine GoW.sg (mkF m 13 (Sh19 q1 q2 q3 q4 q5 q6 b1214) [(.ref b1214)]) (fun t k => XS.aload X1215.here hx rfl (hb hby at_11) rfl rfl k) ?_
  refine GoW.sg (mkF m 14 (Sh19 q1 q2 q3 q4 q5 q6 b1214) [(.int 1), (.ref b1214)]) (fun t k => XS.iconst X1215.here hx rfl (hb hby at_13) k) ?_
  refine GoW.sg (mkF m 15 (Sh19 q1 q2 q3 q4 q5 q6 b1214) [(.int q2), (.int 1), (.ref b1214)]) (fun t k => XS.iloadN X1215.here hx rfl (hb hby at_14) rfl k) ?_
  refine GoW.sg (mkF m 16 (Sh19 q1 q2 q3 q4 q5 q6 b1214) [(.int q2.toUInt32.toUInt16.toUInt32.toInt32), (.int 1), (.ref b1214)]) (fun t k => XS.i2c X1215.here hx rfl (hb hby at_15) rfl k) ?_
  obtain ⟨cl1216, Ar1216, q1216, Sz1216, Nn1216, Hh1216, Gg1216⟩ := V1215
  have hin1216 : ¬ ((1 : Int32) < 0 ∨ cl1216.slots.size ≤ ((1 : Int32)).toNatClampNeg) := inb_of Sz1216 ⟨by decide, by decide⟩
  obtain ⟨T1216, h1216, X1216, e1216, W1216, st1216⟩ := stC X1215 hx hZ e1215 Ar1216 (j := (1 : Int32)) hin1216 (g := (mkF m 16 (Sh19 q1 q2 q3 q4 q5 q6 b1214) [(.int q2.toUInt32.toUInt16.toUInt32.toInt32), (.int 1), (.ref b1214)])) rfl rfl (hb hby at_16)
  have f1216_13 := Nat.le_trans f1215_7 (Nat.le_of_eq W1216.size.symm)
  have f1216_14 := f1215_8.wr W1216
  have f1216_15 := f1215_9.wr W1216
  have f1216_16 := f1215_10.wr W1216
  have f1216_17 := f1215_11.wr W1216
  have f1216_18 := f1215_12.wr W1216
  have V1216 : Arv Z h1216 b1214 k1214 .char (4 : Int32) [(.int (nar .char q1.toUInt32.toUInt16.toUInt32.toInt32)), (.int (nar .char q2.toUInt32.toUInt16.toUInt32.toInt32)), (.int (0 : Int32)), (.int (0 : Int32))] (.int (0 : Int32)) := Arv.set Ar1216 q1216 Sz1216 Nn1216 Hh1216 Gg1216 (fits_nar_char _) W1216 1 rfl (Nat.le_of_ble_eq_true rfl)
  have N1216 := Fr.snoc X1216 N1215 g_b1214
  refine GoW.sg (mkF m 17 (Sh19 q1 q2 q3 q4 q5 q6 b1214) []) (fun t k => st1216 t k) ?_
  refine GoW.sg (mkF m 19 (Sh19 q1 q2 q3 q4 q5 q6 b1214) [(.ref b1214)]) (fun t k => XS.aload X1216.here hx rfl (hb hby at_17) rfl rfl k) ?_
  refine GoW.sg (mkF m 20 (Sh19 q1 q2 q3 q4 q5 q6 b1214) [(.int 2), (.ref b1214)]) (fun t k => XS.iconst X1216.here hx rfl (hb hby at_19) k) ?_
  refine GoW.sg (mkF m 21 (Sh19 q1 q2 q3 q4 q5 q6 b1214) [(.int q3), (.int 2), (.ref b1214)]) (fun t k => XS.iloadN X1216.here hx rfl (hb hby at_20) rfl k) ?_
  refine GoW.sg (mkF m 22 (Sh19 q1 q2 q3 q4 q5 q6 b1214) [(.int q3.toUInt32.toUInt16.toUInt32.toInt32), (.int 2), (.ref b1214)]) (fun t k => XS.i2c X1216.here hx rfl (hb hby at_21) rfl k) ?_
  obtain ⟨cl1217, Ar1217, q1217, Sz1217, Nn1217, Hh1217, Gg1217⟩ := V1216
  have hin1217 : ¬ ((2 : Int32) < 0 ∨ cl1217.slots.size ≤ ((2 : Int32)).toNatClampNeg) := inb_of Sz1217 ⟨by decide, by decide⟩
  obtain ⟨T1217, h1217, X1217, e1217, W1217, st1217⟩ := stC X1216 hx hZ e1216 Ar1217 (j := (2 : Int32)) hin1217 (g := (mkF m 22 (Sh19 q1 q2 q3 q4 q5 q6 b1214) [(.int q3.toUInt32.toUInt16.toUInt32.toInt32), (.int 2), (.ref b1214)])) rfl rfl (hb hby at_22)
  have f1217_19 := Nat.le_trans f1216_13 (Nat.le_of_eq W1217.size.symm)
  have f1217_20 := f1216_14.wr W1217
  have f1217_21 := f1216_15.wr W1217
  have f1217_22 := f1216_16.wr W1217
  have f1217_23 := f1216_17.wr W1217
  have f1217_24 := f1216_18.wr W1217
  have V1217 : Arv Z h1217 b1214 k1214 .char (4 : Int32) [(.int (nar .char q1.toUInt32.toUInt16.toUInt32.toInt32)), (.int (nar .char q2.toUInt32.toUInt16.toUInt32.toInt32)), (.int (nar .char q3.toUInt32.toUInt16.toUInt32.toInt32)), (.int (0 : Int32))] (.int (0 : Int32)) := Arv.set Ar1217 q1217 Sz1217 Nn1217 Hh1217 Gg1217 (fits_nar_char _) W1217 2 rfl (Nat.le_of_ble_eq_true rfl)
  have N1217 := Fr.snoc X1217 N1216 g_b1214
  refine GoW.sg (mkF m 23 (Sh19 q1 q2 q3 q4 q5 q6 b1214) []) (fun t k => st1217 t k) ?_
  refine GoW.sg (mkF m 25 (Sh19 q1 q2 q3 q4 q5 q6 b1214) [(.ref b1214)]) (fun t k => XS.aload X1217.here hx rfl (hb hby at_23) rfl rfl k) ?_
  refine GoW.sg (mkF m 26 (Sh19 q1 q2 q3 q4 q5 q6 b1214) [(.int 3), (.ref b1214)]) (fun t k => XS.iconst X1217.here hx rfl (hb hby at_25) k) ?_
  refine GoW.sg (mkF m 27 (Sh19 q1 q2 q3 q4 q5 q6 b1214) [(.int q4), (.int 3), (.ref b1214)]) (fun t k => XS.iloadN X1217.here hx rfl (hb hby at_26) rfl k) ?_
  refine GoW.sg (mkF m 28 (Sh19 q1 q2 q3 q4 q5 q6 b1214) [(.int q4.toUInt32.toUInt16.toUInt32.toInt32), (.int 3), (.ref b1214)]) (fun t k => XS.i2c X1217.here hx rfl (hb hby at_27) rfl k) ?_
  obtain ⟨cl1218, Ar1218, q1218, Sz1218, Nn1218, Hh1218, Gg1218⟩ := V1217
  have hin1218 : ¬ ((3 : Int32) < 0 ∨ cl1218.slots.size ≤ ((3 : Int32)).toNatClampNeg) := inb_of Sz1218 ⟨by decide, by decide⟩
  obtain ⟨T1218, h1218, X1218, e1218, W1218, st1218⟩ := stC X1217 hx hZ e1217 Ar1218 (j := (3 : Int32)) hin1218 (g := (mkF m 28 (Sh19 q1 q2 q3 q4 q5 q6 b1214) [(.int q4.toUInt32.toUInt16.toUInt32.toInt32), (.int 3), (.ref b1214)])) rfl rfl (hb hby at_28)
  have f1218_25 := Nat.le_trans f1217_19 (Nat.le_of_eq W1218.size.symm)
  have f1218_26 := f1217_20.wr W1218
  have f1218_27 := f1217_21.wr W1218
  have f1218_28 := f1217_22.wr W1218
  have f1218_29 := f1217_23.wr W1218
  have f1218_30 := f1217_24.wr W1218
  have V1218 : Arv Z h1218 b1214 k1214 .char (4 : Int32) [(.int (nar .char q1.toUInt32.toUInt16.toUInt32.toInt32)), (.int (nar .char q2.toUInt32.toUInt16.toUInt32.toInt32)), (.int (nar .char q3.toUInt32.toUInt16.toUInt32.toInt32)), (.int (nar .char q4.toUInt32.toUInt16.toUInt32.toInt32))] (.int (0 : Int32)) := Arv.set Ar1218 q1218 Sz1218 Nn1218 Hh1218 Gg1218 (fits_nar_char _) W1218 3 rfl (Nat.le_of_ble_eq_true rfl)
  have N1218 := Fr.snoc X1218 N1217 g_b1214
  refine GoW.sg (mkF m 29 (Sh19 q1 q2 q3 q4 q5 q6 b1214) []) (fun t k => st1218 t k) ?_
  obtain ⟨c0, hc0⟩ : ∃ c : Int32, c = (nar .char q1.toUInt32.toUInt16.toUInt32.toInt32) := ⟨_, rfl⟩
  rw [← hc0] at V1218
  have lo_c0 : ¬ (c0 < (0 : Int32)) := by rw [hc0]; exact (own_crng _).1
  have hi_c0 : ¬ ((65535 : Int32) < c0) := by rw [hc0]; exact (own_crng _).2
  obtain ⟨c1, hc1⟩ : ∃ c : Int32, c = (nar .char q2.toUInt32.toUInt16.toUInt32.toInt32) := ⟨_, rfl⟩
  rw [← hc1] at V1218
  have lo_c1 : ¬ (c1 < (0 : Int32)) := by rw [hc1]; exact (own_crng _).1
  have hi_c1 : ¬ ((65535 : Int32) < c1) := by rw [hc1]; exact (own_crng _).2
  obtain ⟨c2, hc2⟩ : ∃ c : Int32, c = (nar .char q3.toUInt32.toUInt16.toUInt32.toInt32) := ⟨_, rfl⟩
  rw [← hc2] at V1218
  have lo_c2 : ¬ (c2 < (0 : Int32)) := by rw [hc2]; exact (own_crng _).1
  have hi_c2 : ¬ ((65535 : Int32) < c2) := by rw [hc2]; exact (own_crng _).2
  obtain ⟨c3, hc3⟩ : ∃ c : Int32, c = (nar .char q4.toUInt32.toUInt16.toUInt32.toInt32) := ⟨_, rfl⟩
  rw [← hc3] at V1218
  have lo_c3 : ¬ (c3 < (0 : Int32)) := by rw [hc3]; exact (own_crng _).1
  have hi_c3 : ¬ ((65535 : Int32) < c3) := by rw [hc3]; exact (own_crng _).2
  obtain ⟨T1219, h1219, X1219, e1219, E1219, A1219, D1219, -, st1219⟩ := newO X1218 hx hZ hown (ww hw 1 rfl) (ww hw 2 rfl) (ww hw 3 rfl) e1218 (g := (mkF m 29 (Sh19 q1 q2 q3 q4 q5 q6 b1214) [])) rfl (hb hby at_29) (by decide) (by decide)
  obtain ⟨b1219, g1219⟩ : ∃ z, z = h1218.size := ⟨_, rfl⟩
  rw [← g1219] at A1219 D1219 st1219
  have g_b1219 : n0 ≤ b1219 := Nat.le_trans f1218_25 (Nat.le_of_eq g1219.symm)
  have ne_b1214_b1219 : b1214 ≠ b1219 := Nat.ne_of_lt (Nat.lt_of_lt_of_eq V1218.lt g1219.symm)
  have f1219_31 := Nat.le_trans f1218_25 E1219.1
  have f1219_32 := f1218_26.ext E1219
  have f1219_33 := f1218_27.ext E1219
  have f1219_34 := f1218_28.ext E1219
  have f1219_35 := f1218_29.ext E1219
  have f1219_36 := f1218_30.ext E1219
  have f1219_37 := V1218.ext E1219
  have F1219coder : Fld Z h1219 b1219 "java/lang/String" "coder" "B" (.int (0 : Int32)) := D1219 (Or.inr (ww hw 27 rfl)) (ty := .byte) (by decide)
  have F1219value : Fld Z h1219 b1219 "java/lang/String" "value" "[B" .null := D1219 (Or.inr (ww hw 29 rfl)) (ty := (.array .byte)) (by decide)
  refine GoW.sg (mkF m 32 (Sh19 q1 q2 q3 q4 q5 q6 b1214) [(.ref b1219)]) (fun t k => st1219 t k) ?_
  refine GoW.sg (mkF m 33 (Sh19 q1 q2 q3 q4 q5 q6 b1214) [(.ref b1219), (.ref b1219)]) (fun t k => XS.dup X1219.here hx rfl (hb hby at_32) rfl rfl k) ?_
  refine GoW.sg (mkF m 35 (Sh19 q1 q2 q3 q4 q5 q6 b1214) [(.ref b1214), (.ref b1219), (.ref b1219)]) (fun t k => XS.aload X1219.here hx rfl (hb hby at_33) rfl rfl k) ?_
  obtain ⟨_, _, ⟨T1220, L1220, k1220, n1220⟩, -, X1220, ⟨Lc1220, hQ1220, l1220, y1220, z1220⟩, st1220⟩ := X1219.specialBack hx (y := Y1) rfl hown (mvT hZ (ww hw 4 rfl)) (mvT hZ (ww hw 5 rfl)) (mvT hZ (ww hw 6 rfl)) (by decide) (backOf (W := 1) (rmS l Z a0 hw b1219 b1214 k1214 c0 c1 c2 c3 cs h1219 n0 f1219_31 A1219 F1219value F1219coder f1219_37 f1219_32 f1219_33 f1219_34 f1219_35 g_b1219 (Ne.symm ne_b1214_b1219) lo_c0 hi_c0 lo_c1 hi_c1 lo_c2 hi_c2 lo_c3 hi_c3 ncs) hZ (ww hw 6 rfl) (ww hw 3 rfl) (by decide) (by decide)) (g := (mkF m 35 (Sh19 q1 q2 q3 q4 q5 q6 b1214) [(.ref b1214), (.ref b1219), (.ref b1219)])) rfl (by rw [hml]; rfl) (Steps.refl _) (a := b1219) (argsL := [(.ref b1214)]) (rest := [(.ref b1219)]) (lenOf pd_285bC29V rfl) rfl (by show 2 * 0 + _ ≤ _; exact Nat.le_of_eq rfl) (hb hby at_35) (fun _ _ => ⟨rfl, e1219, (by decide : 2 + 2 ≤ _), (by decide : 8 + 12 ≤ _)⟩)
  dsimp only [Pt.U, Pt.locs, Pt.cells, Pt.slots] at X1220 l1220 y1220 z1220 st1220 hQ1220
  subst l1220 y1220 z1220
  obtain ⟨rfl, N1220q, K1220, Ex1220, hS⟩ := hQ1220
  have N1220 := Fr.app N1218 N1220q
  have f1220_38 := Nat.le_trans f1219_31 K1220.1
  have f1220_39 := own_staK f1219_32 K1220 (allS (own_nsE A1219) all0)
  have f1220_40 := own_staK f1219_33 K1220 (allS (own_nsE A1219) all0)
  have f1220_41 := own_staK f1219_34 K1220 (allS (own_nsE A1219) all0)
  have f1220_42 := own_staK f1219_35 K1220 (allS (own_nsE A1219) all0)
  have f1220_43 := own_staK f1219_36 K1220 (allS (own_nsE A1219) all0)
  have f1220_44 := f1219_37.keep K1220 (ninS ne_b1214_b1219 nin0)
  refine GoW.sg (mkF m 38 (Sh19 q1 q2 q3 q4 q5 q6 b1214) [(.ref b1219)]) (fun t k => st1220.trans k) ?_
  refine GoW.sg (mkF m 40 (Sh20 q1 q2 q3 q4 q5 q6 b1214 b1219) []) (fun t k => XS.astore X1220.here hx rfl (hb hby at_38) rfl rfl (l' := (Sh20 q1 q2 q3 q4 q5 q6 b1214 b1219)) rfl k) ?_
  refine GoW.sg (mkF m 42 (Sh20 q1 q2 q3 q4 q5 q6 b1214 b1219) [(.int q5)]) (fun t k => XS.iload X1220.here hx rfl (hb hby at_40) rfl k) ?_
  refine GoW.sg (mkF m 44 (Sh20 q1 q2 q3 q4 q5 q6 b1214 b1219) [(.int 2147483647), (.int q5)]) (fun t k => X1220.ldcInt hx hown (mvT hZ (ww hw 30 rfl)) (g := (mkF m 42 (Sh20 q1 q2 q3 q4 q5 q6 b1214 b1219) [(.int q5)])) rfl (hb hby at_42) t k) ?_
  refine GoW.sg (mkF m 45 (Sh20 q1 q2 q3 q4 q5 q6 b1214 b1219) [(.int (q5 &&& (2147483647 : Int32)))]) (fun t k => XS.iand X1220.here hx rfl (hb hby at_44) rfl k) ?_
  refine GoW.sg (mkF m 46 (Sh20 q1 q2 q3 q4 q5 q6 b1214 b1219) [(.int 5), (.int (q5 &&& (2147483647 : Int32)))]) (fun t k => XS.iconst X1220.here hx rfl (hb hby at_45) k) ?_
  refine GoW.sg (mkF m 47 (Sh20 q1 q2 q3 q4 q5 q6 b1214 b1219) [(.int ((q5 &&& (2147483647 : Int32)) % (5 : Int32)))]) (fun t k => iremM X1220 hx rfl (hb hby at_46) rfl (by decide) k) ?_
  refine GoW.sg (mkF m 49 (Sh21 q1 q2 q3 q4 q5 q6 b1214 b1219 ((q5 &&& (2147483647 : Int32)) % (5 : Int32))) []) (fun t k => XS.istore X1220.here hx rfl (hb hby at_47) rfl (l' := (Sh21 q1 q2 q3 q4 q5 q6 b1214 b1219 ((q5 &&& (2147483647 : Int32)) % (5 : Int32)))) rfl k) ?_
  refine GoW.sg (mkF m 51 (Sh21 q1 q2 q3 q4 q5 q6 b1214 b1219 ((q5 &&& (2147483647 : Int32)) % (5 : Int32))) [(.int q6)]) (fun t k => XS.iload X1220.here hx rfl (hb hby at_49) rfl k) ?_
  refine GoW.sg (mkF m 53 (Sh21 q1 q2 q3 q4 q5 q6 b1214 b1219 ((q5 &&& (2147483647 : Int32)) % (5 : Int32))) [(.int 2147483647), (.int q6)]) (fun t k => X1220.ldcInt hx hown (mvT hZ (ww hw 30 rfl)) (g := (mkF m 51 (Sh21 q1 q2 q3 q4 q5 q6 b1214 b1219 ((q5 &&& (2147483647 : Int32)) % (5 : Int32))) [(.int q6)])) rfl (hb hby at_51) t k) ?_
  refine GoW.sg (mkF m 54 (Sh21 q1 q2 q3 q4 q5 q6 b1214 b1219 ((q5 &&& (2147483647 : Int32)) % (5 : Int32))) [(.int (q6 &&& (2147483647 : Int32)))]) (fun t k => XS.iand X1220.here hx rfl (hb hby at_53) rfl k) ?_
  refine GoW.sg (mkF m 55 (Sh21 q1 q2 q3 q4 q5 q6 b1214 b1219 ((q5 &&& (2147483647 : Int32)) % (5 : Int32))) [(.int 5), (.int (q6 &&& (2147483647 : Int32)))]) (fun t k => XS.iconst X1220.here hx rfl (hb hby at_54) k) ?_
  refine GoW.sg (mkF m 56 (Sh21 q1 q2 q3 q4 q5 q6 b1214 b1219 ((q5 &&& (2147483647 : Int32)) % (5 : Int32))) [(.int ((q6 &&& (2147483647 : Int32)) % (5 : Int32)))]) (fun t k => iremM X1220 hx rfl (hb hby at_55) rfl (by decide) k) ?_
  refine GoW.sg (mkF m 58 (Sh22 q1 q2 q3 q4 q5 q6 b1214 b1219 ((q5 &&& (2147483647 : Int32)) % (5 : Int32)) ((q6 &&& (2147483647 : Int32)) % (5 : Int32))) []) (fun t k => XS.istore X1220.here hx rfl (hb hby at_56) rfl (l' := (Sh22 q1 q2 q3 q4 q5 q6 b1214 b1219 ((q5 &&& (2147483647 : Int32)) % (5 : Int32)) ((q6 &&& (2147483647 : Int32)) % (5 : Int32)))) rfl k) ?_
  refine GoW.sg (mkF m 60 (Sh22 q1 q2 q3 q4 q5 q6 b1214 b1219 ((q5 &&& (2147483647 : Int32)) % (5 : Int32)) ((q6 &&& (2147483647 : Int32)) % (5 : Int32))) [(.int ((q5 &&& (2147483647 : Int32)) % (5 : Int32)))]) (fun t k => XS.iload X1220.here hx rfl (hb hby at_58) rfl k) ?_
  refine GoW.sg (mkF m 62 (Sh22 q1 q2 q3 q4 q5 q6 b1214 b1219 ((q5 &&& (2147483647 : Int32)) % (5 : Int32)) ((q6 &&& (2147483647 : Int32)) % (5 : Int32))) [(.int ((q6 &&& (2147483647 : Int32)) % (5 : Int32))), (.int ((q5 &&& (2147483647 : Int32)) % (5 : Int32)))]) (fun t k => XS.iload X1220.here hx rfl (hb hby at_60) rfl k) ?_
  have J130_1235 : ∀ (Tj1236 : State) (Lj1236 : List Loc), Stand p l e room_1 s m #[(.int q1), (.int q2), (.int q3), (.int q4), (.int q5), (.int q6)] below meth c Tj1236 Lj1236 4 20 → Tj1236.heap = T1220.heap → Fr n0 Lj1236 → ∀ b1234 : Int32, b1234 = (if ((q5 &&& (2147483647 : Int32)) % (5 : Int32)) < ((q6 &&& (2147483647 : Int32)) % (5 : Int32)) then (if (F7 c0 (0 : Int32) ((q5 &&& (2147483647 : Int32)) % (5 : Int32)) ((q6 &&& (2147483647 : Int32)) % (5 : Int32))) = (0 : Int32) then (0 : Int32) else (if (F7 c1 (1 : Int32) ((q5 &&& (2147483647 : Int32)) % (5 : Int32)) ((q6 &&& (2147483647 : Int32)) % (5 : Int32))) = (0 : Int32) then (0 : Int32) else (if (F7 c2 (2 : Int32) ((q5 &&& (2147483647 : Int32)) % (5 : Int32)) ((q6 &&& (2147483647 : Int32)) % (5 : Int32))) = (0 : Int32) then (0 : Int32) else (if (F7 c3 (3 : Int32) ((q5 &&& (2147483647 : Int32)) % (5 : Int32)) ((q6 &&& (2147483647 : Int32)) % (5 : Int32))) = (0 : Int32) then (0 : Int32) else (1 : Int32))))) else (0 : Int32)) → GoW p e below s (ValQ (.int (1 : Int32)) n0) room_1.cells room_1.slots (Tj1236.setTop (mkF m 130 (Sh22 q1 q2 q3 q4 q5 q6 b1214 b1219 ((q5 &&& (2147483647 : Int32)) % (5 : Int32)) ((q6 &&& (2147483647 : Int32)) % (5 : Int32))) [(.int b1234)])) := by
    intro Tj1236 Lj1236 Xj1236 ej1236 Nj1236 b1234 hb1234
    refine GoW.sg (mkF m 132 (Sh23 q1 q2 q3 q4 q5 q6 b1214 b1219 ((q5 &&& (2147483647 : Int32)) % (5 : Int32)) ((q6 &&& (2147483647 : Int32)) % (5 : Int32)) b1234) []) (fun t k => XS.istore Xj1236.here hx rfl (hb hby at_130) rfl (l' := (Sh23 q1 q2 q3 q4 q5 q6 b1214 b1219 ((q5 &&& (2147483647 : Int32)) % (5 : Int32)) ((q6 &&& (2147483647 : Int32)) % (5 : Int32)) b1234)) rfl k) ?_
    by_cases clt : ((q5 &&& (2147483647 : Int32)) % (5 : Int32)) < ((q6 &&& (2147483647 : Int32)) % (5 : Int32))
    · rcases own_pairs q5 q6 clt with vv | vv | vv | vv | vv | vv | vv | vv | vv | vv
      · obtain ⟨va, vb⟩ := vv
        rw [va, vb]
        show GoW p e below s (ValQ (.int (1 : Int32)) n0) room_1.cells room_1.slots (Tj1236.setTop (mkF m 132 (Sh23 q1 q2 q3 q4 q5 q6 b1214 b1219 0 1 b1234) []))
        refine GoW.sg (mkF m 134 (Sh23 q1 q2 q3 q4 q5 q6 b1214 b1219 0 1 b1234) [(.ref b1219)]) (fun t k => XS.aload Xj1236.here hx rfl (hb hby at_132) rfl rfl k) ?_
        refine GoW.sg (mkF m 136 (Sh23 q1 q2 q3 q4 q5 q6 b1214 b1219 0 1 b1234) [(.int 0), (.ref b1219)]) (fun t k => XS.iload Xj1236.here hx rfl (hb hby at_134) rfl k) ?_
        refine GoW.sg (mkF m 138 (Sh23 q1 q2 q3 q4 q5 q6 b1214 b1219 0 1 b1234) [(.int 1), (.int 0), (.ref b1219)]) (fun t k => XS.iload Xj1236.here hx rfl (hb hby at_136) rfl k) ?_
        obtain ⟨_, T1250, L1250, X1250, hQ1250, st1250⟩ := own_callS Xj1236 hx hZ hown (y := Y8) (ww hw 35 rfl) (ww hw 36 rfl) (ww hw 37 rfl) (ww hw 38 rfl) (by decide) 0 (rmD01 l Z a0 hw [] b1219 c0 c1 c2 c3 cs vf T1220.heap n0 Ex1220 f1220_39 f1220_40 f1220_41 f1220_42 f1220_43 hS hvf lo_c0 hi_c0 lo_c1 hi_c1 lo_c2 hi_c2 lo_c3 hi_c3 ncs) (by decide) (by decide) ej1236 (by decide) (by decide) (g := (mkF m 138 (Sh23 q1 q2 q3 q4 q5 q6 b1214 b1219 0 1 b1234) [(.int 1), (.int 0), (.ref b1219)])) rfl (by rw [hml]; rfl) (argsL := [(.ref b1219), (.int (0 : Int32)), (.int (1 : Int32))]) (rest := []) (lenOf pd_28Ljava2flang2fString3bII29Z rfl) rfl (by show 2 * 0 + _ ≤ _; exact Nat.le_of_eq rfl) (hb hby at_138)
        obtain ⟨rfl, N1250q, e1250⟩ := hQ1250
        have N1250 := Fr.app Nj1236 N1250q
        refine GoW.sg (mkF m 141 (Sh23 q1 q2 q3 q4 q5 q6 b1214 b1219 0 1 b1234) [(.int (FD01 c0 c1 c2 c3 cs))]) (fun t k => st1250 t k) ?_
        have heq1250 : (FD01 c0 c1 c2 c3 cs) = b1234 := by rw [hb1234, if_pos clt, va, vb]; exact own_d01 c0 c1 c2 c3 cs
        refine GoW.sg (mkF m 143 (Sh23 q1 q2 q3 q4 q5 q6 b1214 b1219 0 1 b1234) [(.int b1234), (.int (FD01 c0 c1 c2 c3 cs))]) (fun t k => XS.iload X1250.here hx rfl (hb hby at_141) rfl k) ?_
        refine GoW.sg (mkF m 146 (Sh23 q1 q2 q3 q4 q5 q6 b1214 b1219 0 1 b1234) []) (fun t k => XS.icmpNo X1250.here hx rfl (hb hby at_143) rfl (teq heq1250).2 k) ?_
        refine GoW.sg (mkF m 147 (Sh23 q1 q2 q3 q4 q5 q6 b1214 b1219 0 1 b1234) [(.int 1)]) (fun t k => XS.iconst X1250.here hx rfl (hb hby at_146) k) ?_
        refine GoW.sg (mkF m 151 (Sh23 q1 q2 q3 q4 q5 q6 b1214 b1219 0 1 b1234) [(.int 1)]) (fun t k => XS.goto X1250.here hx rfl (pc0 := 147) (pc' := 151) rfl (hb hby at_147) (by decide) (by decide) k) ?_
        refine GoW.retN X1250 hx (t := .boolean) Bd.returns (by simp) (hb hby at_151) Bd.notSynchronized ?_ (by decide) (by decide)
        exact ⟨rfl, N1250⟩
      · obtain ⟨va, vb⟩ := vv
        rw [va, vb]
        show GoW p e below s (ValQ (.int (1 : Int32)) n0) room_1.cells room_1.slots (Tj1236.setTop (mkF m 132 (Sh23 q1 q2 q3 q4 q5 q6 b1214 b1219 0 2 b1234) []))
        refine GoW.sg (mkF m 134 (Sh23 q1 q2 q3 q4 q5 q6 b1214 b1219 0 2 b1234) [(.ref b1219)]) (fun t k => XS.aload Xj1236.here hx rfl (hb hby at_132) rfl rfl k) ?_
        refine GoW.sg (mkF m 136 (Sh23 q1 q2 q3 q4 q5 q6 b1214 b1219 0 2 b1234) [(.int 0), (.ref b1219)]) (fun t k => XS.iload Xj1236.here hx rfl (hb hby at_134) rfl k) ?_
        refine GoW.sg (mkF m 138 (Sh23 q1 q2 q3 q4 q5 q6 b1214 b1219 0 2 b1234) [(.int 2), (.int 0), (.ref b1219)]) (fun t k => XS.iload Xj1236.here hx rfl (hb hby at_136) rfl k) ?_
        obtain ⟨_, T1251, L1251, X1251, hQ1251, st1251⟩ := own_callS Xj1236 hx hZ hown (y := Y8) (ww hw 35 rfl) (ww hw 36 rfl) (ww hw 37 rfl) (ww hw 38 rfl) (by decide) 0 (rmD02 l Z a0 hw [] b1219 c0 c1 c2 c3 cs vf T1220.heap n0 Ex1220 f1220_39 f1220_40 f1220_41 f1220_42 f1220_43 hS hvf lo_c0 hi_c0 lo_c1 hi_c1 lo_c2 hi_c2 lo_c3 hi_c3 ncs) (by decide) (by decide) ej1236 (by decide) (by decide) (g := (mkF m 138 (Sh23 q1 q2 q3 q4 q5 q6 b1214 b1219 0 2 b1234) [(.int 2), (.int 0), (.ref b1219)])) rfl (by rw [hml]; rfl) (argsL := [(.ref b1219), (.int (0 : Int32)), (.int (2 : Int32))]) (rest := []) (lenOf pd_28Ljava2flang2fString3bII29Z rfl) rfl (by show 2 * 0 + _ ≤ _; exact Nat.le_of_eq rfl) (hb hby at_138)
        obtain ⟨rfl, N1251q, e1251⟩ := hQ1251
        have N1251 := Fr.app Nj1236 N1251q
        refine GoW.sg (mkF m 141 (Sh23 q1 q2 q3 q4 q5 q6 b1214 b1219 0 2 b1234) [(.int (FD02 c0 c1 c2 c3 cs))]) (fun t k => st1251 t k) ?_
        have heq1251 : (FD02 c0 c1 c2 c3 cs) = b1234 := by rw [hb1234, if_pos clt, va, vb]; exact own_d02 c0 c1 c2 c3 cs
        refine GoW.sg (mkF m 143 (Sh23 q1 q2 q3 q4 q5 q6 b1214 b1219 0 2 b1234) [(.int b1234), (.int (FD02 c0 c1 c2 c3 cs))]) (fun t k => XS.iload X1251.here hx rfl (hb hby at_141) rfl k) ?_
        refine GoW.sg (mkF m 146 (Sh23 q1 q2 q3 q4 q5 q6 b1214 b1219 0 2 b1234) []) (fun t k => XS.icmpNo X1251.here hx rfl (hb hby at_143) rfl (teq heq1251).2 k) ?_
        refine GoW.sg (mkF m 147 (Sh23 q1 q2 q3 q4 q5 q6 b1214 b1219 0 2 b1234) [(.int 1)]) (fun t k => XS.iconst X1251.here hx rfl (hb hby at_146) k) ?_
        refine GoW.sg (mkF m 151 (Sh23 q1 q2 q3 q4 q5 q6 b1214 b1219 0 2 b1234) [(.int 1)]) (fun t k => XS.goto X1251.here hx rfl (pc0 := 147) (pc' := 151) rfl (hb hby at_147) (by decide) (by decide) k) ?_
        refine GoW.retN X1251 hx (t := .boolean) Bd.returns (by simp) (hb hby at_151) Bd.notSynchronized ?_ (by decide) (by decide)
        exact ⟨rfl, N1251⟩
      · obtain ⟨va, vb⟩ := vv
        rw [va, vb]
        show GoW p e below s (ValQ (.int (1 : Int32)) n0) room_1.cells room_1.slots (Tj1236.setTop (mkF m 132 (Sh23 q1 q2 q3 q4 q5 q6 b1214 b1219 0 3 b1234) []))
        refine GoW.sg (mkF m 134 (Sh23 q1 q2 q3 q4 q5 q6 b1214 b1219 0 3 b1234) [(.ref b1219)]) (fun t k => XS.aload Xj1236.here hx rfl (hb hby at_132) rfl rfl k) ?_
        refine GoW.sg (mkF m 136 (Sh23 q1 q2 q3 q4 q5 q6 b1214 b1219 0 3 b1234) [(.int 0), (.ref b1219)]) (fun t k => XS.iload Xj1236.here hx rfl (hb hby at_134) rfl k) ?_
        refine GoW.sg (mkF m 138 (Sh23 q1 q2 q3 q4 q5 q6 b1214 b1219 0 3 b1234) [(.int 3), (.int 0), (.ref b1219)]) (fun t k => XS.iload Xj1236.here hx rfl (hb hby at_136) rfl k) ?_
        obtain ⟨_, T1252, L1252, X1252, hQ1252, st1252⟩ := own_callS Xj1236 hx hZ hown (y := Y8) (ww hw 35 rfl) (ww hw 36 rfl) (ww hw 37 rfl) (ww hw 38 rfl) (by decide) 0 (rmD03 l Z a0 hw [] b1219 c0 c1 c2 c3 cs vf T1220.heap n0 Ex1220 f1220_39 f1220_40 f1220_41 f1220_42 f1220_43 hS hvf lo_c0 hi_c0 lo_c1 hi_c1 lo_c2 hi_c2 lo_c3 hi_c3 ncs) (by decide) (by decide) ej1236 (by decide) (by decide) (g := (mkF m 138 (Sh23 q1 q2 q3 q4 q5 q6 b1214 b1219 0 3 b1234) [(.int 3), (.int 0), (.ref b1219)])) rfl (by rw [hml]; rfl) (argsL := [(.ref b1219), (.int (0 : Int32)), (.int (3 : Int32))]) (rest := []) (lenOf pd_28Ljava2flang2fString3bII29Z rfl) rfl (by show 2 * 0 + _ ≤ _; exact Nat.le_of_eq rfl) (hb hby at_138)
        obtain ⟨rfl, N1252q, e1252⟩ := hQ1252
        have N1252 := Fr.app Nj1236 N1252q
        refine GoW.sg (mkF m 141 (Sh23 q1 q2 q3 q4 q5 q6 b1214 b1219 0 3 b1234) [(.int (FD03 c0 c1 c2 c3 cs))]) (fun t k => st1252 t k) ?_
        have heq1252 : (FD03 c0 c1 c2 c3 cs) = b1234 := by rw [hb1234, if_pos clt, va, vb]; exact own_d03 c0 c1 c2 c3 cs
        refine GoW.sg (mkF m 143 (Sh23 q1 q2 q3 q4 q5 q6 b1214 b1219 0 3 b1234) [(.int b1234), (.int (FD03 c0 c1 c2 c3 cs))]) (fun t k => XS.iload X1252.here hx rfl (hb hby at_141) rfl k) ?_
        refine GoW.sg (mkF m 146 (Sh23 q1 q2 q3 q4 q5 q6 b1214 b1219 0 3 b1234) []) (fun t k => XS.icmpNo X1252.here hx rfl (hb hby at_143) rfl (teq heq1252).2 k) ?_
        refine GoW.sg (mkF m 147 (Sh23 q1 q2 q3 q4 q5 q6 b1214 b1219 0 3 b1234) [(.int 1)]) (fun t k => XS.iconst X1252.here hx rfl (hb hby at_146) k) ?_
        refine GoW.sg (mkF m 151 (Sh23 q1 q2 q3 q4 q5 q6 b1214 b1219 0 3 b1234) [(.int 1)]) (fun t k => XS.goto X1252.here hx rfl (pc0 := 147) (pc' := 151) rfl (hb hby at_147) (by decide) (by decide) k) ?_
        refine GoW.retN X1252 hx (t := .boolean) Bd.returns (by simp) (hb hby at_151) Bd.notSynchronized ?_ (by decide) (by decide)
        exact ⟨rfl, N1252⟩
      · obtain ⟨va, vb⟩ := vv
        rw [va, vb]
        show GoW p e below s (ValQ (.int (1 : Int32)) n0) room_1.cells room_1.slots (Tj1236.setTop (mkF m 132 (Sh23 q1 q2 q3 q4 q5 q6 b1214 b1219 0 4 b1234) []))
        refine GoW.sg (mkF m 134 (Sh23 q1 q2 q3 q4 q5 q6 b1214 b1219 0 4 b1234) [(.ref b1219)]) (fun t k => XS.aload Xj1236.here hx rfl (hb hby at_132) rfl rfl k) ?_
        refine GoW.sg (mkF m 136 (Sh23 q1 q2 q3 q4 q5 q6 b1214 b1219 0 4 b1234) [(.int 0), (.ref b1219)]) (fun t k => XS.iload Xj1236.here hx rfl (hb hby at_134) rfl k) ?_
        refine GoW.sg (mkF m 138 (Sh23 q1 q2 q3 q4 q5 q6 b1214 b1219 0 4 b1234) [(.int 4), (.int 0), (.ref b1219)]) (fun t k => XS.iload Xj1236.here hx rfl (hb hby at_136) rfl k) ?_
        obtain ⟨_, T1253, L1253, X1253, hQ1253, st1253⟩ := own_callS Xj1236 hx hZ hown (y := Y8) (ww hw 35 rfl) (ww hw 36 rfl) (ww hw 37 rfl) (ww hw 38 rfl) (by decide) 0 (rmD04 l Z a0 hw [] b1219 c0 c1 c2 c3 cs vf T1220.heap n0 Ex1220 f1220_39 f1220_40 f1220_41 f1220_42 f1220_43 hS hvf lo_c0 hi_c0 lo_c1 hi_c1 lo_c2 hi_c2 lo_c3 hi_c3 ncs) (by decide) (by decide) ej1236 (by decide) (by decide) (g := (mkF m 138 (Sh23 q1 q2 q3 q4 q5 q6 b1214 b1219 0 4 b1234) [(.int 4), (.int 0), (.ref b1219)])) rfl (by rw [hml]; rfl) (argsL := [(.ref b1219), (.int (0 : Int32)), (.int (4 : Int32))]) (rest := []) (lenOf pd_28Ljava2flang2fString3bII29Z rfl) rfl (by show 2 * 0 + _ ≤ _; exact Nat.le_of_eq rfl) (hb hby at_138)
        obtain ⟨rfl, N1253q, e1253⟩ := hQ1253
        have N1253 := Fr.app Nj1236 N1253q
        refine GoW.sg (mkF m 141 (Sh23 q1 q2 q3 q4 q5 q6 b1214 b1219 0 4 b1234) [(.int (FD04 c0 c1 c2 c3 cs))]) (fun t k => st1253 t k) ?_
        have heq1253 : (FD04 c0 c1 c2 c3 cs) = b1234 := by rw [hb1234, if_pos clt, va, vb]; exact own_d04 c0 c1 c2 c3 cs
        refine GoW.sg (mkF m 143 (Sh23 q1 q2 q3 q4 q5 q6 b1214 b1219 0 4 b1234) [(.int b1234), (.int (FD04 c0 c1 c2 c3 cs))]) (fun t k => XS.iload X1253.here hx rfl (hb hby at_141) rfl k) ?_
        refine GoW.sg (mkF m 146 (Sh23 q1 q2 q3 q4 q5 q6 b1214 b1219 0 4 b1234) []) (fun t k => XS.icmpNo X1253.here hx rfl (hb hby at_143) rfl (teq heq1253).2 k) ?_
        refine GoW.sg (mkF m 147 (Sh23 q1 q2 q3 q4 q5 q6 b1214 b1219 0 4 b1234) [(.int 1)]) (fun t k => XS.iconst X1253.here hx rfl (hb hby at_146) k) ?_
        refine GoW.sg (mkF m 151 (Sh23 q1 q2 q3 q4 q5 q6 b1214 b1219 0 4 b1234) [(.int 1)]) (fun t k => XS.goto X1253.here hx rfl (pc0 := 147) (pc' := 151) rfl (hb hby at_147) (by decide) (by decide) k) ?_
        refine GoW.retN X1253 hx (t := .boolean) Bd.returns (by simp) (hb hby at_151) Bd.notSynchronized ?_ (by decide) (by decide)
        exact ⟨rfl, N1253⟩
      · obtain ⟨va, vb⟩ := vv
        rw [va, vb]
        show GoW p e below s (ValQ (.int (1 : Int32)) n0) room_1.cells room_1.slots (Tj1236.setTop (mkF m 132 (Sh23 q1 q2 q3 q4 q5 q6 b1214 b1219 1 2 b1234) []))
        refine GoW.sg (mkF m 134 (Sh23 q1 q2 q3 q4 q5 q6 b1214 b1219 1 2 b1234) [(.ref b1219)]) (fun t k => XS.aload Xj1236.here hx rfl (hb hby at_132) rfl rfl k) ?_
        refine GoW.sg (mkF m 136 (Sh23 q1 q2 q3 q4 q5 q6 b1214 b1219 1 2 b1234) [(.int 1), (.ref b1219)]) (fun t k => XS.iload Xj1236.here hx rfl (hb hby at_134) rfl k) ?_
        refine GoW.sg (mkF m 138 (Sh23 q1 q2 q3 q4 q5 q6 b1214 b1219 1 2 b1234) [(.int 2), (.int 1), (.ref b1219)]) (fun t k => XS.iload Xj1236.here hx rfl (hb hby at_136) rfl k) ?_
        obtain ⟨_, T1254, L1254, X1254, hQ1254, st1254⟩ := own_callS Xj1236 hx hZ hown (y := Y8) (ww hw 35 rfl) (ww hw 36 rfl) (ww hw 37 rfl) (ww hw 38 rfl) (by decide) 0 (rmD12 l Z a0 hw [] b1219 c0 c1 c2 c3 cs vf T1220.heap n0 Ex1220 f1220_39 f1220_40 f1220_41 f1220_42 f1220_43 hS hvf lo_c0 hi_c0 lo_c1 hi_c1 lo_c2 hi_c2 lo_c3 hi_c3 ncs) (by decide) (by decide) ej1236 (by decide) (by decide) (g := (mkF m 138 (Sh23 q1 q2 q3 q4 q5 q6 b1214 b1219 1 2 b1234) [(.int 2), (.int 1), (.ref b1219)])) rfl (by rw [hml]; rfl) (argsL := [(.ref b1219), (.int (1 : Int32)), (.int (2 : Int32))]) (rest := []) (lenOf pd_28Ljava2flang2fString3bII29Z rfl) rfl (by show 2 * 0 + _ ≤ _; exact Nat.le_of_eq rfl) (hb hby at_138)
        obtain ⟨rfl, N1254q, e1254⟩ := hQ1254
        have N1254 := Fr.app Nj1236 N1254q
        refine GoW.sg (mkF m 141 (Sh23 q1 q2 q3 q4 q5 q6 b1214 b1219 1 2 b1234) [(.int (FD12 c0 c1 c2 c3 cs))]) (fun t k => st1254 t k) ?_
        have heq1254 : (FD12 c0 c1 c2 c3 cs) = b1234 := by rw [hb1234, if_pos clt, va, vb]; exact own_d12 c0 c1 c2 c3 cs
        refine GoW.sg (mkF m 143 (Sh23 q1 q2 q3 q4 q5 q6 b1214 b1219 1 2 b1234) [(.int b1234), (.int (FD12 c0 c1 c2 c3 cs))]) (fun t k => XS.iload X1254.here hx rfl (hb hby at_141) rfl k) ?_
        refine GoW.sg (mkF m 146 (Sh23 q1 q2 q3 q4 q5 q6 b1214 b1219 1 2 b1234) []) (fun t k => XS.icmpNo X1254.here hx rfl (hb hby at_143) rfl (teq heq1254).2 k) ?_
        refine GoW.sg (mkF m 147 (Sh23 q1 q2 q3 q4 q5 q6 b1214 b1219 1 2 b1234) [(.int 1)]) (fun t k => XS.iconst X1254.here hx rfl (hb hby at_146) k) ?_
        refine GoW.sg (mkF m 151 (Sh23 q1 q2 q3 q4 q5 q6 b1214 b1219 1 2 b1234) [(.int 1)]) (fun t k => XS.goto X1254.here hx rfl (pc0 := 147) (pc' := 151) rfl (hb hby at_147) (by decide) (by decide) k) ?_
        refine GoW.retN X1254 hx (t := .boolean) Bd.returns (by simp) (hb hby at_151) Bd.notSynchronized ?_ (by decide) (by decide)
        exact ⟨rfl, N1254⟩
      · obtain ⟨va, vb⟩ := vv
        rw [va, vb]
        show GoW p e below s (ValQ (.int (1 : Int32)) n0) room_1.cells room_1.slots (Tj1236.setTop (mkF m 132 (Sh23 q1 q2 q3 q4 q5 q6 b1214 b1219 1 3 b1234) []))
        refine GoW.sg (mkF m 134 (Sh23 q1 q2 q3 q4 q5 q6 b1214 b1219 1 3 b1234) [(.ref b1219)]) (fun t k => XS.aload Xj1236.here hx rfl (hb hby at_132) rfl rfl k) ?_
        refine GoW.sg (mkF m 136 (Sh23 q1 q2 q3 q4 q5 q6 b1214 b1219 1 3 b1234) [(.int 1), (.ref b1219)]) (fun t k => XS.iload Xj1236.here hx rfl (hb hby at_134) rfl k) ?_
        refine GoW.sg (mkF m 138 (Sh23 q1 q2 q3 q4 q5 q6 b1214 b1219 1 3 b1234) [(.int 3), (.int 1), (.ref b1219)]) (fun t k => XS.iload Xj1236.here hx rfl (hb hby at_136) rfl k) ?_
        obtain ⟨_, T1255, L1255, X1255, hQ1255, st1255⟩ := own_callS Xj1236 hx hZ hown (y := Y8) (ww hw 35 rfl) (ww hw 36 rfl) (ww hw 37 rfl) (ww hw 38 rfl) (by decide) 0 (rmD13 l Z a0 hw [] b1219 c0 c1 c2 c3 cs vf T1220.heap n0 Ex1220 f1220_39 f1220_40 f1220_41 f1220_42 f1220_43 hS hvf lo_c0 hi_c0 lo_c1 hi_c1 lo_c2 hi_c2 lo_c3 hi_c3 ncs) (by decide) (by decide) ej1236 (by decide) (by decide) (g := (mkF m 138 (Sh23 q1 q2 q3 q4 q5 q6 b1214 b1219 1 3 b1234) [(.int 3), (.int 1), (.ref b1219)])) rfl (by rw [hml]; rfl) (argsL := [(.ref b1219), (.int (1 : Int32)), (.int (3 : Int32))]) (rest := []) (lenOf pd_28Ljava2flang2fString3bII29Z rfl) rfl (by show 2 * 0 + _ ≤ _; exact Nat.le_of_eq rfl) (hb hby at_138)
        obtain ⟨rfl, N1255q, e1255⟩ := hQ1255
        have N1255 := Fr.app Nj1236 N1255q
        refine GoW.sg (mkF m 141 (Sh23 q1 q2 q3 q4 q5 q6 b1214 b1219 1 3 b1234) [(.int (FD13 c0 c1 c2 c3 cs))]) (fun t k => st1255 t k) ?_
        have heq1255 : (FD13 c0 c1 c2 c3 cs) = b1234 := by rw [hb1234, if_pos clt, va, vb]; exact own_d13 c0 c1 c2 c3 cs
        refine GoW.sg (mkF m 143 (Sh23 q1 q2 q3 q4 q5 q6 b1214 b1219 1 3 b1234) [(.int b1234), (.int (FD13 c0 c1 c2 c3 cs))]) (fun t k => XS.iload X1255.here hx rfl (hb hby at_141) rfl k) ?_
        refine GoW.sg (mkF m 146 (Sh23 q1 q2 q3 q4 q5 q6 b1214 b1219 1 3 b1234) []) (fun t k => XS.icmpNo X1255.here hx rfl (hb hby at_143) rfl (teq heq1255).2 k) ?_
        refine GoW.sg (mkF m 147 (Sh23 q1 q2 q3 q4 q5 q6 b1214 b1219 1 3 b1234) [(.int 1)]) (fun t k => XS.iconst X1255.here hx rfl (hb hby at_146) k) ?_
        refine GoW.sg (mkF m 151 (Sh23 q1 q2 q3 q4 q5 q6 b1214 b1219 1 3 b1234) [(.int 1)]) (fun t k => XS.goto X1255.here hx rfl (pc0 := 147) (pc' := 151) rfl (hb hby at_147) (by decide) (by decide) k) ?_
        refine GoW.retN X1255 hx (t := .boolean) Bd.returns (by simp) (hb hby at_151) Bd.notSynchronized ?_ (by decide) (by decide)
        exact ⟨rfl, N1255⟩
      · obtain ⟨va, vb⟩ := vv
        rw [va, vb]
        show GoW p e below s (ValQ (.int (1 : Int32)) n0) room_1.cells room_1.slots (Tj1236.setTop (mkF m 132 (Sh23 q1 q2 q3 q4 q5 q6 b1214 b1219 1 4 b1234) []))
        refine GoW.sg (mkF m 134 (Sh23 q1 q2 q3 q4 q5 q6 b1214 b1219 1 4 b1234) [(.ref b1219)]) (fun t k => XS.aload Xj1236.here hx rfl (hb hby at_132) rfl rfl k) ?_
        refine GoW.sg (mkF m 136 (Sh23 q1 q2 q3 q4 q5 q6 b1214 b1219 1 4 b1234) [(.int 1), (.ref b1219)]) (fun t k => XS.iload Xj1236.here hx rfl (hb hby at_134) rfl k) ?_
        refine GoW.sg (mkF m 138 (Sh23 q1 q2 q3 q4 q5 q6 b1214 b1219 1 4 b1234) [(.int 4), (.int 1), (.ref b1219)]) (fun t k => XS.iload Xj1236.here hx rfl (hb hby at_136) rfl k) ?_
        obtain ⟨_, T1256, L1256, X1256, hQ1256, st1256⟩ := own_callS Xj1236 hx hZ hown (y := Y8) (ww hw 35 rfl) (ww hw 36 rfl) (ww hw 37 rfl) (ww hw 38 rfl) (by decide) 0 (rmD14 l Z a0 hw [] b1219 c0 c1 c2 c3 cs vf T1220.heap n0 Ex1220 f1220_39 f1220_40 f1220_41 f1220_42 f1220_43 hS hvf lo_c0 hi_c0 lo_c1 hi_c1 lo_c2 hi_c2 lo_c3 hi_c3 ncs) (by decide) (by decide) ej1236 (by decide) (by decide) (g := (mkF m 138 (Sh23 q1 q2 q3 q4 q5 q6 b1214 b1219 1 4 b1234) [(.int 4), (.int 1), (.ref b1219)])) rfl (by rw [hml]; rfl) (argsL := [(.ref b1219), (.int (1 : Int32)), (.int (4 : Int32))]) (rest := []) (lenOf pd_28Ljava2flang2fString3bII29Z rfl) rfl (by show 2 * 0 + _ ≤ _; exact Nat.le_of_eq rfl) (hb hby at_138)
        obtain ⟨rfl, N1256q, e1256⟩ := hQ1256
        have N1256 := Fr.app Nj1236 N1256q
        refine GoW.sg (mkF m 141 (Sh23 q1 q2 q3 q4 q5 q6 b1214 b1219 1 4 b1234) [(.int (FD14 c0 c1 c2 c3 cs))]) (fun t k => st1256 t k) ?_
        have heq1256 : (FD14 c0 c1 c2 c3 cs) = b1234 := by rw [hb1234, if_pos clt, va, vb]; exact own_d14 c0 c1 c2 c3 cs
        refine GoW.sg (mkF m 143 (Sh23 q1 q2 q3 q4 q5 q6 b1214 b1219 1 4 b1234) [(.int b1234), (.int (FD14 c0 c1 c2 c3 cs))]) (fun t k => XS.iload X1256.here hx rfl (hb hby at_141) rfl k) ?_
        refine GoW.sg (mkF m 146 (Sh23 q1 q2 q3 q4 q5 q6 b1214 b1219 1 4 b1234) []) (fun t k => XS.icmpNo X1256.here hx rfl (hb hby at_143) rfl (teq heq1256).2 k) ?_
        refine GoW.sg (mkF m 147 (Sh23 q1 q2 q3 q4 q5 q6 b1214 b1219 1 4 b1234) [(.int 1)]) (fun t k => XS.iconst X1256.here hx rfl (hb hby at_146) k) ?_
        refine GoW.sg (mkF m 151 (Sh23 q1 q2 q3 q4 q5 q6 b1214 b1219 1 4 b1234) [(.int 1)]) (fun t k => XS.goto X1256.here hx rfl (pc0 := 147) (pc' := 151) rfl (hb hby at_147) (by decide) (by decide) k) ?_
        refine GoW.retN X1256 hx (t := .boolean) Bd.returns (by simp) (hb hby at_151) Bd.notSynchronized ?_ (by decide) (by decide)
        exact ⟨rfl, N1256⟩
      · obtain ⟨va, vb⟩ := vv
        rw [va, vb]
        show GoW p e below s (ValQ (.int (1 : Int32)) n0) room_1.cells room_1.slots (Tj1236.setTop (mkF m 132 (Sh23 q1 q2 q3 q4 q5 q6 b1214 b1219 2 3 b1234) []))
        refine GoW.sg (mkF m 134 (Sh23 q1 q2 q3 q4 q5 q6 b1214 b1219 2 3 b1234) [(.ref b1219)]) (fun t k => XS.aload Xj1236.here hx rfl (hb hby at_132) rfl rfl k) ?_
        refine GoW.sg (mkF m 136 (Sh23 q1 q2 q3 q4 q5 q6 b1214 b1219 2 3 b1234) [(.int 2), (.ref b1219)]) (fun t k => XS.iload Xj1236.here hx rfl (hb hby at_134) rfl k) ?_
        refine GoW.sg (mkF m 138 (Sh23 q1 q2 q3 q4 q5 q6 b1214 b1219 2 3 b1234) [(.int 3), (.int 2), (.ref b1219)]) (fun t k => XS.iload Xj1236.here hx rfl (hb hby at_136) rfl k) ?_
        obtain ⟨_, T1257, L1257, X1257, hQ1257, st1257⟩ := own_callS Xj1236 hx hZ hown (y := Y8) (ww hw 35 rfl) (ww hw 36 rfl) (ww hw 37 rfl) (ww hw 38 rfl) (by decide) 0 (rmD23 l Z a0 hw [] b1219 c0 c1 c2 c3 cs vf T1220.heap n0 Ex1220 f1220_39 f1220_40 f1220_41 f1220_42 f1220_43 hS hvf lo_c0 hi_c0 lo_c1 hi_c1 lo_c2 hi_c2 lo_c3 hi_c3 ncs) (by decide) (by decide) ej1236 (by decide) (by decide) (g := (mkF m 138 (Sh23 q1 q2 q3 q4 q5 q6 b1214 b1219 2 3 b1234) [(.int 3), (.int 2), (.ref b1219)])) rfl (by rw [hml]; rfl) (argsL := [(.ref b1219), (.int (2 : Int32)), (.int (3 : Int32))]) (rest := []) (lenOf pd_28Ljava2flang2fString3bII29Z rfl) rfl (by show 2 * 0 + _ ≤ _; exact Nat.le_of_eq rfl) (hb hby at_138)
        obtain ⟨rfl, N1257q, e1257⟩ := hQ1257
        have N1257 := Fr.app Nj1236 N1257q
        refine GoW.sg (mkF m 141 (Sh23 q1 q2 q3 q4 q5 q6 b1214 b1219 2 3 b1234) [(.int (FD23 c0 c1 c2 c3 cs))]) (fun t k => st1257 t k) ?_
        have heq1257 : (FD23 c0 c1 c2 c3 cs) = b1234 := by rw [hb1234, if_pos clt, va, vb]; exact own_d23 c0 c1 c2 c3 cs
        refine GoW.sg (mkF m 143 (Sh23 q1 q2 q3 q4 q5 q6 b1214 b1219 2 3 b1234) [(.int b1234), (.int (FD23 c0 c1 c2 c3 cs))]) (fun t k => XS.iload X1257.here hx rfl (hb hby at_141) rfl k) ?_
        refine GoW.sg (mkF m 146 (Sh23 q1 q2 q3 q4 q5 q6 b1214 b1219 2 3 b1234) []) (fun t k => XS.icmpNo X1257.here hx rfl (hb hby at_143) rfl (teq heq1257).2 k) ?_
        refine GoW.sg (mkF m 147 (Sh23 q1 q2 q3 q4 q5 q6 b1214 b1219 2 3 b1234) [(.int 1)]) (fun t k => XS.iconst X1257.here hx rfl (hb hby at_146) k) ?_
        refine GoW.sg (mkF m 151 (Sh23 q1 q2 q3 q4 q5 q6 b1214 b1219 2 3 b1234) [(.int 1)]) (fun t k => XS.goto X1257.here hx rfl (pc0 := 147) (pc' := 151) rfl (hb hby at_147) (by decide) (by decide) k) ?_
        refine GoW.retN X1257 hx (t := .boolean) Bd.returns (by simp) (hb hby at_151) Bd.notSynchronized ?_ (by decide) (by decide)
        exact ⟨rfl, N1257⟩
      · obtain ⟨va, vb⟩ := vv
        rw [va, vb]
        show GoW p e below s (ValQ (.int (1 : Int32)) n0) room_1.cells room_1.slots (Tj1236.setTop (mkF m 132 (Sh23 q1 q2 q3 q4 q5 q6 b1214 b1219 2 4 b1234) []))
        refine GoW.sg (mkF m 134 (Sh23 q1 q2 q3 q4 q5 q6 b1214 b1219 2 4 b1234) [(.ref b1219)]) (fun t k => XS.aload Xj1236.here hx rfl (hb hby at_132) rfl rfl k) ?_
        refine GoW.sg (mkF m 136 (Sh23 q1 q2 q3 q4 q5 q6 b1214 b1219 2 4 b1234) [(.int 2), (.ref b1219)]) (fun t k => XS.iload Xj1236.here hx rfl (hb hby at_134) rfl k) ?_
        refine GoW.sg (mkF m 138 (Sh23 q1 q2 q3 q4 q5 q6 b1214 b1219 2 4 b1234) [(.int 4), (.int 2), (.ref b1219)]) (fun t k => XS.iload Xj1236.here hx rfl (hb hby at_136) rfl k) ?_
        obtain ⟨_, T1258, L1258, X1258, hQ1258, st1258⟩ := own_callS Xj1236 hx hZ hown (y := Y8) (ww hw 35 rfl) (ww hw 36 rfl) (ww hw 37 rfl) (ww hw 38 rfl) (by decide) 0 (rmD24 l Z a0 hw [] b1219 c0 c1 c2 c3 cs vf T1220.heap n0 Ex1220 f1220_39 f1220_40 f1220_41 f1220_42 f1220_43 hS hvf lo_c0 hi_c0 lo_c1 hi_c1 lo_c2 hi_c2 lo_c3 hi_c3 ncs) (by decide) (by decide) ej1236 (by decide) (by decide) (g := (mkF m 138 (Sh23 q1 q2 q3 q4 q5 q6 b1214 b1219 2 4 b1234) [(.int 4), (.int 2), (.ref b1219)])) rfl (by rw [hml]; rfl) (argsL := [(.ref b1219), (.int (2 : Int32)), (.int (4 : Int32))]) (rest := []) (lenOf pd_28Ljava2flang2fString3bII29Z rfl) rfl (by show 2 * 0 + _ ≤ _; exact Nat.le_of_eq rfl) (hb hby at_138)
        obtain ⟨rfl, N1258q, e1258⟩ := hQ1258
        have N1258 := Fr.app Nj1236 N1258q
        refine GoW.sg (mkF m 141 (Sh23 q1 q2 q3 q4 q5 q6 b1214 b1219 2 4 b1234) [(.int (FD24 c0 c1 c2 c3 cs))]) (fun t k => st1258 t k) ?_
        have heq1258 : (FD24 c0 c1 c2 c3 cs) = b1234 := by rw [hb1234, if_pos clt, va, vb]; exact own_d24 c0 c1 c2 c3 cs
        refine GoW.sg (mkF m 143 (Sh23 q1 q2 q3 q4 q5 q6 b1214 b1219 2 4 b1234) [(.int b1234), (.int (FD24 c0 c1 c2 c3 cs))]) (fun t k => XS.iload X1258.here hx rfl (hb hby at_141) rfl k) ?_
        refine GoW.sg (mkF m 146 (Sh23 q1 q2 q3 q4 q5 q6 b1214 b1219 2 4 b1234) []) (fun t k => XS.icmpNo X1258.here hx rfl (hb hby at_143) rfl (teq heq1258).2 k) ?_
        refine GoW.sg (mkF m 147 (Sh23 q1 q2 q3 q4 q5 q6 b1214 b1219 2 4 b1234) [(.int 1)]) (fun t k => XS.iconst X1258.here hx rfl (hb hby at_146) k) ?_
        refine GoW.sg (mkF m 151 (Sh23 q1 q2 q3 q4 q5 q6 b1214 b1219 2 4 b1234) [(.int 1)]) (fun t k => XS.goto X1258.here hx rfl (pc0 := 147) (pc' := 151) rfl (hb hby at_147) (by decide) (by decide) k) ?_
        refine GoW.retN X1258 hx (t := .boolean) Bd.returns (by simp) (hb hby at_151) Bd.notSynchronized ?_ (by decide) (by decide)
        exact ⟨rfl, N1258⟩
      · obtain ⟨va, vb⟩ := vv
        rw [va, vb]
        show GoW p e below s (ValQ (.int (1 : Int32)) n0) room_1.cells room_1.slots (Tj1236.setTop (mkF m 132 (Sh23 q1 q2 q3 q4 q5 q6 b1214 b1219 3 4 b1234) []))
        refine GoW.sg (mkF m 134 (Sh23 q1 q2 q3 q4 q5 q6 b1214 b1219 3 4 b1234) [(.ref b1219)]) (fun t k => XS.aload Xj1236.here hx rfl (hb hby at_132) rfl rfl k) ?_
        refine GoW.sg (mkF m 136 (Sh23 q1 q2 q3 q4 q5 q6 b1214 b1219 3 4 b1234) [(.int 3), (.ref b1219)]) (fun t k => XS.iload Xj1236.here hx rfl (hb hby at_134) rfl k) ?_
        refine GoW.sg (mkF m 138 (Sh23 q1 q2 q3 q4 q5 q6 b1214 b1219 3 4 b1234) [(.int 4), (.int 3), (.ref b1219)]) (fun t k => XS.iload Xj1236.here hx rfl (hb hby at_136) rfl k) ?_
        obtain ⟨_, T1259, L1259, X1259, hQ1259, st1259⟩ := own_callS Xj1236 hx hZ hown (y := Y8) (ww hw 35 rfl) (ww hw 36 rfl) (ww hw 37 rfl) (ww hw 38 rfl) (by decide) 0 (rmD34 l Z a0 hw [] b1219 c0 c1 c2 c3 cs vf T1220.heap n0 Ex1220 f1220_39 f1220_40 f1220_41 f1220_42 f1220_43 hS hvf lo_c0 hi_c0 lo_c1 hi_c1 lo_c2 hi_c2 lo_c3 hi_c3 ncs) (by decide) (by decide) ej1236 (by decide) (by decide) (g := (mkF m 138 (Sh23 q1 q2 q3 q4 q5 q6 b1214 b1219 3 4 b1234) [(.int 4), (.int 3), (.ref b1219)])) rfl (by rw [hml]; rfl) (argsL := [(.ref b1219), (.int (3 : Int32)), (.int (4 : Int32))]) (rest := []) (lenOf pd_28Ljava2flang2fString3bII29Z rfl) rfl (by show 2 * 0 + _ ≤ _; exact Nat.le_of_eq rfl) (hb hby at_138)
        obtain ⟨rfl, N1259q, e1259⟩ := hQ1259
        have N1259 := Fr.app Nj1236 N1259q
        refine GoW.sg (mkF m 141 (Sh23 q1 q2 q3 q4 q5 q6 b1214 b1219 3 4 b1234) [(.int (FD34 c0 c1 c2 c3 cs))]) (fun t k => st1259 t k) ?_
        have heq1259 : (FD34 c0 c1 c2 c3 cs) = b1234 := by rw [hb1234, if_pos clt, va, vb]; exact own_d34 c0 c1 c2 c3 cs
        refine GoW.sg (mkF m 143 (Sh23 q1 q2 q3 q4 q5 q6 b1214 b1219 3 4 b1234) [(.int b1234), (.int (FD34 c0 c1 c2 c3 cs))]) (fun t k => XS.iload X1259.here hx rfl (hb hby at_141) rfl k) ?_
        refine GoW.sg (mkF m 146 (Sh23 q1 q2 q3 q4 q5 q6 b1214 b1219 3 4 b1234) []) (fun t k => XS.icmpNo X1259.here hx rfl (hb hby at_143) rfl (teq heq1259).2 k) ?_
        refine GoW.sg (mkF m 147 (Sh23 q1 q2 q3 q4 q5 q6 b1214 b1219 3 4 b1234) [(.int 1)]) (fun t k => XS.iconst X1259.here hx rfl (hb hby at_146) k) ?_
        refine GoW.sg (mkF m 151 (Sh23 q1 q2 q3 q4 q5 q6 b1214 b1219 3 4 b1234) [(.int 1)]) (fun t k => XS.goto X1259.here hx rfl (pc0 := 147) (pc' := 151) rfl (hb hby at_147) (by decide) (by decide) k) ?_
        refine GoW.retN X1259 hx (t := .boolean) Bd.returns (by simp) (hb hby at_151) Bd.notSynchronized ?_ (by decide) (by decide)
        exact ⟨rfl, N1259⟩
    · show GoW p e below s (ValQ (.int (1 : Int32)) n0) room_1.cells room_1.slots (Tj1236.setTop (mkF m 132 (Sh23 q1 q2 q3 q4 q5 q6 b1214 b1219 ((q5 &&& (2147483647 : Int32)) % (5 : Int32)) ((q6 &&& (2147483647 : Int32)) % (5 : Int32)) b1234) []))
      refine GoW.sg (mkF m 134 (Sh23 q1 q2 q3 q4 q5 q6 b1214 b1219 ((q5 &&& (2147483647 : Int32)) % (5 : Int32)) ((q6 &&& (2147483647 : Int32)) % (5 : Int32)) b1234) [(.ref b1219)]) (fun t k => XS.aload Xj1236.here hx rfl (hb hby at_132) rfl rfl k) ?_
      refine GoW.sg (mkF m 136 (Sh23 q1 q2 q3 q4 q5 q6 b1214 b1219 ((q5 &&& (2147483647 : Int32)) % (5 : Int32)) ((q6 &&& (2147483647 : Int32)) % (5 : Int32)) b1234) [(.int ((q5 &&& (2147483647 : Int32)) % (5 : Int32))), (.ref b1219)]) (fun t k => XS.iload Xj1236.here hx rfl (hb hby at_134) rfl k) ?_
      refine GoW.sg (mkF m 138 (Sh23 q1 q2 q3 q4 q5 q6 b1214 b1219 ((q5 &&& (2147483647 : Int32)) % (5 : Int32)) ((q6 &&& (2147483647 : Int32)) % (5 : Int32)) b1234) [(.int ((q6 &&& (2147483647 : Int32)) % (5 : Int32))), (.int ((q5 &&& (2147483647 : Int32)) % (5 : Int32))), (.ref b1219)]) (fun t k => XS.iload Xj1236.here hx rfl (hb hby at_136) rfl k) ?_
      obtain ⟨_, T1260, L1260, X1260, hQ1260, st1260⟩ := own_callS Xj1236 hx hZ hown (y := Y8) (ww hw 35 rfl) (ww hw 36 rfl) (ww hw 37 rfl) (ww hw 38 rfl) (by decide) 0 (rmDn l Z a0 hw [] b1219 ((q5 &&& (2147483647 : Int32)) % (5 : Int32)) ((q6 &&& (2147483647 : Int32)) % (5 : Int32)) T1220.heap n0 clt) (by decide) (by decide) ej1236 (by decide) (by decide) (g := (mkF m 138 (Sh23 q1 q2 q3 q4 q5 q6 b1214 b1219 ((q5 &&& (2147483647 : Int32)) % (5 : Int32)) ((q6 &&& (2147483647 : Int32)) % (5 : Int32)) b1234) [(.int ((q6 &&& (2147483647 : Int32)) % (5 : Int32))), (.int ((q5 &&& (2147483647 : Int32)) % (5 : Int32))), (.ref b1219)])) rfl (by rw [hml]; rfl) (argsL := [(.ref b1219), (.int ((q5 &&& (2147483647 : Int32)) % (5 : Int32))), (.int ((q6 &&& (2147483647 : Int32)) % (5 : Int32)))]) (rest := []) (lenOf pd_28Ljava2flang2fString3bII29Z rfl) rfl (by show 2 * 0 + _ ≤ _; exact Nat.le_of_eq rfl) (hb hby at_138)
      obtain ⟨rfl, N1260q, e1260⟩ := hQ1260
      have N1260 := Fr.app Nj1236 N1260q
      refine GoW.sg (mkF m 141 (Sh23 q1 q2 q3 q4 q5 q6 b1214 b1219 ((q5 &&& (2147483647 : Int32)) % (5 : Int32)) ((q6 &&& (2147483647 : Int32)) % (5 : Int32)) b1234) [(.int 0)]) (fun t k => st1260 t k) ?_
      have heq1260 : (0 : Int32) = b1234 := by rw [hb1234, if_neg clt]
      refine GoW.sg (mkF m 143 (Sh23 q1 q2 q3 q4 q5 q6 b1214 b1219 ((q5 &&& (2147483647 : Int32)) % (5 : Int32)) ((q6 &&& (2147483647 : Int32)) % (5 : Int32)) b1234) [(.int b1234), (.int 0)]) (fun t k => XS.iload X1260.here hx rfl (hb hby at_141) rfl k) ?_
      refine GoW.sg (mkF m 146 (Sh23 q1 q2 q3 q4 q5 q6 b1214 b1219 ((q5 &&& (2147483647 : Int32)) % (5 : Int32)) ((q6 &&& (2147483647 : Int32)) % (5 : Int32)) b1234) []) (fun t k => XS.icmpNo X1260.here hx rfl (hb hby at_143) rfl (teq heq1260).2 k) ?_
      refine GoW.sg (mkF m 147 (Sh23 q1 q2 q3 q4 q5 q6 b1214 b1219 ((q5 &&& (2147483647 : Int32)) % (5 : Int32)) ((q6 &&& (2147483647 : Int32)) % (5 : Int32)) b1234) [(.int 1)]) (fun t k => XS.iconst X1260.here hx rfl (hb hby at_146) k) ?_
      refine GoW.sg (mkF m 151 (Sh23 q1 q2 q3 q4 q5 q6 b1214 b1219 ((q5 &&& (2147483647 : Int32)) % (5 : Int32)) ((q6 &&& (2147483647 : Int32)) % (5 : Int32)) b1234) [(.int 1)]) (fun t k => XS.goto X1260.here hx rfl (pc0 := 147) (pc' := 151) rfl (hb hby at_147) (by decide) (by decide) k) ?_
      refine GoW.retN X1260 hx (t := .boolean) Bd.returns (by simp) (hb hby at_151) Bd.notSynchronized ?_ (by decide) (by decide)
      exact ⟨rfl, N1260⟩
  by_cases c1237 : ((q5 &&& (2147483647 : Int32)) % (5 : Int32)) < ((q6 &&& (2147483647 : Int32)) % (5 : Int32))
  · refine GoW.sg (mkF m 65 (Sh22 q1 q2 q3 q4 q5 q6 b1214 b1219 ((q5 &&& (2147483647 : Int32)) % (5 : Int32)) ((q6 &&& (2147483647 : Int32)) % (5 : Int32))) []) (fun t k => XS.icmpNo X1220.here hx rfl (hb hby at_62) rfl (tlt c1237).2.1 k) ?_
    refine GoW.sg (mkF m 67 (Sh22 q1 q2 q3 q4 q5 q6 b1214 b1219 ((q5 &&& (2147483647 : Int32)) % (5 : Int32)) ((q6 &&& (2147483647 : Int32)) % (5 : Int32))) [(.ref b1214)]) (fun t k => XS.aload X1220.here hx rfl (hb hby at_65) rfl rfl k) ?_
    refine GoW.sg (mkF m 68 (Sh22 q1 q2 q3 q4 q5 q6 b1214 b1219 ((q5 &&& (2147483647 : Int32)) % (5 : Int32)) ((q6 &&& (2147483647 : Int32)) % (5 : Int32))) [(.int 0), (.ref b1214)]) (fun t k => XS.iconst X1220.here hx rfl (hb hby at_67) k) ?_
    obtain ⟨cl1238, Ar1238, q1238, Sz1238, Nn1238, Hh1238, Gg1238⟩ := id f1220_44
    have hin1238 : ¬ ((0 : Int32) < 0 ∨ cl1238.slots.size ≤ ((0 : Int32)).toNatClampNeg) := inb_of Sz1238 ⟨by decide, by decide⟩
    refine GoW.sg (mkF m 69 (Sh22 q1 q2 q3 q4 q5 q6 b1214 b1219 ((q5 &&& (2147483647 : Int32)) % (5 : Int32)) ((q6 &&& (2147483647 : Int32)) % (5 : Int32))) [(.int c0)]) (fun t k => X1220.caload hx (j := (0 : Int32)) (v := (.int c0)) (hq_ rfl Ar1238.1) (State.isArrayOf_alike hZ.alike Ar1238.2.1) Ar1238.2.2 hin1238 (Hh1238.at hin1238 rfl) (g := (mkF m 68 (Sh22 q1 q2 q3 q4 q5 q6 b1214 b1219 ((q5 &&& (2147483647 : Int32)) % (5 : Int32)) ((q6 &&& (2147483647 : Int32)) % (5 : Int32))) [(.int 0), (.ref b1214)])) rfl rfl (hb hby at_68) t k) ?_
    refine GoW.sg (mkF m 70 (Sh22 q1 q2 q3 q4 q5 q6 b1214 b1219 ((q5 &&& (2147483647 : Int32)) % (5 : Int32)) ((q6 &&& (2147483647 : Int32)) % (5 : Int32))) [(.int 0), (.int c0)]) (fun t k => XS.iconst X1220.here hx rfl (hb hby at_69) k) ?_
    refine GoW.sg (mkF m 72 (Sh22 q1 q2 q3 q4 q5 q6 b1214 b1219 ((q5 &&& (2147483647 : Int32)) % (5 : Int32)) ((q6 &&& (2147483647 : Int32)) % (5 : Int32))) [(.int ((q5 &&& (2147483647 : Int32)) % (5 : Int32))), (.int 0), (.int c0)]) (fun t k => XS.iload X1220.here hx rfl (hb hby at_70) rfl k) ?_
    refine GoW.sg (mkF m 74 (Sh22 q1 q2 q3 q4 q5 q6 b1214 b1219 ((q5 &&& (2147483647 : Int32)) % (5 : Int32)) ((q6 &&& (2147483647 : Int32)) % (5 : Int32))) [(.int ((q6 &&& (2147483647 : Int32)) % (5 : Int32))), (.int ((q5 &&& (2147483647 : Int32)) % (5 : Int32))), (.int 0), (.int c0)]) (fun t k => XS.iload X1220.here hx rfl (hb hby at_72) rfl k) ?_
    obtain ⟨_, T1239, L1239, X1239, hQ1239, st1239⟩ := own_callS X1220 hx hZ hown (y := Y7) (ww hw 31 rfl) (ww hw 32 rfl) (ww hw 33 rfl) (ww hw 34 rfl) (by decide) 0 (rm7 l Z a0 hw [] c0 (0 : Int32) ((q5 &&& (2147483647 : Int32)) % (5 : Int32)) ((q6 &&& (2147483647 : Int32)) % (5 : Int32)) T1220.heap n0) (by decide) (by decide) rfl (by decide) (by decide) (g := (mkF m 74 (Sh22 q1 q2 q3 q4 q5 q6 b1214 b1219 ((q5 &&& (2147483647 : Int32)) % (5 : Int32)) ((q6 &&& (2147483647 : Int32)) % (5 : Int32))) [(.int ((q6 &&& (2147483647 : Int32)) % (5 : Int32))), (.int ((q5 &&& (2147483647 : Int32)) % (5 : Int32))), (.int 0), (.int c0)])) rfl (by rw [hml]; rfl) (argsL := [(.int c0), (.int (0 : Int32)), (.int ((q5 &&& (2147483647 : Int32)) % (5 : Int32))), (.int ((q6 &&& (2147483647 : Int32)) % (5 : Int32)))]) (rest := []) (lenOf pd_28CIII29Z rfl) rfl (by show 2 * 0 + _ ≤ _; exact Nat.le_of_eq rfl) (hb hby at_74)
    obtain ⟨rfl, N1239q, e1239⟩ := hQ1239
    have N1239 := Fr.app N1220 N1239q
    refine GoW.sg (mkF m 77 (Sh22 q1 q2 q3 q4 q5 q6 b1214 b1219 ((q5 &&& (2147483647 : Int32)) % (5 : Int32)) ((q6 &&& (2147483647 : Int32)) % (5 : Int32))) [(.int (F7 c0 (0 : Int32) ((q5 &&& (2147483647 : Int32)) % (5 : Int32)) ((q6 &&& (2147483647 : Int32)) % (5 : Int32))))]) (fun t k => st1239 t k) ?_
    by_cases c1240 : (F7 c0 (0 : Int32) ((q5 &&& (2147483647 : Int32)) % (5 : Int32)) ((q6 &&& (2147483647 : Int32)) % (5 : Int32))) = (0 : Int32)
    · refine GoW.sg (mkF m 129 (Sh22 q1 q2 q3 q4 q5 q6 b1214 b1219 ((q5 &&& (2147483647 : Int32)) % (5 : Int32)) ((q6 &&& (2147483647 : Int32)) % (5 : Int32))) []) (fun t k => XS.ifYes X1239.here hx rfl (pc0 := 77) (pc' := 129) rfl (hb hby at_77) rfl ((if0 _ _).trans (teq c1240).1) (by decide) (by decide) k) ?_
      refine GoW.sg (mkF m 130 (Sh22 q1 q2 q3 q4 q5 q6 b1214 b1219 ((q5 &&& (2147483647 : Int32)) % (5 : Int32)) ((q6 &&& (2147483647 : Int32)) % (5 : Int32))) [(.int 0)]) (fun t k => XS.iconst X1239.here hx rfl (hb hby at_129) k) ?_
      exact J130_1235 _ _ X1239 e1239 N1239 _ (by rw [if_pos c1237, if_pos c1240])
    · refine GoW.sg (mkF m 80 (Sh22 q1 q2 q3 q4 q5 q6 b1214 b1219 ((q5 &&& (2147483647 : Int32)) % (5 : Int32)) ((q6 &&& (2147483647 : Int32)) % (5 : Int32))) []) (fun t k => XS.ifNo X1239.here hx rfl (hb hby at_77) rfl ((if0 _ _).trans (feq c1240).1) k) ?_
      refine GoW.sg (mkF m 82 (Sh22 q1 q2 q3 q4 q5 q6 b1214 b1219 ((q5 &&& (2147483647 : Int32)) % (5 : Int32)) ((q6 &&& (2147483647 : Int32)) % (5 : Int32))) [(.ref b1214)]) (fun t k => XS.aload X1239.here hx rfl (hb hby at_80) rfl rfl k) ?_
      refine GoW.sg (mkF m 83 (Sh22 q1 q2 q3 q4 q5 q6 b1214 b1219 ((q5 &&& (2147483647 : Int32)) % (5 : Int32)) ((q6 &&& (2147483647 : Int32)) % (5 : Int32))) [(.int 1), (.ref b1214)]) (fun t k => XS.iconst X1239.here hx rfl (hb hby at_82) k) ?_
      obtain ⟨cl1241, Ar1241, q1241, Sz1241, Nn1241, Hh1241, Gg1241⟩ := id f1220_44
      have hin1241 : ¬ ((1 : Int32) < 0 ∨ cl1241.slots.size ≤ ((1 : Int32)).toNatClampNeg) := inb_of Sz1241 ⟨by decide, by decide⟩
      refine GoW.sg (mkF m 84 (Sh22 q1 q2 q3 q4 q5 q6 b1214 b1219 ((q5 &&& (2147483647 : Int32)) % (5 : Int32)) ((q6 &&& (2147483647 : Int32)) % (5 : Int32))) [(.int c1)]) (fun t k => X1239.caload hx (j := (1 : Int32)) (v := (.int c1)) (hq_ e1239 Ar1241.1) (State.isArrayOf_alike hZ.alike Ar1241.2.1) Ar1241.2.2 hin1241 (Hh1241.at hin1241 rfl) (g := (mkF m 83 (Sh22 q1 q2 q3 q4 q5 q6 b1214 b1219 ((q5 &&& (2147483647 : Int32)) % (5 : Int32)) ((q6 &&& (2147483647 : Int32)) % (5 : Int32))) [(.int 1), (.ref b1214)])) rfl rfl (hb hby at_83) t k) ?_
      refine GoW.sg (mkF m 85 (Sh22 q1 q2 q3 q4 q5 q6 b1214 b1219 ((q5 &&& (2147483647 : Int32)) % (5 : Int32)) ((q6 &&& (2147483647 : Int32)) % (5 : Int32))) [(.int 1), (.int c1)]) (fun t k => XS.iconst X1239.here hx rfl (hb hby at_84) k) ?_
      refine GoW.sg (mkF m 87 (Sh22 q1 q2 q3 q4 q5 q6 b1214 b1219 ((q5 &&& (2147483647 : Int32)) % (5 : Int32)) ((q6 &&& (2147483647 : Int32)) % (5 : Int32))) [(.int ((q5 &&& (2147483647 : Int32)) % (5 : Int32))), (.int 1), (.int c1)]) (fun t k => XS.iload X1239.here hx rfl (hb hby at_85) rfl k) ?_
      refine GoW.sg (mkF m 89 (Sh22 q1 q2 q3 q4 q5 q6 b1214 b1219 ((q5 &&& (2147483647 : Int32)) % (5 : Int32)) ((q6 &&& (2147483647 : Int32)) % (5 : Int32))) [(.int ((q6 &&& (2147483647 : Int32)) % (5 : Int32))), (.int ((q5 &&& (2147483647 : Int32)) % (5 : Int32))), (.int 1), (.int c1)]) (fun t k => XS.iload X1239.here hx rfl (hb hby at_87) rfl k) ?_
      obtain ⟨_, T1242, L1242, X1242, hQ1242, st1242⟩ := own_callS X1239 hx hZ hown (y := Y7) (ww hw 31 rfl) (ww hw 32 rfl) (ww hw 33 rfl) (ww hw 34 rfl) (by decide) 0 (rm7 l Z a0 hw [] c1 (1 : Int32) ((q5 &&& (2147483647 : Int32)) % (5 : Int32)) ((q6 &&& (2147483647 : Int32)) % (5 : Int32)) T1220.heap n0) (by decide) (by decide) e1239 (by decide) (by decide) (g := (mkF m 89 (Sh22 q1 q2 q3 q4 q5 q6 b1214 b1219 ((q5 &&& (2147483647 : Int32)) % (5 : Int32)) ((q6 &&& (2147483647 : Int32)) % (5 : Int32))) [(.int ((q6 &&& (2147483647 : Int32)) % (5 : Int32))), (.int ((q5 &&& (2147483647 : Int32)) % (5 : Int32))), (.int 1), (.int c1)])) rfl (by rw [hml]; rfl) (argsL := [(.int c1), (.int (1 : Int32)), (.int ((q5 &&& (2147483647 : Int32)) % (5 : Int32))), (.int ((q6 &&& (2147483647 : Int32)) % (5 : Int32)))]) (rest := []) (lenOf pd_28CIII29Z rfl) rfl (by show 2 * 0 + _ ≤ _; exact Nat.le_of_eq rfl) (hb hby at_89)
      obtain ⟨rfl, N1242q, e1242⟩ := hQ1242
      have N1242 := Fr.app N1239 N1242q
      refine GoW.sg (mkF m 92 (Sh22 q1 q2 q3 q4 q5 q6 b1214 b1219 ((q5 &&& (2147483647 : Int32)) % (5 : Int32)) ((q6 &&& (2147483647 : Int32)) % (5 : Int32))) [(.int (F7 c1 (1 : Int32) ((q5 &&& (2147483647 : Int32)) % (5 : Int32)) ((q6 &&& (2147483647 : Int32)) % (5 : Int32))))]) (fun t k => st1242 t k) ?_
      by_cases c1243 : (F7 c1 (1 : Int32) ((q5 &&& (2147483647 : Int32)) % (5 : Int32)) ((q6 &&& (2147483647 : Int32)) % (5 : Int32))) = (0 : Int32)
      · refine GoW.sg (mkF m 129 (Sh22 q1 q2 q3 q4 q5 q6 b1214 b1219 ((q5 &&& (2147483647 : Int32)) % (5 : Int32)) ((q6 &&& (2147483647 : Int32)) % (5 : Int32))) []) (fun t k => XS.ifYes X1242.here hx rfl (pc0 := 92) (pc' := 129) rfl (hb hby at_92) rfl ((if0 _ _).trans (teq c1243).1) (by decide) (by decide) k) ?_
        refine GoW.sg (mkF m 130 (Sh22 q1 q2 q3 q4 q5 q6 b1214 b1219 ((q5 &&& (2147483647 : Int32)) % (5 : Int32)) ((q6 &&& (2147483647 : Int32)) % (5 : Int32))) [(.int 0)]) (fun t k => XS.iconst X1242.here hx rfl (hb hby at_129) k) ?_
        exact J130_1235 _ _ X1242 e1242 N1242 _ (by rw [if_pos c1237, if_neg c1240, if_pos c1243])
      · refine GoW.sg (mkF m 95 (Sh22 q1 q2 q3 q4 q5 q6 b1214 b1219 ((q5 &&& (2147483647 : Int32)) % (5 : Int32)) ((q6 &&& (2147483647 : Int32)) % (5 : Int32))) []) (fun t k => XS.ifNo X1242.here hx rfl (hb hby at_92) rfl ((if0 _ _).trans (feq c1243).1) k) ?_
        refine GoW.sg (mkF m 97 (Sh22 q1 q2 q3 q4 q5 q6 b1214 b1219 ((q5 &&& (2147483647 : Int32)) % (5 : Int32)) ((q6 &&& (2147483647 : Int32)) % (5 : Int32))) [(.ref b1214)]) (fun t k => XS.aload X1242.here hx rfl (hb hby at_95) rfl rfl k) ?_
        refine GoW.sg (mkF m 98 (Sh22 q1 q2 q3 q4 q5 q6 b1214 b1219 ((q5 &&& (2147483647 : Int32)) % (5 : Int32)) ((q6 &&& (2147483647 : Int32)) % (5 : Int32))) [(.int 2), (.ref b1214)]) (fun t k => XS.iconst X1242.here hx rfl (hb hby at_97) k) ?_
        obtain ⟨cl1244, Ar1244, q1244, Sz1244, Nn1244, Hh1244, Gg1244⟩ := id f1220_44
        have hin1244 : ¬ ((2 : Int32) < 0 ∨ cl1244.slots.size ≤ ((2 : Int32)).toNatClampNeg) := inb_of Sz1244 ⟨by decide, by decide⟩
        refine GoW.sg (mkF m 99 (Sh22 q1 q2 q3 q4 q5 q6 b1214 b1219 ((q5 &&& (2147483647 : Int32)) % (5 : Int32)) ((q6 &&& (2147483647 : Int32)) % (5 : Int32))) [(.int c2)]) (fun t k => X1242.caload hx (j := (2 : Int32)) (v := (.int c2)) (hq_ e1242 Ar1244.1) (State.isArrayOf_alike hZ.alike Ar1244.2.1) Ar1244.2.2 hin1244 (Hh1244.at hin1244 rfl) (g := (mkF m 98 (Sh22 q1 q2 q3 q4 q5 q6 b1214 b1219 ((q5 &&& (2147483647 : Int32)) % (5 : Int32)) ((q6 &&& (2147483647 : Int32)) % (5 : Int32))) [(.int 2), (.ref b1214)])) rfl rfl (hb hby at_98) t k) ?_
        refine GoW.sg (mkF m 100 (Sh22 q1 q2 q3 q4 q5 q6 b1214 b1219 ((q5 &&& (2147483647 : Int32)) % (5 : Int32)) ((q6 &&& (2147483647 : Int32)) % (5 : Int32))) [(.int 2), (.int c2)]) (fun t k => XS.iconst X1242.here hx rfl (hb hby at_99) k) ?_
        refine GoW.sg (mkF m 102 (Sh22 q1 q2 q3 q4 q5 q6 b1214 b1219 ((q5 &&& (2147483647 : Int32)) % (5 : Int32)) ((q6 &&& (2147483647 : Int32)) % (5 : Int32))) [(.int ((q5 &&& (2147483647 : Int32)) % (5 : Int32))), (.int 2), (.int c2)]) (fun t k => XS.iload X1242.here hx rfl (hb hby at_100) rfl k) ?_
        refine GoW.sg (mkF m 104 (Sh22 q1 q2 q3 q4 q5 q6 b1214 b1219 ((q5 &&& (2147483647 : Int32)) % (5 : Int32)) ((q6 &&& (2147483647 : Int32)) % (5 : Int32))) [(.int ((q6 &&& (2147483647 : Int32)) % (5 : Int32))), (.int ((q5 &&& (2147483647 : Int32)) % (5 : Int32))), (.int 2), (.int c2)]) (fun t k => XS.iload X1242.here hx rfl (hb hby at_102) rfl k) ?_
        obtain ⟨_, T1245, L1245, X1245, hQ1245, st1245⟩ := own_callS X1242 hx hZ hown (y := Y7) (ww hw 31 rfl) (ww hw 32 rfl) (ww hw 33 rfl) (ww hw 34 rfl) (by decide) 0 (rm7 l Z a0 hw [] c2 (2 : Int32) ((q5 &&& (2147483647 : Int32)) % (5 : Int32)) ((q6 &&& (2147483647 : Int32)) % (5 : Int32)) T1220.heap n0) (by decide) (by decide) e1242 (by decide) (by decide) (g := (mkF m 104 (Sh22 q1 q2 q3 q4 q5 q6 b1214 b1219 ((q5 &&& (2147483647 : Int32)) % (5 : Int32)) ((q6 &&& (2147483647 : Int32)) % (5 : Int32))) [(.int ((q6 &&& (2147483647 : Int32)) % (5 : Int32))), (.int ((q5 &&& (2147483647 : Int32)) % (5 : Int32))), (.int 2), (.int c2)])) rfl (by rw [hml]; rfl) (argsL := [(.int c2), (.int (2 : Int32)), (.int ((q5 &&& (2147483647 : Int32)) % (5 : Int32))), (.int ((q6 &&& (2147483647 : Int32)) % (5 : Int32)))]) (rest := []) (lenOf pd_28CIII29Z rfl) rfl (by show 2 * 0 + _ ≤ _; exact Nat.le_of_eq rfl) (hb hby at_104)
        obtain ⟨rfl, N1245q, e1245⟩ := hQ1245
        have N1245 := Fr.app N1242 N1245q
        refine GoW.sg (mkF m 107 (Sh22 q1 q2 q3 q4 q5 q6 b1214 b1219 ((q5 &&& (2147483647 : Int32)) % (5 : Int32)) ((q6 &&& (2147483647 : Int32)) % (5 : Int32))) [(.int (F7 c2 (2 : Int32) ((q5 &&& (2147483647 : Int32)) % (5 : Int32)) ((q6 &&& (2147483647 : Int32)) % (5 : Int32))))]) (fun t k => st1245 t k) ?_
        by_cases c1246 : (F7 c2 (2 : Int32) ((q5 &&& (2147483647 : Int32)) % (5 : Int32)) ((q6 &&& (2147483647 : Int32)) % (5 : Int32))) = (0 : Int32)
        · refine GoW.sg (mkF m 129 (Sh22 q1 q2 q3 q4 q5 q6 b1214 b1219 ((q5 &&& (2147483647 : Int32)) % (5 : Int32)) ((q6 &&& (2147483647 : Int32)) % (5 : Int32))) []) (fun t k => XS.ifYes X1245.here hx rfl (pc0 := 107) (pc' := 129) rfl (hb hby at_107) rfl ((if0 _ _).trans (teq c1246).1) (by decide) (by decide) k) ?_
          refine GoW.sg (mkF m 130 (Sh22 q1 q2 q3 q4 q5 q6 b1214 b1219 ((q5 &&& (2147483647 : Int32)) % (5 : Int32)) ((q6 &&& (2147483647 : Int32)) % (5 : Int32))) [(.int 0)]) (fun t k => XS.iconst X1245.here hx rfl (hb hby at_129) k) ?_
          exact J130_1235 _ _ X1245 e1245 N1245 _ (by rw [if_pos c1237, if_neg c1240, if_neg c1243, if_pos c1246])
        · refine GoW.sg (mkF m 110 (Sh22 q1 q2 q3 q4 q5 q6 b1214 b1219 ((q5 &&& (2147483647 : Int32)) % (5 : Int32)) ((q6 &&& (2147483647 : Int32)) % (5 : Int32))) []) (fun t k => XS.ifNo X1245.here hx rfl (hb hby at_107) rfl ((if0 _ _).trans (feq c1246).1) k) ?_
          refine GoW.sg (mkF m 112 (Sh22 q1 q2 q3 q4 q5 q6 b1214 b1219 ((q5 &&& (2147483647 : Int32)) % (5 : Int32)) ((q6 &&& (2147483647 : Int32)) % (5 : Int32))) [(.ref b1214)]) (fun t k => XS.aload X1245.here hx rfl (hb hby at_110) rfl rfl k) ?_
          refine GoW.sg (mkF m 113 (Sh22 q1 q2 q3 q4 q5 q6 b1214 b1219 ((q5 &&& (2147483647 : Int32)) % (5 : Int32)) ((q6 &&& (2147483647 : Int32)) % (5 : Int32))) [(.int 3), (.ref b1214)]) (fun t k => XS.iconst X1245.here hx rfl (hb hby at_112) k) ?_
          obtain ⟨cl1247, Ar1247, q1247, Sz1247, Nn1247, Hh1247, Gg1247⟩ := id f1220_44
          have hin1247 : ¬ ((3 : Int32) < 0 ∨ cl1247.slots.size ≤ ((3 : Int32)).toNatClampNeg) := inb_of Sz1247 ⟨by decide, by decide⟩
          refine GoW.sg (mkF m 114 (Sh22 q1 q2 q3 q4 q5 q6 b1214 b1219 ((q5 &&& (2147483647 : Int32)) % (5 : Int32)) ((q6 &&& (2147483647 : Int32)) % (5 : Int32))) [(.int c3)]) (fun t k => X1245.caload hx (j := (3 : Int32)) (v := (.int c3)) (hq_ e1245 Ar1247.1) (State.isArrayOf_alike hZ.alike Ar1247.2.1) Ar1247.2.2 hin1247 (Hh1247.at hin1247 rfl) (g := (mkF m 113 (Sh22 q1 q2 q3 q4 q5 q6 b1214 b1219 ((q5 &&& (2147483647 : Int32)) % (5 : Int32)) ((q6 &&& (2147483647 : Int32)) % (5 : Int32))) [(.int 3), (.ref b1214)])) rfl rfl (hb hby at_113) t k) ?_
          refine GoW.sg (mkF m 115 (Sh22 q1 q2 q3 q4 q5 q6 b1214 b1219 ((q5 &&& (2147483647 : Int32)) % (5 : Int32)) ((q6 &&& (2147483647 : Int32)) % (5 : Int32))) [(.int 3), (.int c3)]) (fun t k => XS.iconst X1245.here hx rfl (hb hby at_114) k) ?_
          refine GoW.sg (mkF m 117 (Sh22 q1 q2 q3 q4 q5 q6 b1214 b1219 ((q5 &&& (2147483647 : Int32)) % (5 : Int32)) ((q6 &&& (2147483647 : Int32)) % (5 : Int32))) [(.int ((q5 &&& (2147483647 : Int32)) % (5 : Int32))), (.int 3), (.int c3)]) (fun t k => XS.iload X1245.here hx rfl (hb hby at_115) rfl k) ?_
          refine GoW.sg (mkF m 119 (Sh22 q1 q2 q3 q4 q5 q6 b1214 b1219 ((q5 &&& (2147483647 : Int32)) % (5 : Int32)) ((q6 &&& (2147483647 : Int32)) % (5 : Int32))) [(.int ((q6 &&& (2147483647 : Int32)) % (5 : Int32))), (.int ((q5 &&& (2147483647 : Int32)) % (5 : Int32))), (.int 3), (.int c3)]) (fun t k => XS.iload X1245.here hx rfl (hb hby at_117) rfl k) ?_
          obtain ⟨_, T1248, L1248, X1248, hQ1248, st1248⟩ := own_callS X1245 hx hZ hown (y := Y7) (ww hw 31 rfl) (ww hw 32 rfl) (ww hw 33 rfl) (ww hw 34 rfl) (by decide) 0 (rm7 l Z a0 hw [] c3 (3 : Int32) ((q5 &&& (2147483647 : Int32)) % (5 : Int32)) ((q6 &&& (2147483647 : Int32)) % (5 : Int32)) T1220.heap n0) (by decide) (by decide) e1245 (by decide) (by decide) (g := (mkF m 119 (Sh22 q1 q2 q3 q4 q5 q6 b1214 b1219 ((q5 &&& (2147483647 : Int32)) % (5 : Int32)) ((q6 &&& (2147483647 : Int32)) % (5 : Int32))) [(.int ((q6 &&& (2147483647 : Int32)) % (5 : Int32))), (.int ((q5 &&& (2147483647 : Int32)) % (5 : Int32))), (.int 3), (.int c3)])) rfl (by rw [hml]; rfl) (argsL := [(.int c3), (.int (3 : Int32)), (.int ((q5 &&& (2147483647 : Int32)) % (5 : Int32))), (.int ((q6 &&& (2147483647 : Int32)) % (5 : Int32)))]) (rest := []) (lenOf pd_28CIII29Z rfl) rfl (by show 2 * 0 + _ ≤ _; exact Nat.le_of_eq rfl) (hb hby at_119)
          obtain ⟨rfl, N1248q, e1248⟩ := hQ1248
          have N1248 := Fr.app N1245 N1248q
          refine GoW.sg (mkF m 122 (Sh22 q1 q2 q3 q4 q5 q6 b1214 b1219 ((q5 &&& (2147483647 : Int32)) % (5 : Int32)) ((q6 &&& (2147483647 : Int32)) % (5 : Int32))) [(.int (F7 c3 (3 : Int32) ((q5 &&& (2147483647 : Int32)) % (5 : Int32)) ((q6 &&& (2147483647 : Int32)) % (5 : Int32))))]) (fun t k => st1248 t k) ?_
          by_cases c1249 : (F7 c3 (3 : Int32) ((q5 &&& (2147483647 : Int32)) % (5 : Int32)) ((q6 &&& (2147483647 : Int32)) % (5 : Int32))) = (0 : Int32)
          · refine GoW.sg (mkF m 129 (Sh22 q1 q2 q3 q4 q5 q6 b1214 b1219 ((q5 &&& (2147483647 : Int32)) % (5 : Int32)) ((q6 &&& (2147483647 : Int32)) % (5 : Int32))) []) (fun t k => XS.ifYes X1248.here hx rfl (pc0 := 122) (pc' := 129) rfl (hb hby at_122) rfl ((if0 _ _).trans (teq c1249).1) (by decide) (by decide) k) ?_
            refine GoW.sg (mkF m 130 (Sh22 q1 q2 q3 q4 q5 q6 b1214 b1219 ((q5 &&& (2147483647 : Int32)) % (5 : Int32)) ((q6 &&& (2147483647 : Int32)) % (5 : Int32))) [(.int 0)]) (fun t k => XS.iconst X1248.here hx rfl (hb hby at_129) k) ?_
            exact J130_1235 _ _ X1248 e1248 N1248 _ (by rw [if_pos c1237, if_neg c1240, if_neg c1243, if_neg c1246, if_pos c1249])
          · refine GoW.sg (mkF m 125 (Sh22 q1 q2 q3 q4 q5 q6 b1214 b1219 ((q5 &&& (2147483647 : Int32)) % (5 : Int32)) ((q6 &&& (2147483647 : Int32)) % (5 : Int32))) []) (fun t k => XS.ifNo X1248.here hx rfl (hb hby at_122) rfl ((if0 _ _).trans (feq c1249).1) k) ?_
            refine GoW.sg (mkF m 126 (Sh22 q1 q2 q3 q4 q5 q6 b1214 b1219 ((q5 &&& (2147483647 : Int32)) % (5 : Int32)) ((q6 &&& (2147483647 : Int32)) % (5 : Int32))) [(.int 1)]) (fun t k => XS.iconst X1248.here hx rfl (hb hby at_125) k) ?_
            refine GoW.sg (mkF m 130 (Sh22 q1 q2 q3 q4 q5 q6 b1214 b1219 ((q5 &&& (2147483647 : Int32)) % (5 : Int32)) ((q6 &&& (2147483647 : Int32)) % (5 : Int32))) [(.int 1)]) (fun t k => XS.goto X1248.here hx rfl (pc0 := 126) (pc' := 130) rfl (hb hby at_126) (by decide) (by decide) k) ?_
            exact J130_1235 _ _ X1248 e1248 N1248 _ (by rw [if_pos c1237, if_neg c1240, if_neg c1243, if_neg c1246, if_neg c1249])
  · refine GoW.sg (mkF m 129 (Sh22 q1 q2 q3 q4 q5 q6 b1214 b1219 ((q5 &&& (2147483647 : Int32)) % (5 : Int32)) ((q6 &&& (2147483647 : Int32)) % (5 : Int32))) []) (fun t k => XS.icmpYes X1220.here hx rfl (pc0 := 62) (pc' := 129) rfl (hb hby at_62) rfl (flt c1237).2.1 (by decide) (by decide) k) ?_
    refine GoW.sg (mkF m 130 (Sh22 q1 q2 q3 q4 q5 q6 b1214 b1219 ((q5 &&& (2147483647 : Int32)) % (5 : Int32)) ((q6 &&& (2147483647 : Int32)) % (5 : Int32))) [(.int 0)]) (fun t k => XS.iconst X1220.here hx rfl (hb hby at_129) k) ?_
    exact J130_1235 _ _ X1220 rfl N1220 _ (by rw [if_neg c1237])

set_option maxRecDepth 65536 in
set_option maxHeartbeats 40000000 in
theorem comes_1 {Post : Tables → Env → Array Value → State → Outcome → State → Prop} (hpost : ∀ tb e args s v u, (limb_1_1.after args s (.returned v) u = true ∧ limb_1_2.after args s (.returned v) u = true ∧ True) → FrameEnd s (.returned v) u (Jvm.fieldLocs frame_1_writes args s ++ Jvm.arrayLocs frame_1_arrays args s ++ Jvm.staticLocs frame_1_statics s) 16 128 → Post tb e args s (.returned v) u) :
    ArmFor flags0 classFile x code maxLocals ret World_1 tables_1 room_1 Calls_1 rest_1 Pre_1 Post := by
  intro l hfl _ _ p e ha hc hk s m args below hf hA hF happ hP
  obtain ⟨hcalls, hrest, hpre⟩ := hP
  obtain ⟨-, -, -, hnamed, -, -, -, hat⟩ := (Spec.applies_iff hf).mp happ
  obtain ⟨hg, hn⟩ := and_e (Cond.before_iff.mp (show (Jvm.Cond.and given_1 narrow_1).before args s = true from hpre))
  obtain ⟨ga0, gb0⟩ := and_e hg
  obtain ⟨ga1, gb1⟩ := and_e gb0
  obtain ⟨ga2, gb2⟩ := and_e gb1
  obtain ⟨ga3, gb3⟩ := and_e gb2
  obtain ⟨ga4, gb4⟩ := and_e gb3
  obtain ⟨ga5, gb5⟩ := and_e gb4
  obtain ⟨w0, w1, w2, w3, w4, w5, rfl⟩ : ∃ w0 w1 w2 w3 w4 w5 : Value, args = #[w0, w1, w2, w3, w4, w5] := by
    have hs : args.size = 6 := by simpa [Cond.value, given_1] using ga0
    obtain ⟨L⟩ := args
    match L, hs with
    | [w0, w1, w2, w3, w4, w5], _ => exact ⟨w0, w1, w2, w3, w4, w5, rfl⟩
  have hw := fun d (hd : d ∈ tables_1) => atoms_spec (ws := Jvm.Cond.code x code maxLocals ret :: tables_1) hat d (List.mem_cons_of_mem _ hd)
  have hfit : Fit s := fun {y c} hc i hi => by
    obtain ⟨ha, rfl⟩ := Array.getElem?_eq_some_iff.mp hc
    have q := List.all_eq_true.mp ((Array.all_eq_true_iff_forall_mem.mp hF) _ (Array.getElem_mem ha)) i (List.mem_range.mpr hi)
    simpa [Array.getElem?_eq_getElem hi] using q
  obtain ⟨i0, ei0⟩ := is_v ga1
  obtain rfl : w0 = (.int i0) := Option.some.inj ei0
  obtain ⟨i1, ei1⟩ := is_v ga2
  obtain rfl : w1 = (.int i1) := Option.some.inj ei1
  obtain ⟨i2, ei2⟩ := is_v ga3
  obtain rfl : w2 = (.int i2) := Option.some.inj ei2
  obtain ⟨i3, ei3⟩ := is_v ga4
  obtain rfl : w3 = (.int i3) := Option.some.inj ei3
  obtain ⟨i4, ei4⟩ := is_v ga5
  obtain rfl : w4 = (.int i4) := Option.some.inj ei4
  obtain ⟨i5, ei5⟩ := is_v gb5
  obtain rfl : w5 = (.int i5) := Option.some.inj ei5
  obtain ⟨hsets, hown0⟩ := atoms_of _ (rest_1_c_eq ▸ (show rest_1_c.before _ s = true from hrest))
  have n5 := not_v (Cond.before_iff.mp (hsets _ (List.mem_of_getElem? (i := 2) rfl)))
  obtain ⟨cs, ecs⟩ := is_v (Cond.before_iff.mp (hsets _ (List.mem_of_getElem? (i := 1) rfl)))
  have S0 := Sta.start ecs (Or.inl (hsets _ (List.mem_of_getElem? (i := 0) rfl)))
  have ncs : ¬ (cs = (0 : Int32)) := gotF (Cond.eq_ints ecs (Term.int_eval (0))) n5
  obtain ⟨vf, evf, hvf⟩ := isR_v (Cond.before_iff.mp (hsets _ (List.mem_of_getElem? (i := 8) rfl)))
  have SF := Sta.start evf (Or.inl (hsets _ (List.mem_of_getElem? (i := 7) rfl)))
  have S1 := Sta.start (own_eqI (Cond.before_iff.mp (hsets _ (List.mem_of_getElem? (i := 12) rfl)))) (Or.inl (hsets _ (List.mem_of_getElem? (i := 11) rfl)))
  have S2 := Sta.start (own_eqI (Cond.before_iff.mp (hsets _ (List.mem_of_getElem? (i := 15) rfl)))) (Or.inl (hsets _ (List.mem_of_getElem? (i := 14) rfl)))
  have S3 := Sta.start (own_eqI (Cond.before_iff.mp (hsets _ (List.mem_of_getElem? (i := 18) rfl)))) (Or.inl (hsets _ (List.mem_of_getElem? (i := 17) rfl)))
  obtain ⟨n, o, h1, h2, h3, v, L, rfl, ⟨hv, N⟩, hq⟩ := rm0 l s _ hw tables_1 i0 i1 i2 i3 i4 i5 cs vf s.heap s.heap.size (Nat.le_refl _) S0 S1 S2 S3 SF hvf ncs p e ha hc hk s m _ below hf ((Spec.applies_iff_loose hf).mp happ).1 ⟨rfl, State.Warmed39.refl s, rfl⟩ trivial
  subst hv
  refine ⟨n, _, h1, h2, h3, hpost _ _ _ _ _ _ ⟨Cond.after_iff.mpr rfl, Cond.after_iff.mpr (eq_i res_at (Term.int_eval (1)) rfl), trivial⟩ ⟨hq.1, hq.2.1, (hq.2.2.sift fun y hy => Or.inr (N y hy)).mono (by decide) (by decide)⟩⟩
theorem main_1_1 : Claimed_1_1 := comes_1 fun _ _ _ _ _ _ h hF => ⟨h.1, hF⟩
theorem main_1_2 : Claimed_1_2 := comes_1 fun _ _ _ _ _ _ h hF => ⟨h.2.1, hF⟩
end Jvm.Pilot.@@N@@
namespace Jvm.Pilot.@@N@@
open Jvm Jvm.ClassFile Sem Op Lib Jvm.Free Jvm.Stand Jvm.Pilot.@@N@@.Jvm.D
/-! MADE BY PROGRAM (witnessworld.py) out of the Statement's table words and the real class files: 20 classes; the members and pool entries that the words name. The judged class is class 1, her method 1. -/
namespace start1
open Jvm.ClassFile
def u (s : String) : CpInfo := .utf8 (stringToUtf16 s)
/-- a pool by its gaps: so many unusable entries, then the entry; so many at the end -/
def gap : Nat → List CpInfo → List CpInfo
  | 0, r => r
  | n + 1, r => .unusable :: gap n r
def poolList (es : List (Nat × CpInfo)) (last : Nat) : List CpInfo := es.foldr (fun e r => gap e.1 (e.2 :: r)) (gap last [])
def pool (es : List (Nat × CpInfo)) (last : Nat) : Array CpInfo := ⟨poolList es last⟩
def fileOf (pool : Array CpInfo) (this : Nat) (attrs : Array Attribute := #[]) (ms : Array MethodInfo := #[]) (fl : Nat := 33) (sup : Nat := 0) (ifs : Array Nat := #[]) (fds : Array FieldInfo := #[]) : ClassFile where
  minorVersion := 0
  majorVersion := 65
  constantPool := pool
  accessFlags := fl
  thisClass := this
  superClass := sup
  interfaces := ifs
  fields := fds
  methods := ms
  attributes := attrs
def plain (name : String) (sup : Option ClassId) : Class where
  name := name
  kind := .ordinary
  loader := none
  accessFlags := 33
  super := sup
  interfaces := #[]
  cf := none
  fields := #[]
  methods := #[]
  instanceTypes := #[]
  staticTypes := #[]
  resolved := #[]
  callSites := []
  init := .initialized
  statics := none
  mirror := none

def pool0 : Array CpInfo := pool [(5, u "<init>"), (0, u "()V"), (1, .class_ 10), (1, u "java/lang/Object")] 113

def k0c0 : Code := { maxStack := 0, maxLocals := 1, code := object_method_1_code, exceptionTable := #[], attributes := #[] }
def k0m0 : Method := { name := "<init>", desc := "()V", sig := { parameters := [], returnType := none }, accessFlags := 1, code := some k0c0 }
/-- java/lang/Object -/
def k0 : Class := { plain "java/lang/Object" none with
  accessFlags := 33
  interfaces := #[]
  cf := some (fileOf pool0 8 #[] #[{ accessFlags := 1, nameIndex := 5, descriptorIndex := 6, attributes := #[] }] 33 0 #[] #[])
  fields := #[]
  methods := #[k0m0]
  instanceTypes := #[]
  staticTypes := #[]
  resolved := Array.replicate 124 none
  statics := none }

def pool1 : Array CpInfo := pool [(2, .class_ 4), (1, u "java/lang/Object"), (0, u "<init>"), (0, u "()V"), (0, .class_ 8), (0, u "java/lang/String"), (0, .methodref 7 10), (0, .nameAndType 5 11), (0, u "([C)V"), (0, .integer 2147483647), (0, .methodref 14 15), (0, .class_ 16), (0, .nameAndType 17 18), (0, u "com/example/throttle/throttle/SipSyntaxIsDigitsPinLaw"), (0, u "okAt"), (0, u "(CIII)Z"), (0, .methodref 20 21), (0, .class_ 22), (0, .nameAndType 23 24), (0, u "com/example/throttle/throttle/SipSyntax"), (0, u "isDigits"), (0, u "(Ljava/lang/String;II)Z"), (2, u "law"), (0, u "(IIIIII)Z")] 5

def k1m0 : Method := { name := "<init>", desc := "()V", sig := { parameters := [], returnType := none }, accessFlags := 2, code := none }
def k1c1 : Code := { maxStack := 4, maxLocals := 11, code := code, exceptionTable := #[], attributes := #[] }
def k1m1 : Method := { name := "law", desc := "(IIIIII)Z", sig := { parameters := [.int, .int, .int, .int, .int, .int], returnType := some .boolean }, accessFlags := 9, code := some k1c1 }
def k1c2 : Code := { maxStack := 2, maxLocals := 4, code := method_3_code, exceptionTable := #[], attributes := #[] }
def k1m2 : Method := { name := "okAt", desc := "(CIII)Z", sig := { parameters := [.char, .int, .int, .int], returnType := some .boolean }, accessFlags := 10, code := some k1c2 }
/-- com/example/throttle/throttle/SipSyntaxIsDigitsPinLaw -/
def k1 : Class := { plain "com/example/throttle/throttle/SipSyntaxIsDigitsPinLaw" (some 0) with
  accessFlags := 49
  interfaces := #[]
  cf := some (fileOf pool1 14 #[] #[{ accessFlags := 2, nameIndex := 5, descriptorIndex := 6, attributes := #[] }, { accessFlags := 9, nameIndex := 27, descriptorIndex := 28, attributes := #[] }, { accessFlags := 10, nameIndex := 17, descriptorIndex := 18, attributes := #[] }] 49 2 #[] #[])
  fields := #[]
  methods := #[k1m0, k1m1, k1m2]
  instanceTypes := #[]
  staticTypes := #[]
  resolved := Array.replicate 34 none
  statics := none }

def pool2 : Array CpInfo := pool [(1, .class_ 2), (0, u "java/io/Serializable"), (0, .class_ 4), (0, u "java/lang/Object")] 2

/-- java/io/Serializable -/
def k2 : Class := { plain "java/io/Serializable" (some 0) with
  accessFlags := 1537
  interfaces := #[]
  cf := some (fileOf pool2 1 #[] #[] 1537 3 #[] #[])
  fields := #[]
  methods := #[]
  instanceTypes := #[]
  staticTypes := #[]
  resolved := Array.replicate 7 none
  statics := none }

def pool3 : Array CpInfo := pool [(1, .class_ 2), (0, u "java/lang/Comparable"), (0, .class_ 4), (0, u "java/lang/Object")] 7

/-- java/lang/Comparable -/
def k3 : Class := { plain "java/lang/Comparable" (some 0) with
  accessFlags := 1537
  interfaces := #[]
  cf := some (fileOf pool3 1 #[] #[] 1537 3 #[] #[])
  fields := #[]
  methods := #[]
  instanceTypes := #[]
  staticTypes := #[]
  resolved := Array.replicate 12 none
  statics := none }

def pool4 : Array CpInfo := pool [(2, .class_ 4), (1, u "java/lang/CharSequence"), (42, .class_ 48), (0, u "java/lang/CharSequence$1CodePointIterator"), (10, .class_ 60), (0, u "java/lang/CharSequence$1CharIterator"), (5, .class_ 67), (0, u "java/lang/Object")] 63

/-- java/lang/CharSequence -/
def k4 : Class := { plain "java/lang/CharSequence" (some 0) with
  accessFlags := 1537
  interfaces := #[]
  cf := some (fileOf pool4 2 #[.nestMembers #[47, 59]] #[] 1537 66 #[] #[])
  fields := #[]
  methods := #[]
  instanceTypes := #[]
  staticTypes := #[]
  resolved := Array.replicate 131 none
  statics := none }

def pool5 : Array CpInfo := pool [(1, .class_ 2), (0, u "java/lang/constant/Constable"), (0, .class_ 4), (0, u "java/lang/Object")] 6

/-- java/lang/constant/Constable -/
def k5 : Class := { plain "java/lang/constant/Constable" (some 0) with
  accessFlags := 1537
  interfaces := #[]
  cf := some (fileOf pool5 1 #[] #[] 1537 3 #[] #[])
  fields := #[]
  methods := #[]
  instanceTypes := #[]
  staticTypes := #[]
  resolved := Array.replicate 11 none
  statics := none }

def pool6 : Array CpInfo := pool [(1, .class_ 2), (0, u "java/lang/constant/ConstantDesc"), (0, .class_ 4), (0, u "java/lang/Object")] 32

/-- java/lang/constant/ConstantDesc -/
def k6 : Class := { plain "java/lang/constant/ConstantDesc" (some 0) with
  accessFlags := 1537
  interfaces := #[]
  cf := some (fileOf pool6 1 #[] #[] 1537 3 #[] #[])
  fields := #[]
  methods := #[]
  instanceTypes := #[]
  staticTypes := #[]
  resolved := Array.replicate 37 none
  statics := none }

def pool7 : Array CpInfo := pool [(1, .methodref 2 3), (0, .class_ 4), (0, .nameAndType 5 6), (0, u "java/lang/Object"), (0, u "<init>"), (0, u "()V"), (2, .fieldref 10 11), (0, .class_ 12), (0, .nameAndType 13 14), (0, u "java/lang/String"), (0, u "value"), (0, u "[B"), (0, .fieldref 10 16), (0, .nameAndType 17 18), (0, u "coder"), (0, u "B"), (2, u "hash"), (0, u "I"), (2, u "hashIsZero"), (0, u "Z"), (0, .methodref 10 28), (0, .nameAndType 5 29), (0, u "([CIILjava/lang/Void;)V"), (8, .fieldref 10 39), (0, .nameAndType 40 26), (0, u "COMPACT_STRINGS"), (1, .class_ 44), (1, u "java/lang/StringUTF16"), (0, u "compress"), (1, .methodref 42 48), (0, .nameAndType 49 50), (0, u "coderFromArrayLen"), (0, u "([BI)B"), (56, .class_ 109), (1, u "java/lang/StringLatin1"), (32, u "()Z"), (34, .methodref 42 178), (0, .nameAndType 45 179), (0, u "([CII)[B"), (183, u "([BI)C"), (27, u "(II)V"), (35, u "(I)C"), (64, .methodref 10 493), (0, .nameAndType 494 142), (0, u "isLatin1"), (0, .methodref 107 496), (0, .nameAndType 497 363), (0, u "charAt"), (0, .methodref 42 496), (2, u "checkIndex"), (73, .class_ 576), (0, u "java/lang/CharSequence"), (22, u "CASE_INSENSITIVE_ORDER"), (0, u "Ljava/util/Comparator;"), (409, u "([C)V"), (42, .fieldref 1054 1055), (0, .class_ 1056), (0, .nameAndType 1057 1058), (0, u "jdk/internal/util/Preconditions"), (0, u "SIOOBE_FORMATTER"), (0, u "Ljava/util/function/BiFunction;"), (0, .methodref 1054 1060), (0, .nameAndType 501 1061), (0, u "(IILjava/util/function/BiFunction;)I"), (39, u "serialPersistentFields"), (0, u "[Ljava/io/ObjectStreamField;"), (0, .class_ 1104), (0, u "java/lang/String$CaseInsensitiveComparator"), (1, .class_ 1107), (0, u "java/io/Serializable"), (0, .class_ 1109), (0, u "java/lang/Comparable"), (0, .class_ 1111), (0, u "java/lang/constant/Constable"), (0, .class_ 1113), (0, u "java/lang/constant/ConstantDesc"), (2, u "serialVersionUID"), (0, u "J"), (3, u "REPL"), (0, u "C"), (2, u "LATIN1"), (1, u "UTF16")] 323

def k7m0 : Method := { name := "<init>", desc := "()V", sig := { parameters := [], returnType := none }, accessFlags := 1, code := none }
def k7c1 : Code := { maxStack := 5, maxLocals := 2, code := jdk_42_method_3_code, exceptionTable := #[], attributes := #[] }
def k7m1 : Method := { name := "<init>", desc := "([C)V", sig := { parameters := [(.array .char)], returnType := none }, accessFlags := 1, code := some k7c1 }
def k7c2 : Code := { maxStack := 2, maxLocals := 2, code := jdk_42_method_56_code, exceptionTable := #[], attributes := #[] }
def k7m2 : Method := { name := "charAt", desc := "(I)C", sig := { parameters := [.int], returnType := some .char }, accessFlags := 1, code := some k7c2 }
def k7c3 : Code := { maxStack := 4, maxLocals := 6, code := jdk_42_method_149_code, exceptionTable := #[], attributes := #[] }
def k7m3 : Method := { name := "<init>", desc := "([CIILjava/lang/Void;)V", sig := { parameters := [(.array .char), .int, .int, (.object "java/lang/Void")], returnType := none }, accessFlags := 2, code := some k7c3 }
def k7c4 : Code := { maxStack := 1, maxLocals := 1, code := jdk_42_method_154_code, exceptionTable := #[], attributes := #[] }
def k7m4 : Method := { name := "isLatin1", desc := "()Z", sig := { parameters := [], returnType := some .boolean }, accessFlags := 0, code := some k7c4 }
def k7c5 : Code := { maxStack := 3, maxLocals := 2, code := jdk_42_method_155_code, exceptionTable := #[], attributes := #[] }
def k7m5 : Method := { name := "checkIndex", desc := "(II)V", sig := { parameters := [.int, .int], returnType := none }, accessFlags := 8, code := some k7c5 }
/-- java/lang/String -/
def k7 : Class := { plain "java/lang/String" (some 0) with
  accessFlags := 49
  interfaces := #[2, 3, 4, 5, 6]
  cf := some (fileOf pool7 10 #[.nestMembers #[1103]] #[{ accessFlags := 1, nameIndex := 5, descriptorIndex := 6, attributes := #[] }, { accessFlags := 1, nameIndex := 5, descriptorIndex := 1010, attributes := #[] }, { accessFlags := 1, nameIndex := 497, descriptorIndex := 427, attributes := #[] }, { accessFlags := 2, nameIndex := 5, descriptorIndex := 29, attributes := #[] }, { accessFlags := 0, nameIndex := 494, descriptorIndex := 142, attributes := #[] }, { accessFlags := 8, nameIndex := 501, descriptorIndex := 391, attributes := #[] }] 49 2 #[1106, 1108, 575, 1110, 1112] #[{ accessFlags := 18, nameIndex := 13, descriptorIndex := 14, attributes := #[] }, { accessFlags := 18, nameIndex := 17, descriptorIndex := 18, attributes := #[] }, { accessFlags := 2, nameIndex := 21, descriptorIndex := 22, attributes := #[] }, { accessFlags := 2, nameIndex := 25, descriptorIndex := 26, attributes := #[] }, { accessFlags := 26, nameIndex := 1116, descriptorIndex := 1117, attributes := #[] }, { accessFlags := 24, nameIndex := 40, descriptorIndex := 26, attributes := #[] }, { accessFlags := 26, nameIndex := 1101, descriptorIndex := 1102, attributes := #[] }, { accessFlags := 26, nameIndex := 1121, descriptorIndex := 1122, attributes := #[] }, { accessFlags := 25, nameIndex := 599, descriptorIndex := 600, attributes := #[] }, { accessFlags := 24, nameIndex := 1125, descriptorIndex := 18, attributes := #[] }, { accessFlags := 24, nameIndex := 1127, descriptorIndex := 18, attributes := #[] }])
  fields := #[{ name := "value", type := (.array .byte), accessFlags := 18, slot := 0, constantValue := 0 }, { name := "coder", type := .byte, accessFlags := 18, slot := 1, constantValue := 0 }, { name := "hash", type := .int, accessFlags := 2, slot := 2, constantValue := 0 }, { name := "hashIsZero", type := .boolean, accessFlags := 2, slot := 3, constantValue := 0 }, { name := "serialVersionUID", type := .long, accessFlags := 26, slot := 0, constantValue := 0 }, { name := "COMPACT_STRINGS", type := .boolean, accessFlags := 24, slot := 1, constantValue := 0 }, { name := "serialPersistentFields", type := (.array (.object "java/io/ObjectStreamField")), accessFlags := 26, slot := 2, constantValue := 0 }, { name := "REPL", type := .char, accessFlags := 26, slot := 3, constantValue := 0 }, { name := "CASE_INSENSITIVE_ORDER", type := (.object "java/util/Comparator"), accessFlags := 25, slot := 4, constantValue := 0 }, { name := "LATIN1", type := .byte, accessFlags := 24, slot := 5, constantValue := 0 }, { name := "UTF16", type := .byte, accessFlags := 24, slot := 6, constantValue := 0 }]
  methods := #[k7m0, k7m1, k7m2, k7m3, k7m4, k7m5]
  instanceTypes := #[(.array .byte), .byte, .int, .boolean]
  staticTypes := #[.long, .boolean, (.array (.object "java/io/ObjectStreamField")), .char, (.object "java/util/Comparator"), .byte, .byte]
  resolved := Array.replicate 1451 none
  statics := some 0 }

def pool8 : Array CpInfo := pool [(3, .class_ 4), (0, u "java/lang/String"), (1, .class_ 8), (1, u "java/lang/Object"), (0, u "<init>"), (0, u "()V"), (0, .methodref 12 13), (0, .class_ 14), (0, .nameAndType 15 16), (0, u "java/lang/StringUTF16"), (0, u "newBytesLength"), (0, u "(I)I"), (3, .integer 1073741823), (23, .fieldref 12 45), (0, .nameAndType 46 47), (0, u "$assertionsDisabled"), (0, u "Z"), (0, .methodref 12 49), (0, .nameAndType 50 51), (0, u "length"), (0, u "([B)I"), (7, .fieldref 12 60), (0, .nameAndType 61 62), (0, u "HI_BYTE_SHIFT"), (0, u "I"), (0, .fieldref 12 64), (0, .nameAndType 65 62), (0, u "LO_BYTE_SHIFT"), (1, .methodref 12 68), (0, .nameAndType 69 70), (0, u "checkIndex"), (0, u "(I[B)V"), (0, .methodref 12 72), (0, .nameAndType 73 74), (0, u "getChar"), (0, u "([BI)C"), (32, .methodref 12 108), (0, .nameAndType 109 110), (0, u "newBytesFor"), (0, u "(I)[B"), (0, .methodref 12 112), (0, .nameAndType 113 114), (0, u "putChar"), (0, u "([BII)V"), (0, .methodref 12 116), (0, .nameAndType 117 118), (0, u "compress"), (0, u "([CI[BII)I"), (0, .methodref 12 120), (0, .nameAndType 121 122), (0, u "toBytes"), (0, u "([CII)[B"), (138, u "coderFromArrayLen"), (0, u "([BI)B"), (106, .class_ 371), (1, u "java/lang/StringUTF16$LinesSpliterator"), (20, u "charAt"), (21, .methodref 3 415), (0, .nameAndType 69 416), (0, u "(II)V"), (13, u "MAX_LENGTH"), (196, .class_ 628), (0, u "java/lang/StringUTF16$CodePointsSpliterator"), (0, .class_ 630), (0, u "java/lang/StringUTF16$CharsSpliterator")] 4

def k8m0 : Method := { name := "<init>", desc := "()V", sig := { parameters := [], returnType := none }, accessFlags := 0, code := none }
def k8c1 : Code := { maxStack := 1, maxLocals := 1, code := jdk_52_method_2_code, exceptionTable := #[], attributes := #[] }
def k8m1 : Method := { name := "newBytesFor", desc := "(I)[B", sig := { parameters := [.int], returnType := some (.array .byte) }, accessFlags := 9, code := some k8c1 }
def k8c2 : Code := { maxStack := 4, maxLocals := 1, code := jdk_52_method_3_code, exceptionTable := #[], attributes := #[] }
def k8m2 : Method := { name := "newBytesLength", desc := "(I)I", sig := { parameters := [.int], returnType := some .int }, accessFlags := 9, code := some k8c2 }
def k8c3 : Code := { maxStack := 4, maxLocals := 3, code := jdk_52_method_4_code, exceptionTable := #[], attributes := #[] }
def k8m3 : Method := { name := "putChar", desc := "([BII)V", sig := { parameters := [(.array .byte), .int, .int], returnType := none }, accessFlags := 8, code := some k8c3 }
def k8c4 : Code := { maxStack := 3, maxLocals := 2, code := jdk_52_method_5_code, exceptionTable := #[], attributes := #[] }
def k8m4 : Method := { name := "getChar", desc := "([BI)C", sig := { parameters := [(.array .byte), .int], returnType := some .char }, accessFlags := 8, code := some k8c4 }
def k8c5 : Code := { maxStack := 2, maxLocals := 1, code := jdk_52_method_6_code, exceptionTable := #[], attributes := #[] }
def k8m5 : Method := { name := "length", desc := "([B)I", sig := { parameters := [(.array .byte)], returnType := some .int }, accessFlags := 9, code := some k8c5 }
def k8c6 : Code := { maxStack := 4, maxLocals := 5, code := jdk_52_method_14_code, exceptionTable := #[], attributes := #[] }
def k8m6 : Method := { name := "toBytes", desc := "([CII)[B", sig := { parameters := [(.array .char), .int, .int], returnType := some (.array .byte) }, accessFlags := 9, code := some k8c6 }
def k8c7 : Code := { maxStack := 2, maxLocals := 2, code := jdk_52_method_15_code, exceptionTable := #[], attributes := #[] }
def k8m7 : Method := { name := "coderFromArrayLen", desc := "([BI)B", sig := { parameters := [(.array .byte), .int], returnType := some .byte }, accessFlags := 8, code := some k8c7 }
def k8c8 : Code := { maxStack := 5, maxLocals := 6, code := jdk_52_method_16_code, exceptionTable := #[], attributes := #[] }
def k8m8 : Method := { name := "compress", desc := "([CII)[B", sig := { parameters := [(.array .char), .int, .int], returnType := some (.array .byte) }, accessFlags := 9, code := some k8c8 }
def k8c9 : Code := { maxStack := 3, maxLocals := 7, code := jdk_52_method_21_code, exceptionTable := #[], attributes := #[] }
def k8m9 : Method := { name := "compress", desc := "([CI[BII)I", sig := { parameters := [(.array .char), .int, (.array .byte), .int, .int], returnType := some .int }, accessFlags := 9, code := some k8c9 }
def k8c10 : Code := { maxStack := 2, maxLocals := 2, code := jdk_52_method_83_code, exceptionTable := #[], attributes := #[] }
def k8m10 : Method := { name := "charAt", desc := "([BI)C", sig := { parameters := [(.array .byte), .int], returnType := some .char }, accessFlags := 9, code := some k8c10 }
def k8c11 : Code := { maxStack := 2, maxLocals := 2, code := jdk_52_method_91_code, exceptionTable := #[], attributes := #[] }
def k8m11 : Method := { name := "checkIndex", desc := "(I[B)V", sig := { parameters := [.int, (.array .byte)], returnType := none }, accessFlags := 9, code := some k8c11 }
/-- java/lang/StringUTF16 -/
def k8 : Class := { plain "java/lang/StringUTF16" (some 0) with
  accessFlags := 48
  interfaces := #[]
  cf := some (fileOf pool8 12 #[.nestMembers #[627, 629, 369]] #[{ accessFlags := 0, nameIndex := 9, descriptorIndex := 10, attributes := #[] }, { accessFlags := 9, nameIndex := 109, descriptorIndex := 110, attributes := #[] }, { accessFlags := 9, nameIndex := 15, descriptorIndex := 16, attributes := #[] }, { accessFlags := 8, nameIndex := 113, descriptorIndex := 114, attributes := #[] }, { accessFlags := 8, nameIndex := 73, descriptorIndex := 74, attributes := #[] }, { accessFlags := 9, nameIndex := 50, descriptorIndex := 51, attributes := #[] }, { accessFlags := 9, nameIndex := 121, descriptorIndex := 122, attributes := #[] }, { accessFlags := 8, nameIndex := 261, descriptorIndex := 262, attributes := #[] }, { accessFlags := 9, nameIndex := 117, descriptorIndex := 122, attributes := #[] }, { accessFlags := 9, nameIndex := 117, descriptorIndex := 118, attributes := #[] }, { accessFlags := 9, nameIndex := 392, descriptorIndex := 74, attributes := #[] }, { accessFlags := 9, nameIndex := 69, descriptorIndex := 70, attributes := #[] }] 48 6 #[] #[{ accessFlags := 26, nameIndex := 61, descriptorIndex := 62, attributes := #[] }, { accessFlags := 26, nameIndex := 65, descriptorIndex := 62, attributes := #[] }, { accessFlags := 24, nameIndex := 430, descriptorIndex := 62, attributes := #[] }, { accessFlags := 4120, nameIndex := 46, descriptorIndex := 47, attributes := #[] }])
  fields := #[{ name := "HI_BYTE_SHIFT", type := .int, accessFlags := 26, slot := 0, constantValue := 0 }, { name := "LO_BYTE_SHIFT", type := .int, accessFlags := 26, slot := 1, constantValue := 0 }, { name := "MAX_LENGTH", type := .int, accessFlags := 24, slot := 2, constantValue := 0 }, { name := "$assertionsDisabled", type := .boolean, accessFlags := 4120, slot := 3, constantValue := 0 }]
  methods := #[k8m0, k8m1, k8m2, k8m3, k8m4, k8m5, k8m6, k8m7, k8m8, k8m9, k8m10, k8m11]
  instanceTypes := #[]
  staticTypes := #[.int, .int, .int, .boolean]
  resolved := Array.replicate 635 none
  statics := some 1 }

def pool9 : Array CpInfo := pool [(2, .class_ 4), (1, u "java/lang/Object"), (0, u "<init>"), (0, u "()V"), (0, .methodref 8 9), (0, .class_ 10), (0, .nameAndType 11 12), (0, u "java/lang/String"), (0, u "charAt"), (0, u "(I)C"), (9, .class_ 24), (1, u "com/example/throttle/throttle/SipSyntax"), (10, u "isDigits"), (0, u "(Ljava/lang/String;II)Z")] 7

def k9m0 : Method := { name := "<init>", desc := "()V", sig := { parameters := [], returnType := none }, accessFlags := 2, code := none }
def k9c1 : Code := { maxStack := 2, maxLocals := 5, code := prog_10_method_2_code, exceptionTable := #[], attributes := #[] }
def k9m1 : Method := { name := "isDigits", desc := "(Ljava/lang/String;II)Z", sig := { parameters := [(.object "java/lang/String"), .int, .int], returnType := some .boolean }, accessFlags := 8, code := some k9c1 }
/-- com/example/throttle/throttle/SipSyntax -/
def k9 : Class := { plain "com/example/throttle/throttle/SipSyntax" (some 0) with
  accessFlags := 32
  interfaces := #[]
  cf := some (fileOf pool9 22 #[] #[{ accessFlags := 2, nameIndex := 5, descriptorIndex := 6, attributes := #[] }, { accessFlags := 8, nameIndex := 35, descriptorIndex := 36, attributes := #[] }] 32 2 #[] #[])
  fields := #[]
  methods := #[k9m0, k9m1]
  instanceTypes := #[]
  staticTypes := #[]
  resolved := Array.replicate 44 none
  statics := none }

def pool10 : Array CpInfo := pool [(1, .class_ 2), (0, u "java/lang/String"), (1, .class_ 6), (1, u "java/lang/Object"), (0, u "<init>"), (0, u "()V"), (0, .methodref 1 10), (0, .nameAndType 11 12), (0, u "checkIndex"), (0, u "(II)V"), (1, .class_ 16), (1, u "java/lang/StringLatin1"), (36, u "([BI)C"), (67, u "$assertionsDisabled"), (0, u "Z"), (98, .class_ 223), (1, u "java/lang/StringLatin1$LinesSpliterator"), (28, u "charAt"), (137, .class_ 391), (0, u "java/lang/StringLatin1$CharsSpliterator")] 3

def k10m0 : Method := { name := "<init>", desc := "()V", sig := { parameters := [], returnType := none }, accessFlags := 0, code := none }
def k10c1 : Code := { maxStack := 2, maxLocals := 2, code := jdk_43_method_2_code, exceptionTable := #[], attributes := #[] }
def k10m1 : Method := { name := "charAt", desc := "([BI)C", sig := { parameters := [(.array .byte), .int], returnType := some .char }, accessFlags := 9, code := some k10c1 }
/-- java/lang/StringLatin1 -/
def k10 : Class := { plain "java/lang/StringLatin1" (some 0) with
  accessFlags := 48
  interfaces := #[]
  cf := some (fileOf pool10 14 #[.nestMembers #[390, 221]] #[{ accessFlags := 0, nameIndex := 7, descriptorIndex := 8, attributes := #[] }, { accessFlags := 9, nameIndex := 252, descriptorIndex := 53, attributes := #[] }] 48 4 #[] #[{ accessFlags := 4120, nameIndex := 121, descriptorIndex := 122, attributes := #[] }])
  fields := #[{ name := "$assertionsDisabled", type := .boolean, accessFlags := 4120, slot := 0, constantValue := 0 }]
  methods := #[k10m0, k10m1]
  instanceTypes := #[]
  staticTypes := #[.boolean]
  resolved := Array.replicate 395 none
  statics := none }

def pool11 : Array CpInfo := pool [(2, .class_ 4), (1, u "java/lang/Object"), (0, u "<init>"), (0, u "()V"), (17, .class_ 26), (1, u "jdk/internal/util/Preconditions"), (6, u "checkIndex"), (21, .class_ 56), (0, u "jdk/internal/util/Preconditions$4"), (57, .class_ 115), (0, u "jdk/internal/util/Preconditions$1"), (7, u "SIOOBE_FORMATTER"), (0, u "Ljava/util/function/BiFunction;"), (0, .class_ 126), (0, u "jdk/internal/util/Preconditions$2"), (3, u "AIOOBE_FORMATTER"), (0, .class_ 132), (0, u "jdk/internal/util/Preconditions$3"), (3, u "IOOBE_FORMATTER"), (41, u "(IILjava/util/function/BiFunction;)I")] 15

def k11m0 : Method := { name := "<init>", desc := "()V", sig := { parameters := [], returnType := none }, accessFlags := 1, code := none }
def k11c1 : Code := { maxStack := 3, maxLocals := 3, code := jdk_41_method_11_code, exceptionTable := #[], attributes := #[] }
def k11m1 : Method := { name := "checkIndex", desc := "(IILjava/util/function/BiFunction;)I", sig := { parameters := [.int, .int, (.object "java/util/function/BiFunction")], returnType := some .int }, accessFlags := 9, code := some k11c1 }
/-- jdk/internal/util/Preconditions -/
def k11 : Class := { plain "jdk/internal/util/Preconditions" (some 0) with
  accessFlags := 33
  interfaces := #[]
  cf := some (fileOf pool11 24 #[.nestMembers #[55, 131, 125, 114]] #[{ accessFlags := 1, nameIndex := 5, descriptorIndex := 6, attributes := #[] }, { accessFlags := 9, nameIndex := 33, descriptorIndex := 178, attributes := #[] }] 33 2 #[] #[{ accessFlags := 25, nameIndex := 123, descriptorIndex := 124, attributes := #[] }, { accessFlags := 25, nameIndex := 130, descriptorIndex := 124, attributes := #[] }, { accessFlags := 25, nameIndex := 136, descriptorIndex := 124, attributes := #[] }])
  fields := #[{ name := "SIOOBE_FORMATTER", type := (.object "java/util/function/BiFunction"), accessFlags := 25, slot := 0, constantValue := 0 }, { name := "AIOOBE_FORMATTER", type := (.object "java/util/function/BiFunction"), accessFlags := 25, slot := 1, constantValue := 0 }, { name := "IOOBE_FORMATTER", type := (.object "java/util/function/BiFunction"), accessFlags := 25, slot := 2, constantValue := 0 }]
  methods := #[k11m0, k11m1]
  instanceTypes := #[]
  staticTypes := #[(.object "java/util/function/BiFunction"), (.object "java/util/function/BiFunction"), (.object "java/util/function/BiFunction")]
  resolved := Array.replicate 194 none
  statics := some 2 }

def pool12 : Array CpInfo := pool [(9, u "<init>"), (6, .class_ 18), (1, u "java/lang/Object"), (0, u "()V"), (1, .class_ 23), (1, u "jdk/internal/util/ArraysSupport"), (0, u "LOG2_ARRAY_LONG_INDEX_SCALE"), (0, u "I"), (2, u "U"), (0, u "Ljdk/internal/misc/Unsafe;"), (8, u "BIG_ENDIAN"), (0, u "Z"), (8, u "LOG2_BYTE_BIT_SIZE"), (4, u "LOG2_ARRAY_INT_INDEX_SCALE"), (54, u "JLA"), (0, u "Ljdk/internal/access/JavaLangAccess;"), (11, u "LOG2_ARRAY_BOOLEAN_INDEX_SCALE"), (9, u "LOG2_ARRAY_BYTE_INDEX_SCALE"), (5, u "LOG2_ARRAY_CHAR_INDEX_SCALE"), (5, u "LOG2_ARRAY_SHORT_INDEX_SCALE"), (18, u "LOG2_ARRAY_FLOAT_INDEX_SCALE"), (24, u "LOG2_ARRAY_DOUBLE_INDEX_SCALE"), (89, u "T_BOOLEAN"), (2, u "T_CHAR"), (1, u "T_FLOAT"), (1, u "T_DOUBLE"), (1, u "T_BYTE"), (1, u "T_SHORT"), (1, u "T_INT"), (1, u "T_LONG"), (1, u "SOFT_MAX_ARRAY_LENGTH")] 83

def k12m0 : Method := { name := "<init>", desc := "()V", sig := { parameters := [], returnType := none }, accessFlags := 2, code := none }
/-- jdk/internal/util/ArraysSupport -/
def k12 : Class := { plain "jdk/internal/util/ArraysSupport" (some 0) with
  accessFlags := 33
  interfaces := #[]
  cf := some (fileOf pool12 21 #[] #[{ accessFlags := 2, nameIndex := 9, descriptorIndex := 19, attributes := #[] }] 33 16 #[] #[{ accessFlags := 24, nameIndex := 28, descriptorIndex := 29, attributes := #[] }, { accessFlags := 26, nameIndex := 38, descriptorIndex := 39, attributes := #[] }, { accessFlags := 25, nameIndex := 121, descriptorIndex := 25, attributes := #[] }, { accessFlags := 25, nameIndex := 131, descriptorIndex := 25, attributes := #[] }, { accessFlags := 25, nameIndex := 137, descriptorIndex := 25, attributes := #[] }, { accessFlags := 25, nameIndex := 143, descriptorIndex := 25, attributes := #[] }, { accessFlags := 25, nameIndex := 53, descriptorIndex := 25, attributes := #[] }, { accessFlags := 25, nameIndex := 24, descriptorIndex := 25, attributes := #[] }, { accessFlags := 25, nameIndex := 162, descriptorIndex := 25, attributes := #[] }, { accessFlags := 25, nameIndex := 187, descriptorIndex := 25, attributes := #[] }, { accessFlags := 26, nameIndex := 48, descriptorIndex := 25, attributes := #[] }, { accessFlags := 25, nameIndex := 277, descriptorIndex := 25, attributes := #[] }, { accessFlags := 25, nameIndex := 280, descriptorIndex := 25, attributes := #[] }, { accessFlags := 25, nameIndex := 282, descriptorIndex := 25, attributes := #[] }, { accessFlags := 25, nameIndex := 284, descriptorIndex := 25, attributes := #[] }, { accessFlags := 25, nameIndex := 286, descriptorIndex := 25, attributes := #[] }, { accessFlags := 25, nameIndex := 288, descriptorIndex := 25, attributes := #[] }, { accessFlags := 25, nameIndex := 290, descriptorIndex := 25, attributes := #[] }, { accessFlags := 25, nameIndex := 292, descriptorIndex := 25, attributes := #[] }, { accessFlags := 26, nameIndex := 108, descriptorIndex := 109, attributes := #[] }, { accessFlags := 25, nameIndex := 294, descriptorIndex := 25, attributes := #[] }])
  fields := #[{ name := "U", type := (.object "jdk/internal/misc/Unsafe"), accessFlags := 24, slot := 0, constantValue := 0 }, { name := "BIG_ENDIAN", type := .boolean, accessFlags := 26, slot := 1, constantValue := 0 }, { name := "LOG2_ARRAY_BOOLEAN_INDEX_SCALE", type := .int, accessFlags := 25, slot := 2, constantValue := 0 }, { name := "LOG2_ARRAY_BYTE_INDEX_SCALE", type := .int, accessFlags := 25, slot := 3, constantValue := 0 }, { name := "LOG2_ARRAY_CHAR_INDEX_SCALE", type := .int, accessFlags := 25, slot := 4, constantValue := 0 }, { name := "LOG2_ARRAY_SHORT_INDEX_SCALE", type := .int, accessFlags := 25, slot := 5, constantValue := 0 }, { name := "LOG2_ARRAY_INT_INDEX_SCALE", type := .int, accessFlags := 25, slot := 6, constantValue := 0 }, { name := "LOG2_ARRAY_LONG_INDEX_SCALE", type := .int, accessFlags := 25, slot := 7, constantValue := 0 }, { name := "LOG2_ARRAY_FLOAT_INDEX_SCALE", type := .int, accessFlags := 25, slot := 8, constantValue := 0 }, { name := "LOG2_ARRAY_DOUBLE_INDEX_SCALE", type := .int, accessFlags := 25, slot := 9, constantValue := 0 }, { name := "LOG2_BYTE_BIT_SIZE", type := .int, accessFlags := 26, slot := 10, constantValue := 0 }, { name := "T_BOOLEAN", type := .int, accessFlags := 25, slot := 11, constantValue := 0 }, { name := "T_CHAR", type := .int, accessFlags := 25, slot := 12, constantValue := 0 }, { name := "T_FLOAT", type := .int, accessFlags := 25, slot := 13, constantValue := 0 }, { name := "T_DOUBLE", type := .int, accessFlags := 25, slot := 14, constantValue := 0 }, { name := "T_BYTE", type := .int, accessFlags := 25, slot := 15, constantValue := 0 }, { name := "T_SHORT", type := .int, accessFlags := 25, slot := 16, constantValue := 0 }, { name := "T_INT", type := .int, accessFlags := 25, slot := 17, constantValue := 0 }, { name := "T_LONG", type := .int, accessFlags := 25, slot := 18, constantValue := 0 }, { name := "JLA", type := (.object "jdk/internal/access/JavaLangAccess"), accessFlags := 26, slot := 19, constantValue := 0 }, { name := "SOFT_MAX_ARRAY_LENGTH", type := .int, accessFlags := 25, slot := 20, constantValue := 0 }]
  methods := #[k12m0]
  instanceTypes := #[]
  staticTypes := #[(.object "jdk/internal/misc/Unsafe"), .boolean, .int, .int, .int, .int, .int, .int, .int, .int, .int, .int, .int, .int, .int, .int, .int, .int, .int, (.object "jdk/internal/access/JavaLangAccess"), .int]
  resolved := Array.replicate 378 none
  statics := none }

def pool13 : Array CpInfo := pool [(1, u "java/lang/Cloneable"), (0, .class_ 1), (0, u "java/lang/Object"), (0, .class_ 3)] 3

/-- java/lang/Cloneable -/
def k13 : Class := { plain "java/lang/Cloneable" (some 0) with
  accessFlags := 1537
  interfaces := #[]
  cf := some (fileOf pool13 2 #[] #[] 1537 4 #[] #[])
  fields := #[]
  methods := #[]
  instanceTypes := #[]
  staticTypes := #[]
  resolved := Array.replicate 8 none
  statics := none }

/-- the primitive byte -/
def k14 : Class := { plain "byte" none with kind := .primitive 'B', accessFlags := 0x411 }
/-- [B -/
def k15 : Class := { plain "[B" (some 0) with kind := .array 14 .byte, interfaces := #[13, 2], accessFlags := 1041 }

/-- the primitive char -/
def k16 : Class := { plain "char" none with kind := .primitive 'C', accessFlags := 0x411 }
/-- [C -/
def k17 : Class := { plain "[C" (some 0) with kind := .array 16 .char, interfaces := #[13, 2], accessFlags := 1041 }

/-- the primitive int -/
def k18 : Class := { plain "int" none with kind := .primitive 'I', accessFlags := 0x411 }
/-- [I -/
def k19 : Class := { plain "[I" (some 0) with kind := .array 18 .int, interfaces := #[13, 2], accessFlags := 1041 }

def heap : Heap := #[{ cls := 7, slots := #[.long 0, .int 1, .null, .int 0, .null, .int 0, .int 0], vm := .statics 7 },
  { cls := 8, slots := #[.int 0, .int 8, .int 0, .int 1], vm := .statics 8 },
  { cls := 11, slots := #[.null, .null, .null], vm := .statics 11 }]
def classes : Array Class := #[k0, k1, k2, k3, k4, k5, k6, k7, k8, k9, k10, k11, k12, k13, k14, k15, k16, k17, k18, k19]
def interned : List (Array UInt16 × Addr) := []
def slotsUsed : Nat := 14
def theMethod : MethodId := ⟨1, 1⟩
def args0 : Array Value := #[.int 50, .int 77, .int 88, .int 1000, .int 1, .int 3]
def aboutOver (below : List Frame) : State where
  vm := { classes := classes, interned := interned.toArray }
  heap := heap
  slotsUsed := slotsUsed
  threads := #[{ frames := .invoking theMethod args0 :: below }]
def below0 : List Frame := [.native { method := ⟨0, 0⟩, args := #[] }]
def about1 : State := aboutOver below0
def p0 : Program := .bare "" "" ""
def e0 : Env := launch0.env 0 0 0
theorem w_frames : about1.frames = Frame.invoking theMethod args0 :: below0 := rfl
set_option maxRecDepth 65536 in
theorem w_args : argsFit about1.vm theMethod args0 = true := by decide +kernel
set_option maxRecDepth 65536 in
theorem w_heap : heapFits about1 = true := by decide +kernel
set_option maxRecDepth 65536 in
theorem w_runnable : about1.curStatus? = some .runnable := by decide +kernel
set_option maxRecDepth 65536 in
theorem w_alone : about1.alone = true := by decide +kernel
set_option maxRecDepth 65536 in
theorem w_named : about1.methodNamed? x = some theMethod := by decide +kernel
set_option maxRecDepth 65536 in
theorem w_hears : about1.hears theMethod below0 = true := by decide +kernel
set_option maxRecDepth 65536 in
theorem w_ripe : about1.ripe theMethod args0 below0 = true := by decide +kernel
theorem w_running : about1.status = .running := rfl
set_option maxRecDepth 65536 in
theorem w_room : about1.hasRoom e0.platform room_1 = true :=
  launch0.hasRoom_least _ room_1 (by decide +kernel) (by decide +kernel) (by decide +kernel) (by decide +kernel) (by decide +kernel) (by decide +kernel)
theorem allAtoms_all (ts : List Jvm.Cond) (a : Array Jvm.Value) (st : Jvm.State) : (allAtoms ts).before a st = ts.all (fun c => c.before a st) := by
  induction ts with
  | nil => rfl
  | cons c t ih =>
    show (Jvm.Cond.and c (allAtoms t)).before a st = _
    rw [Jvm.Cond.before_and, ih, List.all_cons]
def words1 : List Jvm.Cond := Jvm.Cond.code x code maxLocals ret :: tables_1
/-- a 'code' word, met by the world's own term for the bytes: nothing is compared byte by byte -/
theorem code_word {y : MethodName} {bytes : ByteArray} {mx : Nat} {rt : Option FieldType} {a : Array Value} {s : State} {m : MethodId} {meth : Method} {c : Code} (h1 : s.methodNamed? y = some m) (h2 : s.vm.method? m = some meth) (h3 : meth.code = some c) (h4 : c.code = bytes)
    (h5 : (c.maxLocals == mx && c.exceptionTable.isEmpty && decide (c.maxStack ≤ mostOperands) && decide (meth.sig.returnType = rt) && !meth.locks && decide (parseMethodDescriptor y.desc = some meth.sig)) = true) : (Jvm.Cond.code y bytes mx rt).before a s = true := by
  simp only [Bool.and_eq_true, beq_iff_eq, Bool.not_eq_true', decide_eq_true_eq] at h5
  obtain ⟨⟨⟨⟨⟨g1, g2⟩, g3⟩, g4⟩, g5⟩, g6⟩ := h5
  simp [Cond.before, Cond.holds, Cond.value, h1, h2, h3, h4, g1, g2, g3, g4, g5, g6]
def isCode : Jvm.Cond → Bool
  | .code _ _ _ _ => true
  | _ => false
theorem all_split {L : List Jvm.Cond} {P : Jvm.Cond → Bool} (h1 : L.all (fun c => isCode c || P c) = true) (h2 : ∀ c ∈ L.filter isCode, P c = true) : L.all P = true := by
  refine List.all_eq_true.mpr fun c hc => ?_
  have h := List.all_eq_true.mp h1 c hc
  rcases Bool.eq_false_or_eq_true (isCode c) with hi | hi
  · exact h2 c (List.mem_filter.mpr ⟨hc, hi⟩)
  · simpa [hi] using h
set_option maxRecDepth 65536 in
theorem w_c0 : (Jvm.Cond.code x code maxLocals ret).before args0 about1 = true := code_word (m := ⟨1, 1⟩) (meth := k1m1) (c := k1c1) (by decide +kernel) rfl rfl rfl (by decide +kernel)
set_option maxRecDepth 65536 in
theorem w_c1 : (Jvm.Cond.code ({ cls := "java/lang/String", name := "<init>", desc := "([C)V" } : Jvm.MethodName) jdk_42_method_3_code (2 : Nat) (Option.none : Option Jvm.ClassFile.FieldType)).before args0 about1 = true := code_word (m := ⟨7, 1⟩) (meth := k7m1) (c := k7c1) (by decide +kernel) rfl rfl rfl (by decide +kernel)
set_option maxRecDepth 65536 in
theorem w_c2 : (Jvm.Cond.code ({ cls := "java/lang/String", name := "<init>", desc := "([CIILjava/lang/Void;)V" } : Jvm.MethodName) jdk_42_method_149_code (6 : Nat) (Option.none : Option Jvm.ClassFile.FieldType)).before args0 about1 = true := code_word (m := ⟨7, 3⟩) (meth := k7m3) (c := k7c3) (by decide +kernel) rfl rfl rfl (by decide +kernel)
set_option maxRecDepth 65536 in
theorem w_c3 : (Jvm.Cond.code ({ cls := "java/lang/Object", name := "<init>", desc := "()V" } : Jvm.MethodName) object_method_1_code (1 : Nat) (Option.none : Option Jvm.ClassFile.FieldType)).before args0 about1 = true := code_word (m := ⟨0, 0⟩) (meth := k0m0) (c := k0c0) (by decide +kernel) rfl rfl rfl (by decide +kernel)
set_option maxRecDepth 65536 in
theorem w_c4 : (Jvm.Cond.code ({ cls := "java/lang/StringUTF16", name := "compress", desc := "([CII)[B" } : Jvm.MethodName) jdk_52_method_16_code (6 : Nat) (Option.some (Jvm.ClassFile.FieldType.array Jvm.ClassFile.FieldType.byte))).before args0 about1 = true := code_word (m := ⟨8, 8⟩) (meth := k8m8) (c := k8c8) (by decide +kernel) rfl rfl rfl (by decide +kernel)
set_option maxRecDepth 65536 in
theorem w_c5 : (Jvm.Cond.code ({ cls := "java/lang/StringUTF16", name := "compress", desc := "([CI[BII)I" } : Jvm.MethodName) jdk_52_method_21_code (7 : Nat) (Option.some Jvm.ClassFile.FieldType.int)).before args0 about1 = true := code_word (m := ⟨8, 9⟩) (meth := k8m9) (c := k8c9) (by decide +kernel) rfl rfl rfl (by decide +kernel)
set_option maxRecDepth 65536 in
theorem w_c6 : (Jvm.Cond.code ({ cls := "java/lang/StringUTF16", name := "coderFromArrayLen", desc := "([BI)B" } : Jvm.MethodName) jdk_52_method_15_code (2 : Nat) (Option.some Jvm.ClassFile.FieldType.byte)).before args0 about1 = true := code_word (m := ⟨8, 7⟩) (meth := k8m7) (c := k8c7) (by decide +kernel) rfl rfl rfl (by decide +kernel)
set_option maxRecDepth 65536 in
theorem w_c7 : (Jvm.Cond.code ({ cls := "com/example/throttle/throttle/SipSyntaxIsDigitsPinLaw", name := "okAt", desc := "(CIII)Z" } : Jvm.MethodName) method_3_code (4 : Nat) (Option.some Jvm.ClassFile.FieldType.boolean)).before args0 about1 = true := code_word (m := ⟨1, 2⟩) (meth := k1m2) (c := k1c2) (by decide +kernel) rfl rfl rfl (by decide +kernel)
set_option maxRecDepth 65536 in
theorem w_c8 : (Jvm.Cond.code ({ cls := "com/example/throttle/throttle/SipSyntax", name := "isDigits", desc := "(Ljava/lang/String;II)Z" } : Jvm.MethodName) prog_10_method_2_code (5 : Nat) (Option.some Jvm.ClassFile.FieldType.boolean)).before args0 about1 = true := code_word (m := ⟨9, 1⟩) (meth := k9m1) (c := k9c1) (by decide +kernel) rfl rfl rfl (by decide +kernel)
set_option maxRecDepth 65536 in
theorem w_c9 : (Jvm.Cond.code ({ cls := "java/lang/String", name := "charAt", desc := "(I)C" } : Jvm.MethodName) jdk_42_method_56_code (2 : Nat) (Option.some Jvm.ClassFile.FieldType.char)).before args0 about1 = true := code_word (m := ⟨7, 2⟩) (meth := k7m2) (c := k7c2) (by decide +kernel) rfl rfl rfl (by decide +kernel)
set_option maxRecDepth 65536 in
theorem w_c10 : (Jvm.Cond.code ({ cls := "java/lang/String", name := "isLatin1", desc := "()Z" } : Jvm.MethodName) jdk_42_method_154_code (1 : Nat) (Option.some Jvm.ClassFile.FieldType.boolean)).before args0 about1 = true := code_word (m := ⟨7, 4⟩) (meth := k7m4) (c := k7c4) (by decide +kernel) rfl rfl rfl (by decide +kernel)
set_option maxRecDepth 65536 in
theorem w_c11 : (Jvm.Cond.code ({ cls := "java/lang/StringLatin1", name := "charAt", desc := "([BI)C" } : Jvm.MethodName) jdk_43_method_2_code (2 : Nat) (Option.some Jvm.ClassFile.FieldType.char)).before args0 about1 = true := code_word (m := ⟨10, 1⟩) (meth := k10m1) (c := k10c1) (by decide +kernel) rfl rfl rfl (by decide +kernel)
set_option maxRecDepth 65536 in
theorem w_c12 : (Jvm.Cond.code ({ cls := "java/lang/String", name := "checkIndex", desc := "(II)V" } : Jvm.MethodName) jdk_42_method_155_code (2 : Nat) (Option.none : Option Jvm.ClassFile.FieldType)).before args0 about1 = true := code_word (m := ⟨7, 5⟩) (meth := k7m5) (c := k7c5) (by decide +kernel) rfl rfl rfl (by decide +kernel)
set_option maxRecDepth 65536 in
theorem w_c13 : (Jvm.Cond.code ({ cls := "jdk/internal/util/Preconditions", name := "checkIndex", desc := "(IILjava/util/function/BiFunction;)I" } : Jvm.MethodName) jdk_41_method_11_code (3 : Nat) (Option.some Jvm.ClassFile.FieldType.int)).before args0 about1 = true := code_word (m := ⟨11, 1⟩) (meth := k11m1) (c := k11c1) (by decide +kernel) rfl rfl rfl (by decide +kernel)
set_option maxRecDepth 65536 in
theorem w_c14 : (Jvm.Cond.code ({ cls := "java/lang/StringUTF16", name := "toBytes", desc := "([CII)[B" } : Jvm.MethodName) jdk_52_method_14_code (5 : Nat) (Option.some (Jvm.ClassFile.FieldType.array Jvm.ClassFile.FieldType.byte))).before args0 about1 = true := code_word (m := ⟨8, 6⟩) (meth := k8m6) (c := k8c6) (by decide +kernel) rfl rfl rfl (by decide +kernel)
set_option maxRecDepth 65536 in
theorem w_c15 : (Jvm.Cond.code ({ cls := "java/lang/StringUTF16", name := "newBytesFor", desc := "(I)[B" } : Jvm.MethodName) jdk_52_method_2_code (1 : Nat) (Option.some (Jvm.ClassFile.FieldType.array Jvm.ClassFile.FieldType.byte))).before args0 about1 = true := code_word (m := ⟨8, 1⟩) (meth := k8m1) (c := k8c1) (by decide +kernel) rfl rfl rfl (by decide +kernel)
set_option maxRecDepth 65536 in
theorem w_c16 : (Jvm.Cond.code ({ cls := "java/lang/StringUTF16", name := "newBytesLength", desc := "(I)I" } : Jvm.MethodName) jdk_52_method_3_code (1 : Nat) (Option.some Jvm.ClassFile.FieldType.int)).before args0 about1 = true := code_word (m := ⟨8, 2⟩) (meth := k8m2) (c := k8c2) (by decide +kernel) rfl rfl rfl (by decide +kernel)
set_option maxRecDepth 65536 in
theorem w_c17 : (Jvm.Cond.code ({ cls := "java/lang/StringUTF16", name := "putChar", desc := "([BII)V" } : Jvm.MethodName) jdk_52_method_4_code (3 : Nat) (Option.none : Option Jvm.ClassFile.FieldType)).before args0 about1 = true := code_word (m := ⟨8, 3⟩) (meth := k8m3) (c := k8c3) (by decide +kernel) rfl rfl rfl (by decide +kernel)
set_option maxRecDepth 65536 in
theorem w_c18 : (Jvm.Cond.code ({ cls := "java/lang/StringUTF16", name := "getChar", desc := "([BI)C" } : Jvm.MethodName) jdk_52_method_5_code (2 : Nat) (Option.some Jvm.ClassFile.FieldType.char)).before args0 about1 = true := code_word (m := ⟨8, 4⟩) (meth := k8m4) (c := k8c4) (by decide +kernel) rfl rfl rfl (by decide +kernel)
set_option maxRecDepth 65536 in
theorem w_c19 : (Jvm.Cond.code ({ cls := "java/lang/StringUTF16", name := "charAt", desc := "([BI)C" } : Jvm.MethodName) jdk_52_method_83_code (2 : Nat) (Option.some Jvm.ClassFile.FieldType.char)).before args0 about1 = true := code_word (m := ⟨8, 10⟩) (meth := k8m10) (c := k8c10) (by decide +kernel) rfl rfl rfl (by decide +kernel)
set_option maxRecDepth 65536 in
theorem w_c20 : (Jvm.Cond.code ({ cls := "java/lang/StringUTF16", name := "checkIndex", desc := "(I[B)V" } : Jvm.MethodName) jdk_52_method_91_code (2 : Nat) (Option.none : Option Jvm.ClassFile.FieldType)).before args0 about1 = true := code_word (m := ⟨8, 11⟩) (meth := k8m11) (c := k8c11) (by decide +kernel) rfl rfl rfl (by decide +kernel)
set_option maxRecDepth 65536 in
theorem w_c21 : (Jvm.Cond.code ({ cls := "java/lang/StringUTF16", name := "length", desc := "([B)I" } : Jvm.MethodName) jdk_52_method_6_code (1 : Nat) (Option.some Jvm.ClassFile.FieldType.int)).before args0 about1 = true := code_word (m := ⟨8, 5⟩) (meth := k8m5) (c := k8c5) (by decide +kernel) rfl rfl rfl (by decide +kernel)
def codes1 : List Jvm.Cond := [Jvm.Cond.code x code maxLocals ret, Jvm.Cond.code ({ cls := "java/lang/String", name := "<init>", desc := "([C)V" } : Jvm.MethodName) jdk_42_method_3_code (2 : Nat) (Option.none : Option Jvm.ClassFile.FieldType), Jvm.Cond.code ({ cls := "java/lang/String", name := "<init>", desc := "([CIILjava/lang/Void;)V" } : Jvm.MethodName) jdk_42_method_149_code (6 : Nat) (Option.none : Option Jvm.ClassFile.FieldType), Jvm.Cond.code ({ cls := "java/lang/Object", name := "<init>", desc := "()V" } : Jvm.MethodName) object_method_1_code (1 : Nat) (Option.none : Option Jvm.ClassFile.FieldType), Jvm.Cond.code ({ cls := "java/lang/StringUTF16", name := "compress", desc := "([CII)[B" } : Jvm.MethodName) jdk_52_method_16_code (6 : Nat) (Option.some (Jvm.ClassFile.FieldType.array Jvm.ClassFile.FieldType.byte)), Jvm.Cond.code ({ cls := "java/lang/StringUTF16", name := "compress", desc := "([CI[BII)I" } : Jvm.MethodName) jdk_52_method_21_code (7 : Nat) (Option.some Jvm.ClassFile.FieldType.int), Jvm.Cond.code ({ cls := "java/lang/StringUTF16", name := "coderFromArrayLen", desc := "([BI)B" } : Jvm.MethodName) jdk_52_method_15_code (2 : Nat) (Option.some Jvm.ClassFile.FieldType.byte), Jvm.Cond.code ({ cls := "com/example/throttle/throttle/SipSyntaxIsDigitsPinLaw", name := "okAt", desc := "(CIII)Z" } : Jvm.MethodName) method_3_code (4 : Nat) (Option.some Jvm.ClassFile.FieldType.boolean), Jvm.Cond.code ({ cls := "com/example/throttle/throttle/SipSyntax", name := "isDigits", desc := "(Ljava/lang/String;II)Z" } : Jvm.MethodName) prog_10_method_2_code (5 : Nat) (Option.some Jvm.ClassFile.FieldType.boolean), Jvm.Cond.code ({ cls := "java/lang/String", name := "charAt", desc := "(I)C" } : Jvm.MethodName) jdk_42_method_56_code (2 : Nat) (Option.some Jvm.ClassFile.FieldType.char), Jvm.Cond.code ({ cls := "java/lang/String", name := "isLatin1", desc := "()Z" } : Jvm.MethodName) jdk_42_method_154_code (1 : Nat) (Option.some Jvm.ClassFile.FieldType.boolean), Jvm.Cond.code ({ cls := "java/lang/StringLatin1", name := "charAt", desc := "([BI)C" } : Jvm.MethodName) jdk_43_method_2_code (2 : Nat) (Option.some Jvm.ClassFile.FieldType.char), Jvm.Cond.code ({ cls := "java/lang/String", name := "checkIndex", desc := "(II)V" } : Jvm.MethodName) jdk_42_method_155_code (2 : Nat) (Option.none : Option Jvm.ClassFile.FieldType), Jvm.Cond.code ({ cls := "jdk/internal/util/Preconditions", name := "checkIndex", desc := "(IILjava/util/function/BiFunction;)I" } : Jvm.MethodName) jdk_41_method_11_code (3 : Nat) (Option.some Jvm.ClassFile.FieldType.int), Jvm.Cond.code ({ cls := "java/lang/StringUTF16", name := "toBytes", desc := "([CII)[B" } : Jvm.MethodName) jdk_52_method_14_code (5 : Nat) (Option.some (Jvm.ClassFile.FieldType.array Jvm.ClassFile.FieldType.byte)), Jvm.Cond.code ({ cls := "java/lang/StringUTF16", name := "newBytesFor", desc := "(I)[B" } : Jvm.MethodName) jdk_52_method_2_code (1 : Nat) (Option.some (Jvm.ClassFile.FieldType.array Jvm.ClassFile.FieldType.byte)), Jvm.Cond.code ({ cls := "java/lang/StringUTF16", name := "newBytesLength", desc := "(I)I" } : Jvm.MethodName) jdk_52_method_3_code (1 : Nat) (Option.some Jvm.ClassFile.FieldType.int), Jvm.Cond.code ({ cls := "java/lang/StringUTF16", name := "putChar", desc := "([BII)V" } : Jvm.MethodName) jdk_52_method_4_code (3 : Nat) (Option.none : Option Jvm.ClassFile.FieldType), Jvm.Cond.code ({ cls := "java/lang/StringUTF16", name := "getChar", desc := "([BI)C" } : Jvm.MethodName) jdk_52_method_5_code (2 : Nat) (Option.some Jvm.ClassFile.FieldType.char), Jvm.Cond.code ({ cls := "java/lang/StringUTF16", name := "charAt", desc := "([BI)C" } : Jvm.MethodName) jdk_52_method_83_code (2 : Nat) (Option.some Jvm.ClassFile.FieldType.char), Jvm.Cond.code ({ cls := "java/lang/StringUTF16", name := "checkIndex", desc := "(I[B)V" } : Jvm.MethodName) jdk_52_method_91_code (2 : Nat) (Option.none : Option Jvm.ClassFile.FieldType), Jvm.Cond.code ({ cls := "java/lang/StringUTF16", name := "length", desc := "([B)I" } : Jvm.MethodName) jdk_52_method_6_code (1 : Nat) (Option.some Jvm.ClassFile.FieldType.int)]
set_option maxRecDepth 65536 in
theorem codes_eq : words1.filter isCode = codes1 := rfl
theorem w_codes : ∀ c ∈ words1.filter isCode, c.before args0 about1 = true := by
  rw [codes_eq]
  intro c hc
  simp only [codes1, List.mem_cons, List.not_mem_nil, or_false] at hc
  rcases hc with rfl | rfl | rfl | rfl | rfl | rfl | rfl | rfl | rfl | rfl | rfl | rfl | rfl | rfl | rfl | rfl | rfl | rfl | rfl | rfl | rfl | rfl
  · exact w_c0
  · exact w_c1
  · exact w_c2
  · exact w_c3
  · exact w_c4
  · exact w_c5
  · exact w_c6
  · exact w_c7
  · exact w_c8
  · exact w_c9
  · exact w_c10
  · exact w_c11
  · exact w_c12
  · exact w_c13
  · exact w_c14
  · exact w_c15
  · exact w_c16
  · exact w_c17
  · exact w_c18
  · exact w_c19
  · exact w_c20
  · exact w_c21
set_option maxRecDepth 65536 in
theorem w_t1 : (words1.take 24).all (fun c => isCode c || c.before args0 about1) = true := by decide +kernel
set_option maxRecDepth 65536 in
theorem w_t2 : ((words1.drop 24).take 24).all (fun c => isCode c || c.before args0 about1) = true := by decide +kernel
set_option maxRecDepth 65536 in
theorem w_t3 : (((words1.drop 24).drop 24).take 24).all (fun c => isCode c || c.before args0 about1) = true := by decide +kernel
set_option maxRecDepth 65536 in
theorem w_t4 : (((words1.drop 24).drop 24).drop 24).all (fun c => isCode c || c.before args0 about1) = true := by decide +kernel
theorem w_tables : (allAtoms (Jvm.Cond.code x code maxLocals ret :: tables_1)).before args0 about1 = true := by
  rw [allAtoms_all]
  show words1.all (fun c => c.before args0 about1) = true
  refine all_split ?_ w_codes
  rw [← List.take_append_drop 24 words1, List.all_append, w_t1, ← List.take_append_drop 24 (words1.drop 24), List.all_append, w_t2, ← List.take_append_drop 24 ((words1.drop 24).drop 24), List.all_append, w_t3, w_t4]
  rfl
set_option maxRecDepth 65536 in
theorem w_rest : rest_1_c.before args0 about1 = true := by decide +kernel
set_option maxRecDepth 65536 in
theorem w_case : (Jvm.Cond.and given_1 narrow_1).before args0 about1 = true := by decide +kernel
theorem w_applies : (headSpec (Jvm.Cond.code x code maxLocals ret :: tables_1) room_1).applies x e0.platform about1 = true :=
  (Spec.applies_iff w_frames).mpr ⟨w_running, w_runnable, w_alone, w_named, w_hears, w_ripe, w_room, w_tables⟩
theorem atStart : AtStart classFile x code maxLocals ret World_1 tables_1 room_1 Calls_1 rest_1 Pre_1 launch0 p0 e0 about1 theMethod args0 below0 :=
  ⟨lists_1, trivial, launch0.admits_env _ _ _, launch0.least_env, fairChoices_fair.cas, fairChoices_fair.clock, w_frames, w_args, w_heap, w_applies, trivial, w_rest, w_case⟩
end start1
theorem witness_1 : WitnessClaimed_1 := ⟨start1.p0, start1.e0, start1.about1, start1.theMethod, start1.args0, start1.below0, start1.atStart⟩
end Jvm.Pilot.@@N@@
