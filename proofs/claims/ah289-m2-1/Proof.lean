import JvmDerived
import JvmDerived.Pilot.@@N@@Statement
import JvmDerived.Pilot.@@N@@Code
set_option linter.unusedVariables false
set_option linter.unusedSimpArgs false
namespace Jvm.RoadKit
open Sem ClassFile Op Lib Jvm.Stand Jvm.Free Jvm.LawKit
def GoW (p : Program) (e : Env) (below : List Frame) (s : State) (Q : Option Value → Heap → List Loc → Prop) (k n : Nat) (u : State) : Prop :=
  ∃ s₂ o, Steps p.tables e below u s₂ ∧ s₂.status = .running ∧ Ended s₂ below o ∧ ∃ v L, o = .returned v ∧ Q v s₂.heap L ∧ FrameEnd s o s₂ L k n
def PureQ (r : Value) (h0 : Heap) (n0 : Nat) (v : Option Value) (h : Heap) (L : List Loc) : Prop := v = some r ∧ Fr n0 L ∧ h = h0
def ValQ (r : Value) (n0 : Nat) (v : Option Value) (h : Heap) (L : List Loc) : Prop := v = some r ∧ Fr n0 L
section New
variable {p : Program} {l : Launch} {e : Env} {R : Room} {s : State} {m : MethodId} {args : Array Value} {below : List Frame} {meth : Method} {c : Code} {T : State} {locs : List Loc} {cells slots : Nat} {Q : Option Value → Heap → List Loc → Prop} {k n : Nat} {u v : State}
theorem GoW.mk (h : GoW p e below s Q k n u) : ∃ s₂ o, Steps p.tables e below u s₂ ∧ s₂.status = .running ∧ Ended s₂ below o ∧ ∃ v L, o = .returned v ∧ Q v s₂.heap L ∧ FrameEnd s o s₂ L k n := h
theorem GoW.st (h : ∀ t, Steps p.tables e below u t → Steps p.tables e below v t) (q : GoW p e below s Q k n u) : GoW p e below s Q k n v := by
  obtain ⟨s₂, o, h1, h2⟩ := q; exact ⟨s₂, o, h _ h1, h2⟩
theorem GoW.sg {T' : State} (g' : JFrame) (h : ∀ t, Steps p.tables e below (T'.setTop g') t → Steps p.tables e below v t) (q : GoW p e below s Q k n (T'.setTop g')) : GoW p e below s Q k n v := GoW.st h q
theorem retI (X : Stand p l e R s m args below meth c T locs cells slots) (hx : p.tables.exec = Jvm.exec) {pc : Nat} {Ls : Array Slot} {z : Int32} {rest : List Value} (hret : meth.sig.returnType = some .int) (hd : decode c.code pc = .ok (.ireturn, 1)) {fs : List Frame}
    (hl : ∀ (f : JFrame) (acts : List Action), f.method = m → f.locked = none → f.entered = [] → (doReturn e (T.setTop f) acts (some (.int z))).1 = T.setFrames fs) : Steps p.tables e below (T.setTop (mkF m pc Ls (.int z :: rest))) (T.setFrames fs) := by
  have hm' : T.vm.method? m = some meth := X.method'
  have hn : narrow .int (.int z) = .int z := rfl
  show Steps p.tables e below (T.setTop { method := m, pc := pc, locals := Ls, stack := _ :: rest, locked := none }) _
  jvm_step X.here [X.here.top, hx, hd, hm', hret, hn]
  first | (intro acts; rw [hl _ acts rfl rfl rfl]) | rw [hl _ _ rfl rfl rfl]
  exact Steps.refl _
theorem GoW.retN (X : Stand p l e R s m args below meth c T locs cells slots) (hx : p.tables.exec = Jvm.exec) {pc : Nat} {Ls : Array Slot} {z : Int32} {t : FieldType} {rest : List Value} (hret : meth.sig.returnType = some t) (ht : t = .boolean ∨ t = .byte ∨ t = .char ∨ t = .short)
    (hd : decode c.code pc = .ok (.ireturn, 1)) (hlk : meth.locks = false) (hq : Q (some (.int (nar t z))) T.heap locs) (hk : cells ≤ k) (hn : slots ≤ n) : GoW p e below s Q k n (T.setTop (mkF m pc Ls (.int z :: rest))) := by
  obtain ⟨fs, hr, hrun, hended, hW, hsame⟩ := X.leave (v := some (.int (nar t z))) (fun h => by rw [hret] at h; cases h) hlk
  exact ⟨_, _, Jvm.RoadKit.retN X hx hret ht hd hr, hrun, hended, _, _, rfl, hq, ⟨_, rfl⟩, hW, hsame.mono hk hn⟩
theorem GoW.retI (X : Stand p l e R s m args below meth c T locs cells slots) (hx : p.tables.exec = Jvm.exec) {pc : Nat} {Ls : Array Slot} {z : Int32} {rest : List Value} (hret : meth.sig.returnType = some .int)
    (hd : decode c.code pc = .ok (.ireturn, 1)) (hlk : meth.locks = false) (hq : Q (some (.int z)) T.heap locs) (hk : cells ≤ k) (hn : slots ≤ n) : GoW p e below s Q k n (T.setTop (mkF m pc Ls (.int z :: rest))) := by
  obtain ⟨fs, hr, hrun, hended, hW, hsame⟩ := X.leave (v := some (.int z)) (fun h => by rw [hret] at h; cases h) hlk
  exact ⟨_, _, Jvm.RoadKit.retI X hx hret hd hr, hrun, hended, _, _, rfl, hq, ⟨_, rfl⟩, hW, hsame.mono hk hn⟩
theorem GoW.retL (X : Stand p l e R s m args below meth c T locs cells slots) (hx : p.tables.exec = Jvm.exec) {pc : Nat} {Ls : Array Slot} {z : Int64} {rest : List Value} (hret : meth.sig.returnType = some .long)
    (hd : decode c.code pc = .ok (.lreturn, 1)) (hlk : meth.locks = false) (hq : Q (some (.long z)) T.heap locs) (hk : cells ≤ k) (hn : slots ≤ n) : GoW p e below s Q k n (T.setTop (mkF m pc Ls (.long z :: rest))) := by
  obtain ⟨fs, hr, hrun, hended, hW, hsame⟩ := X.leave (v := some (.long z)) (fun h => by rw [hret] at h; cases h) hlk
  exact ⟨_, _, retOut X hx hret rfl (Or.inr (Or.inl ⟨rfl, rfl, z, rfl⟩)) hd hr, hrun, hended, _, _, rfl, hq, ⟨_, rfl⟩, hW, hsame.mono hk hn⟩
theorem GoW.retA (X : Stand p l e R s m args below meth c T locs cells slots) (hx : p.tables.exec = Jvm.exec) {pc : Nat} {Ls : Array Slot} {w : Value} {t : FieldType} {rest : List Value} (hret : meth.sig.returnType = some t) (hw : w.isRef = true) (ht : t.isReference = true)
    (hn' : narrow t w = w) (hd : decode c.code pc = .ok (.areturn, 1)) (hlk : meth.locks = false) (hq : Q (some w) T.heap locs) (hk : cells ≤ k) (hn : slots ≤ n) : GoW p e below s Q k n (T.setTop (mkF m pc Ls (w :: rest))) := by
  obtain ⟨fs, hr, hrun, hended, hW, hsame⟩ := X.leave (v := some w) (fun h => by rw [hret] at h; cases h) hlk
  exact ⟨_, _, retOut X hx hret hn' (Or.inr (Or.inr (Or.inr (Or.inr ⟨rfl, ht, hw⟩)))) hd hr, hrun, hended, _, _, rfl, hq, ⟨_, rfl⟩, hW, hsame.mono hk hn⟩
theorem GoW.retV (X : Stand p l e R s m args below meth c T locs cells slots) (hx : p.tables.exec = Jvm.exec) {pc : Nat} {Ls : Array Slot} (hret : meth.sig.returnType = none)
    (hd : decode c.code pc = .ok (.return_, 1)) (hlk : meth.locks = false) (hq : Q none T.heap locs) (hk : cells ≤ k) (hn : slots ≤ n) : GoW p e below s Q k n (T.setTop (mkF m pc Ls [])) := by
  obtain ⟨fs, hr, hrun, hended, hW, hsame⟩ := X.leave (v := none) (fun _ => rfl) hlk
  exact ⟨_, _, X.returnOut hx hret hd hr, hrun, hended, _, _, rfl, hq, ⟨_, rfl⟩, hW, hsame.mono hk hn⟩
theorem hq_ {T : State} {h : Heap} {a : Addr} {c : Cell} (e : T.heap = h) (q : h[a]? = some c) : T.heap[a]? = some c := by rw [e]; exact q
theorem own_b53 (x : Int32) : B53 x.toInt64 := by
  have h := rng32 x
  unfold B53; rw [Int32.toInt_toInt64]; omega
theorem own_eqI {args : Array Value} {first s : State} {o : Option Outcome} {idx : List Nat} {t : Term} {i : Int32} (h : (Jvm.Cond.eq t (.int i)).value args first o s idx = some true) : t.eval args first o idx s = some (.int i) := by
  obtain ⟨x, y, hx, hy, k1, k2⟩ := cmp_v (Or.inl h)
  rw [Term.int_eval] at hy
  cases hy
  obtain ⟨z, rfl⟩ := k2
  have q := gotT (Cond.eq_ints hx (Term.int_eval i)) h
  rw [hx, q]
theorem own_ne {args : Array Value} {first s : State} {o : Option Outcome} {idx : List Nat} {t u : Term} {C n d : String} {i j : Int32} {a b : Addr} (h1 : (Jvm.Cond.eq (.field t C n d) (.int i)).value args first o s idx = some true) (h2 : (Jvm.Cond.eq (.field u C n d) (.int j)).value args first o s idx = some true)
    (ha : t.eval args first o idx s = some (.ref a)) (hb : u.eval args first o idx s = some (.ref b)) (hij : i ≠ j) : a ≠ b := fun e => by
  subst e
  have q1 := own_eqI h1
  have q2 := own_eqI h2
  rw [fld_at ha] at q1
  rw [fld_at hb, q1] at q2
  exact hij (by cases q2; rfl)
theorem own_staK0 {Z : State} {h h' : Heap} {C n d : String} {v : Value} (F : Sta Z h C n d v) (K : Keep h h' []) : Sta Z h' C n d v := by
  obtain ⟨cf, i, k, f, st, cell, h1, h2, h3, h4, h5, r⟩ := F; exact ⟨cf, i, k, f, st, cell, h1, h2, h3, h4, K.2.1 _ _ h5 nin0, r⟩
def NSt (h : Heap) (a : Addr) : Prop := ∀ c : Cell, h[a]? = some c → c.vm.isStatics = false
theorem own_nsE {Z : State} {h : Heap} {a : Addr} {C : String} (E : Exa Z h a C) : NSt h a := fun c hc => by
  obtain ⟨cell2, k2, g1, -, -, g2, -⟩ := E
  cases hc.symm.trans g1
  exact g2
theorem own_nsA {Z : State} {h : Heap} {a : Addr} {k : ClassId} {ty : FieldType} {z : Int32} {vs : List Value} {dv : Value} (A : Arv Z h a k ty z vs dv) : NSt h a := fun c hc => by
  obtain ⟨cl, A, -⟩ := A
  cases hc.symm.trans A.1
  exact A.plain
theorem own_staK {Z : State} {h h' : Heap} {C n d : String} {v : Value} {ws : List Addr} (F : Sta Z h C n d v) (K : Keep h h' ws) (E : ∀ x ∈ ws, NSt h x) : Sta Z h' C n d v := by
  obtain ⟨cf, i, k, f, st, cell, h1, h2, h3, h4, h5, h6, r⟩ := F
  refine ⟨cf, i, k, f, st, cell, h1, h2, h3, h4, K.2.1 _ _ h5 (fun q => ?_), h6, r⟩
  have := E st q cell h5
  rw [h6] at this; cases this
theorem GoW.retD (X : Stand p l e R s m args below meth c T locs cells slots) (hx : p.tables.exec = Jvm.exec) {pc : Nat} {Ls : Array Slot} {z : UInt64} {rest : List Value} (hret : meth.sig.returnType = some .double)
    (hd : decode c.code pc = .ok (.dreturn, 1)) (hlk : meth.locks = false) (hq : Q (some (.double z)) T.heap locs) (hk : cells ≤ k) (hn : slots ≤ n) : GoW p e below s Q k n (T.setTop (mkF m pc Ls (.double z :: rest))) := by
  obtain ⟨fs, hr, hrun, hended, hW, hsame⟩ := X.leave (v := some (.double z)) (fun h => by rw [hret] at h; cases h) hlk
  exact ⟨_, _, retOut X hx hret rfl (Or.inr (Or.inr (Or.inl ⟨rfl, rfl, z, rfl⟩))) hd hr, hrun, hended, _, _, rfl, hq, ⟨_, rfl⟩, hW, hsame.mono hk hn⟩
theorem own_pop2L {tb : Tables} [Ours tb] {e : Env} {below : List Frame} {T target : State} {m : MethodId} {c : Code} {g : JFrame} (h : At T m c below) (hx : tb.exec = Jvm.exec) (hg : g.method = m) {x : Int64} {rest : List Value} (hd : decode c.code g.pc = .ok (.pop2, 1)) (hs : g.stack = .long x :: rest)
    (hr : Steps tb e below (T.setTop { g with pc := g.pc + 1, stack := rest }) target) : Steps tb e below (T.setTop g) target := by
  subst hg
  jvm_step h [h.top, hx, hd, hs, Value.category]
  exact hr
end New
end Jvm.RoadKit
namespace Jvm.Pilot.@@N@@
open Jvm Jvm.ClassFile Sem Op Lib Jvm.Free Jvm.Stand Jvm.LawKit Jvm.RoadKit Bundle Jvm.Pilot.@@N@@.Jvm.D
theorem ww {Z : State} {a0 : Array Value} (hw : ∀ d ∈ tables_1, d.before a0 Z = true) (i : Nat) {d : Jvm.Cond} (h : tables_1[i]? = some d) : d.before a0 Z = true := hw _ (List.mem_of_getElem? h)
theorem pn_java_lang_Integer : plainName "java/lang/Integer" = true := by first | (simp [plainName, overriddenIn]; done) | decide +kernel
theorem d7_0 : decode jdk_33_method_22_code 0 = .ok (.iload_n 0, 1) := by decide +kernel
theorem d7_1 : decode jdk_33_method_22_code 1 = .ok (.bipush (-128), 2) := by decide +kernel
theorem d7_3 : decode jdk_33_method_22_code 3 = .ok (.if_icmp .lt 20, 3) := by decide +kernel
theorem d7_23 : decode jdk_33_method_22_code 23 = .ok (.new 1, 3) := by decide +kernel
theorem d7_26 : decode jdk_33_method_22_code 26 = .ok (.dup, 1) := by decide +kernel
theorem d7_27 : decode jdk_33_method_22_code 27 = .ok (.iload_n 0, 1) := by decide +kernel
theorem d10_0 : decode jdk_33_method_23_code 0 = .ok (.aload_n 0, 1) := by decide +kernel
theorem pn_java_lang_Number : plainName "java/lang/Number" = true := by first | (simp [plainName, overriddenIn]; done) | decide +kernel
theorem d11_0 : decode jdk_18_method_1_code 0 = .ok (.aload_n 0, 1) := by decide +kernel
theorem d11_1 : decode jdk_18_method_1_code 1 = .ok (.invokespecial 1, 3) := by decide +kernel
theorem d11_4 : decode jdk_18_method_1_code 4 = .ok (.return_, 1) := by decide +kernel
theorem pd_2829V : parseMethodDescriptor "()V" = some ⟨[], none⟩ := by decide +kernel
theorem d10_1 : decode jdk_33_method_23_code 1 = .ok (.invokespecial 202, 3) := by decide +kernel
theorem d10_4 : decode jdk_33_method_23_code 4 = .ok (.aload_n 0, 1) := by decide +kernel
theorem d10_5 : decode jdk_33_method_23_code 5 = .ok (.iload_n 1, 1) := by decide +kernel
theorem d10_6 : decode jdk_33_method_23_code 6 = .ok (.putfield 205, 3) := by decide +kernel
theorem d10_9 : decode jdk_33_method_23_code 9 = .ok (.return_, 1) := by decide +kernel
theorem pd_28I29V : parseMethodDescriptor "(I)V" = some ⟨[.int], none⟩ := by decide +kernel
theorem d7_28 : decode jdk_33_method_22_code 28 = .ok (.invokespecial 199, 3) := by decide +kernel
theorem d7_31 : decode jdk_33_method_22_code 31 = .ok (.areturn, 1) := by decide +kernel
theorem d7_6 : decode jdk_33_method_22_code 6 = .ok (.iload_n 0, 1) := by decide +kernel
theorem d7_7 : decode jdk_33_method_22_code 7 = .ok (.getstatic 191, 3) := by decide +kernel
theorem d7_10 : decode jdk_33_method_22_code 10 = .ok (.if_icmp .gt 13, 3) := by decide +kernel
theorem d7_13 : decode jdk_33_method_22_code 13 = .ok (.getstatic 195, 3) := by decide +kernel
theorem d7_16 : decode jdk_33_method_22_code 16 = .ok (.iload_n 0, 1) := by decide +kernel
theorem d7_17 : decode jdk_33_method_22_code 17 = .ok (.sipush 128, 3) := by decide +kernel
theorem d7_20 : decode jdk_33_method_22_code 20 = .ok (.iadd, 1) := by decide +kernel
theorem d7_21 : decode jdk_33_method_22_code 21 = .ok (.aaload, 1) := by decide +kernel
theorem d7_22 : decode jdk_33_method_22_code 22 = .ok (.areturn, 1) := by decide +kernel
theorem pn_java_lang_Long : plainName "java/lang/Long" = true := by first | (simp [plainName, overriddenIn]; done) | decide +kernel
abbrev Sh0 (p0 : Int64) : Array Slot := #[.val (.long p0), .second, .unset]
theorem d8_0 : decode jdk_35_method_24_code 0 = .ok (.sipush 128, 3) := by decide +kernel
theorem d8_3 : decode jdk_35_method_24_code 3 = .ok (.istore_n 2, 1) := by decide +kernel
abbrev Sh1 (p0 : Int64) (p1 : Int32) : Array Slot := #[.val (.long p0), .second, .val (.int p1)]
theorem d8_4 : decode jdk_35_method_24_code 4 = .ok (.lload_n 0, 1) := by decide +kernel
theorem d8_5 : decode jdk_35_method_24_code 5 = .ok (.ldc2_w 230, 3) := by decide +kernel
theorem d8_8 : decode jdk_35_method_24_code 8 = .ok (.lcmp, 1) := by decide +kernel
theorem d8_9 : decode jdk_35_method_24_code 9 = .ok (.ifCond .lt 22, 3) := by decide +kernel
theorem d8_31 : decode jdk_35_method_24_code 31 = .ok (.new 1, 3) := by decide +kernel
theorem d8_34 : decode jdk_35_method_24_code 34 = .ok (.dup, 1) := by decide +kernel
theorem d8_35 : decode jdk_35_method_24_code 35 = .ok (.lload_n 0, 1) := by decide +kernel
abbrev Sh2 (p0 : Addr) (p1 : Int64) : Array Slot := #[.val (.ref p0), .val (.long p1), .second]
theorem d12_0 : decode jdk_35_method_26_code 0 = .ok (.aload_n 0, 1) := by decide +kernel
theorem d12_1 : decode jdk_35_method_26_code 1 = .ok (.invokespecial 270, 3) := by decide +kernel
theorem d12_4 : decode jdk_35_method_26_code 4 = .ok (.aload_n 0, 1) := by decide +kernel
theorem d12_5 : decode jdk_35_method_26_code 5 = .ok (.lload_n 1, 1) := by decide +kernel
theorem d12_6 : decode jdk_35_method_26_code 6 = .ok (.putfield 273, 3) := by decide +kernel
theorem d12_9 : decode jdk_35_method_26_code 9 = .ok (.return_, 1) := by decide +kernel
theorem pd_28J29V : parseMethodDescriptor "(J)V" = some ⟨[.long], none⟩ := by decide +kernel
theorem d8_36 : decode jdk_35_method_24_code 36 = .ok (.invokespecial 240, 3) := by decide +kernel
theorem d8_39 : decode jdk_35_method_24_code 39 = .ok (.areturn, 1) := by decide +kernel
theorem d8_12 : decode jdk_35_method_24_code 12 = .ok (.lload_n 0, 1) := by decide +kernel
theorem d8_13 : decode jdk_35_method_24_code 13 = .ok (.ldc2_w 232, 3) := by decide +kernel
theorem d8_16 : decode jdk_35_method_24_code 16 = .ok (.lcmp, 1) := by decide +kernel
theorem d8_17 : decode jdk_35_method_24_code 17 = .ok (.ifCond .gt 14, 3) := by decide +kernel
theorem d8_20 : decode jdk_35_method_24_code 20 = .ok (.getstatic 234, 3) := by decide +kernel
theorem d8_23 : decode jdk_35_method_24_code 23 = .ok (.lload_n 0, 1) := by decide +kernel
theorem d8_24 : decode jdk_35_method_24_code 24 = .ok (.l2i, 1) := by decide +kernel
theorem d8_25 : decode jdk_35_method_24_code 25 = .ok (.sipush 128, 3) := by decide +kernel
theorem d8_28 : decode jdk_35_method_24_code 28 = .ok (.iadd, 1) := by decide +kernel
theorem d8_29 : decode jdk_35_method_24_code 29 = .ok (.aaload, 1) := by decide +kernel
theorem d8_30 : decode jdk_35_method_24_code 30 = .ok (.areturn, 1) := by decide +kernel
theorem pn_com_example_relaystack_relaystack_CommandLineOncePinLaw : plainName "com/example/relaystack/relaystack/CommandLineOncePinLaw" = true := by first | (simp [plainName, overriddenIn]; done) | decide +kernel
abbrev Sh3 (p0 : Int32) (p1 : Int32) (p2 : Int64) (p3 : Int32) : Array Slot := #[.val (.int p0), .val (.int p1), .val (.long p2), .second, .val (.int p3), .unset, .unset, .unset, .unset, .unset, .unset, .unset, .unset, .unset]
abbrev Sh4 (p0 : Int32) (p1 : Int32) (p2 : Int64) (p3 : Int32) (p4 : Addr) : Array Slot := #[.val (.int p0), .val (.int p1), .val (.long p2), .second, .val (.int p3), .val (.ref p4), .unset, .unset, .unset, .unset, .unset, .unset, .unset, .unset]
theorem pn_java_lang_String : plainName "java/lang/String" = true := by first | (simp [plainName, overriddenIn]; done) | decide +kernel
theorem d1_0 : decode jdk_42_method_3_code 0 = .ok (.aload_n 0, 1) := by decide +kernel
theorem d1_1 : decode jdk_42_method_3_code 1 = .ok (.aload_n 1, 1) := by decide +kernel
theorem d1_2 : decode jdk_42_method_3_code 2 = .ok (.iconst 0, 1) := by decide +kernel
theorem d1_3 : decode jdk_42_method_3_code 3 = .ok (.aload_n 1, 1) := by decide +kernel
theorem d1_4 : decode jdk_42_method_3_code 4 = .ok (.arraylength, 1) := by decide +kernel
theorem d1_5 : decode jdk_42_method_3_code 5 = .ok (.aconst_null, 1) := by decide +kernel
abbrev Sh5 (p0 : Addr) (p1 : Addr) (p2 : Int32) (p3 : Int32) : Array Slot := #[.val (.ref p0), .val (.ref p1), .val (.int p2), .val (.int p3), .val .null, .unset]
theorem d2_0 : decode jdk_42_method_149_code 0 = .ok (.aload_n 0, 1) := by decide +kernel
theorem d2_1 : decode jdk_42_method_149_code 1 = .ok (.invokespecial 1, 3) := by decide +kernel
theorem d2_4 : decode jdk_42_method_149_code 4 = .ok (.iload_n 3, 1) := by decide +kernel
theorem d2_5 : decode jdk_42_method_149_code 5 = .ok (.ifCond .ne 22, 3) := by decide +kernel
theorem d2_27 : decode jdk_42_method_149_code 27 = .ok (.getstatic 38, 3) := by decide +kernel
theorem d2_30 : decode jdk_42_method_149_code 30 = .ok (.ifCond .eq 28, 3) := by decide +kernel
theorem d2_33 : decode jdk_42_method_149_code 33 = .ok (.aload_n 1, 1) := by decide +kernel
theorem d2_34 : decode jdk_42_method_149_code 34 = .ok (.iload_n 2, 1) := by decide +kernel
theorem d2_35 : decode jdk_42_method_149_code 35 = .ok (.iload_n 3, 1) := by decide +kernel
theorem pn_java_lang_StringUTF16 : plainName "java/lang/StringUTF16" = true := by first | (simp [plainName, overriddenIn]; done) | decide +kernel
abbrev Sh6 (p0 : Addr) (p1 : Int32) (p2 : Int32) : Array Slot := #[.val (.ref p0), .val (.int p1), .val (.int p2), .unset, .unset, .unset]
theorem d4_0 : decode jdk_52_method_16_code 0 = .ok (.iload_n 2, 1) := by decide +kernel
theorem d4_1 : decode jdk_52_method_16_code 1 = .ok (.newarray .byte, 2) := by decide +kernel
theorem d4_3 : decode jdk_52_method_16_code 3 = .ok (.astore_n 3, 1) := by decide +kernel
abbrev Sh7 (p0 : Addr) (p1 : Int32) (p2 : Int32) (p3 : Addr) : Array Slot := #[.val (.ref p0), .val (.int p1), .val (.int p2), .val (.ref p3), .unset, .unset]
theorem d4_4 : decode jdk_52_method_16_code 4 = .ok (.aload_n 0, 1) := by decide +kernel
theorem d4_5 : decode jdk_52_method_16_code 5 = .ok (.iload_n 1, 1) := by decide +kernel
theorem d4_6 : decode jdk_52_method_16_code 6 = .ok (.aload_n 3, 1) := by decide +kernel
theorem d4_7 : decode jdk_52_method_16_code 7 = .ok (.iconst 0, 1) := by decide +kernel
theorem d4_8 : decode jdk_52_method_16_code 8 = .ok (.iload_n 2, 1) := by decide +kernel
abbrev Sh8 (p0 : Addr) (p1 : Int32) (p2 : Addr) (p3 : Int32) (p4 : Int32) : Array Slot := #[.val (.ref p0), .val (.int p1), .val (.ref p2), .val (.int p3), .val (.int p4), .unset, .unset]
theorem d5_0 : decode jdk_52_method_21_code 0 = .ok (.iconst 0, 1) := by decide +kernel
theorem d5_1 : decode jdk_52_method_21_code 1 = .ok (.istore 5, 2) := by decide +kernel
abbrev Sh9 (p0 : Addr) (p1 : Int32) (p2 : Addr) (p3 : Int32) (p4 : Int32) (p5 : Int32) : Array Slot := #[.val (.ref p0), .val (.int p1), .val (.ref p2), .val (.int p3), .val (.int p4), .val (.int p5), .unset]
theorem d5_3 : decode jdk_52_method_21_code 3 = .ok (.iload 5, 2) := by decide +kernel
theorem d5_5 : decode jdk_52_method_21_code 5 = .ok (.iload 4, 2) := by decide +kernel
theorem d5_7 : decode jdk_52_method_21_code 7 = .ok (.if_icmp .ge 37, 3) := by decide +kernel
theorem d5_10 : decode jdk_52_method_21_code 10 = .ok (.aload_n 0, 1) := by decide +kernel
theorem d5_11 : decode jdk_52_method_21_code 11 = .ok (.iload_n 1, 1) := by decide +kernel
theorem d5_12 : decode jdk_52_method_21_code 12 = .ok (.caload, 1) := by decide +kernel
theorem d5_13 : decode jdk_52_method_21_code 13 = .ok (.istore 6, 2) := by decide +kernel
abbrev Sh10 (p0 : Addr) (p1 : Int32) (p2 : Addr) (p3 : Int32) (p4 : Int32) (p5 : Int32) (p6 : Int32) : Array Slot := #[.val (.ref p0), .val (.int p1), .val (.ref p2), .val (.int p3), .val (.int p4), .val (.int p5), .val (.int p6)]
theorem d5_15 : decode jdk_52_method_21_code 15 = .ok (.iload 6, 2) := by decide +kernel
theorem d5_17 : decode jdk_52_method_21_code 17 = .ok (.sipush 255, 3) := by decide +kernel
theorem d5_20 : decode jdk_52_method_21_code 20 = .ok (.if_icmp .le 6, 3) := by decide +kernel
theorem d5_26 : decode jdk_52_method_21_code 26 = .ok (.aload_n 2, 1) := by decide +kernel
theorem d5_27 : decode jdk_52_method_21_code 27 = .ok (.iload_n 3, 1) := by decide +kernel
theorem d5_28 : decode jdk_52_method_21_code 28 = .ok (.iload 6, 2) := by decide +kernel
theorem d5_30 : decode jdk_52_method_21_code 30 = .ok (.i2b, 1) := by decide +kernel
theorem d5_31 : decode jdk_52_method_21_code 31 = .ok (.bastore, 1) := by decide +kernel
theorem d5_32 : decode jdk_52_method_21_code 32 = .ok (.iinc 1 1, 3) := by decide +kernel
theorem d5_35 : decode jdk_52_method_21_code 35 = .ok (.iinc 3 1, 3) := by decide +kernel
theorem d5_38 : decode jdk_52_method_21_code 38 = .ok (.iinc 5 1, 3) := by decide +kernel
theorem d5_41 : decode jdk_52_method_21_code 41 = .ok (.goto (-38), 3) := by decide +kernel
theorem d5_44 : decode jdk_52_method_21_code 44 = .ok (.iload 4, 2) := by decide +kernel
theorem d5_46 : decode jdk_52_method_21_code 46 = .ok (.ireturn, 1) := by decide +kernel
theorem pd_285bCI5bBII29I : parseMethodDescriptor "([CI[BII)I" = some ⟨[(.array .char), .int, (.array .byte), .int, .int], some .int⟩ := by decide +kernel
theorem d4_9 : decode jdk_52_method_16_code 9 = .ok (.invokestatic 115, 3) := by decide +kernel
theorem d4_12 : decode jdk_52_method_16_code 12 = .ok (.istore 4, 2) := by decide +kernel
abbrev Sh11 (p0 : Addr) (p1 : Int32) (p2 : Int32) (p3 : Addr) (p4 : Int32) : Array Slot := #[.val (.ref p0), .val (.int p1), .val (.int p2), .val (.ref p3), .val (.int p4), .unset]
theorem d4_14 : decode jdk_52_method_16_code 14 = .ok (.iload 4, 2) := by decide +kernel
theorem d4_16 : decode jdk_52_method_16_code 16 = .ok (.iload_n 2, 1) := by decide +kernel
theorem d4_17 : decode jdk_52_method_16_code 17 = .ok (.if_icmp .eq 40, 3) := by decide +kernel
theorem d4_57 : decode jdk_52_method_16_code 57 = .ok (.aload_n 3, 1) := by decide +kernel
theorem d4_58 : decode jdk_52_method_16_code 58 = .ok (.areturn, 1) := by decide +kernel
theorem pd_285bCII295bB : parseMethodDescriptor "([CII)[B" = some ⟨[(.array .char), .int, .int], some (.array .byte)⟩ := by decide +kernel
theorem d2_36 : decode jdk_42_method_149_code 36 = .ok (.invokestatic 177, 3) := by decide +kernel
theorem d2_39 : decode jdk_42_method_149_code 39 = .ok (.astore 5, 2) := by decide +kernel
abbrev Sh12 (p0 : Addr) (p1 : Addr) (p2 : Int32) (p3 : Int32) (p4 : Addr) : Array Slot := #[.val (.ref p0), .val (.ref p1), .val (.int p2), .val (.int p3), .val .null, .val (.ref p4)]
theorem d2_41 : decode jdk_42_method_149_code 41 = .ok (.aload_n 0, 1) := by decide +kernel
theorem d2_42 : decode jdk_42_method_149_code 42 = .ok (.aload 5, 2) := by decide +kernel
theorem d2_44 : decode jdk_42_method_149_code 44 = .ok (.iload_n 3, 1) := by decide +kernel
theorem d6_0 : decode jdk_52_method_15_code 0 = .ok (.iload_n 1, 1) := by decide +kernel
theorem d6_1 : decode jdk_52_method_15_code 1 = .ok (.aload_n 0, 1) := by decide +kernel
theorem d6_2 : decode jdk_52_method_15_code 2 = .ok (.arraylength, 1) := by decide +kernel
theorem d6_3 : decode jdk_52_method_15_code 3 = .ok (.isub, 1) := by decide +kernel
theorem d6_4 : decode jdk_52_method_15_code 4 = .ok (.bipush 31, 2) := by decide +kernel
theorem d6_6 : decode jdk_52_method_15_code 6 = .ok (.iushr, 1) := by decide +kernel
theorem d6_7 : decode jdk_52_method_15_code 7 = .ok (.i2b, 1) := by decide +kernel
theorem d6_8 : decode jdk_52_method_15_code 8 = .ok (.ireturn, 1) := by decide +kernel
theorem pd_285bBI29B : parseMethodDescriptor "([BI)B" = some ⟨[(.array .byte), .int], some .byte⟩ := by decide +kernel
theorem d2_45 : decode jdk_42_method_149_code 45 = .ok (.invokestatic 47, 3) := by decide +kernel
theorem d2_48 : decode jdk_42_method_149_code 48 = .ok (.putfield 15, 3) := by decide +kernel
theorem d2_51 : decode jdk_42_method_149_code 51 = .ok (.aload_n 0, 1) := by decide +kernel
theorem d2_52 : decode jdk_42_method_149_code 52 = .ok (.aload 5, 2) := by decide +kernel
theorem d2_54 : decode jdk_42_method_149_code 54 = .ok (.putfield 9, 3) := by decide +kernel
theorem d2_57 : decode jdk_42_method_149_code 57 = .ok (.return_, 1) := by decide +kernel
theorem pd_285bCIILjava2flang2fVoid3b29V : parseMethodDescriptor "([CIILjava/lang/Void;)V" = some ⟨[(.array .char), .int, .int, (.object "java/lang/Void")], none⟩ := by decide +kernel
theorem d1_6 : decode jdk_42_method_3_code 6 = .ok (.invokespecial 27, 3) := by decide +kernel
theorem d1_9 : decode jdk_42_method_3_code 9 = .ok (.return_, 1) := by decide +kernel
theorem pd_285bC29V : parseMethodDescriptor "([C)V" = some ⟨[(.array .char)], none⟩ := by decide +kernel
abbrev Sh13 (p0 : Int32) (p1 : Int32) (p2 : Int64) (p3 : Int32) (p4 : Addr) (p5 : Addr) : Array Slot := #[.val (.int p0), .val (.int p1), .val (.long p2), .second, .val (.int p3), .val (.ref p4), .val (.ref p5), .unset, .unset, .unset, .unset, .unset, .unset, .unset]
theorem pd_28I29Ljava2flang2fInteger3b : parseMethodDescriptor "(I)Ljava/lang/Integer;" = some ⟨[.int], some (.object "java/lang/Integer")⟩ := by decide +kernel
abbrev Sh14 (p0 : Int32) (p1 : Int32) (p2 : Int64) (p3 : Int32) (p4 : Addr) (p5 : Addr) (p6 : Addr) : Array Slot := #[.val (.int p0), .val (.int p1), .val (.long p2), .second, .val (.int p3), .val (.ref p4), .val (.ref p5), .val (.ref p6), .unset, .unset, .unset, .unset, .unset, .unset]
theorem pd_28J29Ljava2flang2fLong3b : parseMethodDescriptor "(J)Ljava/lang/Long;" = some ⟨[.long], some (.object "java/lang/Long")⟩ := by decide +kernel
abbrev Sh15 (p0 : Int32) (p1 : Int32) (p2 : Int64) (p3 : Int32) (p4 : Addr) (p5 : Addr) (p6 : Addr) (p7 : Addr) : Array Slot := #[.val (.int p0), .val (.int p1), .val (.long p2), .second, .val (.int p3), .val (.ref p4), .val (.ref p5), .val (.ref p6), .val (.ref p7), .unset, .unset, .unset, .unset, .unset]
theorem pn_com_example_relaystack_relaystack_CommandLine : plainName "com/example/relaystack/relaystack/CommandLine" = true := by first | (simp [plainName, overriddenIn]; done) | decide +kernel
abbrev Sh16 (p0 : Addr) (p1 : Addr) : Array Slot := #[.val (.ref p0), .val .null, .val (.ref p1)]
theorem d9_0 : decode prog_7_method_3_code 0 = .ok (.aload_n 1, 1) := by decide +kernel
theorem d9_1 : decode prog_7_method_3_code 1 = .ok (.ifnull 17, 3) := by decide +kernel
theorem d9_18 : decode prog_7_method_3_code 18 = .ok (.aload_n 2, 1) := by decide +kernel
theorem d9_19 : decode prog_7_method_3_code 19 = .ok (.areturn, 1) := by decide +kernel
theorem pd_28Ljava2flang2fString3bLjava2flang2fObject3bLjava2flang2fObject3b29Ljava2flang2fObject3b : parseMethodDescriptor "(Ljava/lang/String;Ljava/lang/Object;Ljava/lang/Object;)Ljava/lang/Object;" = some ⟨[(.object "java/lang/String"), (.object "java/lang/Object"), (.object "java/lang/Object")], some (.object "java/lang/Object")⟩ := by decide +kernel
abbrev Sh17 (p0 : Int32) (p1 : Int32) (p2 : Int64) (p3 : Int32) (p4 : Addr) (p5 : Addr) (p6 : Addr) (p7 : Addr) (p8 : Addr) : Array Slot := #[.val (.int p0), .val (.int p1), .val (.long p2), .second, .val (.int p3), .val (.ref p4), .val (.ref p5), .val (.ref p6), .val (.ref p7), .val (.ref p8), .unset, .unset, .unset, .unset]
abbrev Sh18 (p0 : Int32) (p1 : Int32) (p2 : Int64) (p3 : Int32) (p4 : Addr) (p5 : Addr) (p6 : Addr) (p7 : Addr) (p8 : Addr) (p9 : Addr) : Array Slot := #[.val (.int p0), .val (.int p1), .val (.long p2), .second, .val (.int p3), .val (.ref p4), .val (.ref p5), .val (.ref p6), .val (.ref p7), .val (.ref p8), .val (.ref p9), .unset, .unset, .unset]
abbrev Sh19 (p0 : Int32) (p1 : Int32) (p2 : Int64) (p3 : Int32) (p4 : Addr) (p5 : Addr) (p6 : Addr) (p7 : Addr) (p8 : Addr) (p9 : Addr) (p10 : Int32) : Array Slot := #[.val (.int p0), .val (.int p1), .val (.long p2), .second, .val (.int p3), .val (.ref p4), .val (.ref p5), .val (.ref p6), .val (.ref p7), .val (.ref p8), .val (.ref p9), .val (.int p10), .unset, .unset]
abbrev Sh20 (p0 : Int32) (p1 : Int32) (p2 : Int64) (p3 : Int32) (p4 : Addr) (p5 : Addr) (p6 : Addr) (p7 : Addr) (p8 : Addr) (p9 : Addr) (p10 : Int32) (p11 : Addr) : Array Slot := #[.val (.int p0), .val (.int p1), .val (.long p2), .second, .val (.int p3), .val (.ref p4), .val (.ref p5), .val (.ref p6), .val (.ref p7), .val (.ref p8), .val (.ref p9), .val (.int p10), .val (.ref p11), .unset]
abbrev Sh21 (p0 : Int32) (p1 : Int32) (p2 : Int64) (p3 : Int32) (p4 : Addr) (p5 : Addr) (p6 : Addr) (p7 : Addr) (p8 : Addr) (p9 : Addr) (p10 : Int32) (p11 : Addr) (p12 : Addr) : Array Slot := #[.val (.int p0), .val (.int p1), .val (.long p2), .second, .val (.int p3), .val (.ref p4), .val (.ref p5), .val (.ref p6), .val (.ref p7), .val (.ref p8), .val (.ref p9), .val (.int p10), .val (.ref p11), .val (.ref p12)]
abbrev Sh22 (p0 : Int32) (p1 : Int32) (p2 : Int64) (p3 : Int32) (p4 : Addr) (p5 : Addr) (p6 : Addr) (p7 : Addr) (p8 : Addr) (p9 : Addr) (p10 : Int32) : Array Slot := #[.val (.int p0), .val (.int p1), .val (.long p2), .second, .val (.int p3), .val (.ref p4), .val (.ref p5), .val (.ref p6), .val (.ref p7), .val (.ref p8), .val (.ref p9), .val (.int p10), .val .null, .unset]
abbrev Sh23 (p0 : Addr) : Array Slot := #[.val (.ref p0), .val .null, .val .null]
abbrev Sh24 (p0 : Int32) (p1 : Int32) (p2 : Int64) (p3 : Int32) (p4 : Addr) (p5 : Addr) (p6 : Addr) (p7 : Addr) (p8 : Addr) (p9 : Addr) (p10 : Int32) : Array Slot := #[.val (.int p0), .val (.int p1), .val (.long p2), .second, .val (.int p3), .val (.ref p4), .val (.ref p5), .val (.ref p6), .val (.ref p7), .val (.ref p8), .val (.ref p9), .val (.int p10), .val .null, .val .null]
def Box (Z : State) (h : Heap) (a : Addr) (C : String) : Prop := ∃ cl : Cell, Arr Z h a cl (.object C) ∧ cl.slots.size = 256 ∧ ∀ j : Int32, ¬ j < 0 → j < 256 → ∃ r, cl.slots[j.toNatClampNeg]? = some (.ref r) ∧ Exa Z h r C
theorem Box.ext {Z : State} {h h' : Heap} {a : Addr} {C : String} (B : Box Z h a C) (E : Ext h h') : Box Z h' a C := by
  obtain ⟨cl, A, q, H⟩ := B
  exact ⟨cl, A.ext E, q, fun j h1 h2 => by obtain ⟨r, e, x⟩ := H j h1 h2; exact ⟨r, e, x.ext E⟩⟩
theorem own_len {s : State} {args : Array Value} {t : Term} {a : Addr} {cl : Cell} {z : Int32} (ev : t.eval args s none [] s = some (.ref a)) (ha : s.arrayAt? a = some cl) (hl : (Jvm.Cond.eq (.length t) (.int z)).value args s none s [] = some true) : cl.slots.size < 2 ^ 31 ∧ cl.slots.size.toInt32 = z := by
  have hl' := own_eqI hl
  have hsz : cl.slots.size < 2 ^ 31 := by
    apply Classical.byContradiction
    intro hs
    simp [Term.eval, ev, ha, hs] at hl'
  rw [len_f ev ha hsz] at hl'
  exact ⟨hsz, Value.int.inj (Option.some.inj hl')⟩
theorem Box.start {s : State} {args : Array Value} {t : Term} {C n2 d2 : String} {u : Term} {a : Addr} {cl : Cell} (ev : ∀ idx, t.eval args s none idx s = some (.ref a)) (A : Arr s s.heap a cl (.object C)) (hl : (Jvm.Cond.eq (.length t) (.int 256)).value args s none s [] = some true)
    (hall : (Jvm.Cond.all t (.and (.exactly (.elem t (.index 0)) C) (.eq (.field (.elem t (.index 0)) C n2 d2) u))).value args s none s [] = some true) : Box s s.heap a C := by
  have ha : s.arrayAt? a = some cl := A.fin (Vm.Alike.refl _)
  obtain ⟨hsz, he⟩ := own_len (ev []) ha hl
  have hn : cl.slots.size = 256 := by
    have q := len_toInt hsz
    have e2 : cl.slots.size.toInt32.toInt = (256 : Int32).toInt := congrArg Int32.toInt he
    have e3 : (256 : Int32).toInt = 256 := rfl
    change cl.slots.size.toInt32.toInt = (cl.slots.size : Int) at q
    omega
  refine ⟨cl, A, hn, fun j h1 h2 => ?_⟩
  have hj : j.toNatClampNeg < cl.slots.size := by
    have q := inb_of (c := cl) (z := 256) (j := j) hn ⟨h1, h2⟩
    exact Nat.lt_of_not_le fun y => q (Or.inr y)
  obtain ⟨m1, -⟩ := and_e (Cond.all_elim (ev []) ha hall _ hj)
  obtain ⟨r, er⟩ := exa_v m1
  refine ⟨r, ?_, exa_at er m1⟩
  rw [elem_f (ev _) (idx_at h1) ha h1] at er
  exact er
theorem own_ci (q : Int32) (h1 : ¬ q < (-128 : Int32)) (h2 : ¬ (127 : Int32) < q) : ¬ (q + (128 : Int32)) < 0 ∧ (q + (128 : Int32)) < 256 := by
  have a := c_iadd q 128
  have r := rng32 (q + 128)
  rw [Int32.lt_iff_toInt_lt] at h1 h2 ⊢
  rw [Int32.lt_iff_toInt_lt]
  have e1 : (-128 : Int32).toInt = -128 := by decide
  have e2 : (127 : Int32).toInt = 127 := by decide
  have e3 : (128 : Int32).toInt = 128 := by decide
  have e4 : (256 : Int32).toInt = 256 := by decide
  have e5 : (0 : Int32).toInt = 0 := by decide
  rw [e1] at h1; rw [e2] at h2; rw [e3] at a; rw [e4, e5]; omega
theorem own_cl (q : Int64) (h1 : ¬ q < (-128 : Int64)) (h2 : ¬ (127 : Int64) < q) : ¬ (q.toInt32 + (128 : Int32)) < 0 ∧ (q.toInt32 + (128 : Int32)) < 256 := by
  have a := c_l2i q
  have r := rng32 q.toInt32
  rw [Int64.lt_iff_toInt_lt] at h1 h2
  have e1 : (-128 : Int64).toInt = -128 := by decide
  have e2 : (127 : Int64).toInt = 127 := by decide
  rw [e1] at h1; rw [e2] at h2
  have e3 : (-128 : Int32).toInt = -128 := by decide
  have e4 : (127 : Int32).toInt = 127 := by decide
  exact own_ci q.toInt32 (by rw [Int32.lt_iff_toInt_lt, e3]; omega) (by rw [Int32.lt_iff_toInt_lt, e4]; omega)
theorem own_ch (x : Int32) : ¬ ((255 : Int32) < nar .char (x &&& (255 : Int32)).toUInt32.toUInt16.toUInt32.toInt32) := by
  rw [i2c_mask]
  show ¬ ((255 : Int32) < (x &&& (255 : Int32)).toUInt32.toUInt16.toUInt32.toInt32)
  rw [i2c_mask, Int32.lt_iff_toInt_lt]
  have h := c_and x 255 (by decide)
  have e : (255 : Int32).toInt = 255 := by decide
  omega
def QB (Z : State) (C : String) (h0 : Heap) (n0 : Nat) (v : Option Value) (h : Heap) (L : List Loc) : Prop := ∃ r : Addr, v = some (.ref r) ∧ Fr n0 L ∧ Keep h0 h [] ∧ Exa Z h r C
def Q11_1 (Z : State) (a1 : Addr) (a2 : Addr) (h0 : Heap) (n0 : Nat) (v : Option Value) (h : Heap) (L : List Loc) : Prop := v = none ∧ Fr n0 L ∧ (h = h0)
theorem ef11_rm11_1 (m : MethodId) (a1 : Addr) : entryFrame m #[(.ref a1)] 1 = (mkF m 0 #[.val (.ref a1)] []) := by first | (simp [entryFrame, mkF, argsToLocals, Value.category, maxLocals]; done) | rfl
set_option maxRecDepth 65536 in
set_option maxHeartbeats 40000000 in
theorem rm11_1 (l : Launch) (Z : State) (a0 : Array Value) (hw : ∀ d ∈ tables_1, d.before a0 Z = true) (ws : List Jvm.Cond) (a1 : Addr) (a2 : Addr) (h0 : Heap) (n0 : Nat) (P0 : Exa Z h0 a1 "java/lang/Integer") (P1 : Fld Z h0 a1 "java/lang/Integer" "value" "I" (.int (0 : Int32))) (P2 : Sta Z h0 "java/lang/Integer$IntegerCache" "cache" "[Ljava/lang/Integer;" (.ref a2)) (P3 : Sta Z h0 "java/lang/Integer$IntegerCache" "high" "I" (.int (127 : Int32)))     :
    MetFree l (⟨"java/lang/Number", "<init>", "()V"⟩ : MethodName) (head1 (Jvm.Cond.code (⟨"java/lang/Number", "<init>", "()V"⟩ : MethodName) jdk_18_method_1_code 1 none :: ws) ({ frames := 1, cells := 0, slots := 0, locals := 12 } : Room)) (fun a U => a = #[(.ref a1)] ∧ Z.Warmed39 U.vm ∧ U.heap = h0) (fun _ _ _ _ _ => True) (fun _ U o U' => ∃ v L, o = .returned v ∧ (Q11_1 Z a1 a2 h0 n0) v U'.heap L ∧ FrameEnd U o U' L 0 0) := by
  refine MetFree.of_bodySF (plainFor_of_name pn_java_lang_Number) hisR ?_
  intro p e s m args below meth c s₁ Bd hml0 hP hK
  obtain ⟨rfl, hZ, hh⟩ := hP
  have hx := Bd.exec
  have hby := Bd.bytes
  have hml : c.maxLocals = 1 := hml0
  have hown : s.vm.findClass "java/lang/Number" = some m.cls := findClass_of_methodNamed Bd.named
  have hnm := (name_of_methodNamed Bd.named Bd.method).1
  have X0 : Stand p l e ({ frames := 1, cells := 0, slots := 0, locals := 12 } : Room) s m #[(.ref a1)] below meth c s₁ [] 0 0 := Stand.of_body Bd
  have e0 : s₁.heap = h0 := by rw [← hh, Bd.state]; rfl
  have N0 := Fr.nil n0
  refine GoW.mk ?_
  refine GoW.st (fun t k => castTop (ef11_rm11_1 m a1) k) ?_
  show GoW p e below s (Q11_1 Z a1 a2 h0 n0) 0 0 (s₁.setTop (mkF m 0 #[.val (.ref a1)] []))
  refine GoW.sg (mkF m 1 #[.val (.ref a1)] [(.ref a1)]) (fun t k => XS.aloadN X0.here hx rfl (hb hby d11_0) rfl rfl k) ?_
  obtain ⟨T4, X4, e4, st4⟩ := initO X0 hx hZ hown (ww hw 64 rfl) (ww hw 12 rfl) (ww hw 13 rfl) e0 (g := (mkF m 1 #[.val (.ref a1)] [(.ref a1)])) rfl (by rw [hml]; rfl) rfl (hb hby d11_1) (by decide) (W := 0) (by show 2 * 0 + _ ≤ _; exact Nat.le_of_eq rfl) (by decide)
  refine GoW.sg (mkF m 4 #[.val (.ref a1)] []) (fun t k => st4 t k) ?_
  refine GoW.retV X4 hx Bd.returns (hb hby d11_4) Bd.notSynchronized ?_ (by decide) (by decide)
  rw [e4]
  exact ⟨rfl, N0, rfl⟩
def Q10_2 (Z : State) (a1 : Addr) (x2 : Int32) (a3 : Addr) (h0 : Heap) (n0 : Nat) (v : Option Value) (h : Heap) (L : List Loc) : Prop := v = none ∧ Fr n0 L ∧ (Keep h0 h [a1]) ∧ (Exa Z h a1 "java/lang/Integer") ∧ (Fld Z h a1 "java/lang/Integer" "value" "I" (.int x2))
theorem ef10_rm10_2 (m : MethodId) (a1 : Addr) (x2 : Int32) : entryFrame m #[(.ref a1), (.int x2)] 2 = (mkF m 0 #[.val (.ref a1), .val (.int x2)] []) := by first | (simp [entryFrame, mkF, argsToLocals, Value.category, maxLocals]; done) | rfl
set_option maxRecDepth 65536 in
set_option maxHeartbeats 40000000 in
theorem rm10_2 (l : Launch) (Z : State) (a0 : Array Value) (hw : ∀ d ∈ tables_1, d.before a0 Z = true) (ws : List Jvm.Cond) (a1 : Addr) (x2 : Int32) (a3 : Addr) (h0 : Heap) (n0 : Nat) (P0 : Exa Z h0 a1 "java/lang/Integer") (P1 : Fld Z h0 a1 "java/lang/Integer" "value" "I" (.int (0 : Int32))) (P2 : Sta Z h0 "java/lang/Integer$IntegerCache" "cache" "[Ljava/lang/Integer;" (.ref a3)) (P3 : Sta Z h0 "java/lang/Integer$IntegerCache" "high" "I" (.int (127 : Int32))) (g_a1 : n0 ≤ a1)  (u0 : x2 < (-128 : Int32))  :
    MetFree l (⟨"java/lang/Integer", "<init>", "(I)V"⟩ : MethodName) (head1 (Jvm.Cond.code (⟨"java/lang/Integer", "<init>", "(I)V"⟩ : MethodName) jdk_33_method_23_code 2 none :: ws) ({ frames := 2, cells := 0, slots := 0, locals := 24 } : Room)) (fun a U => a = #[(.ref a1), (.int x2)] ∧ Z.Warmed39 U.vm ∧ U.heap = h0) (fun _ _ _ _ _ => True) (fun _ U o U' => ∃ v L, o = .returned v ∧ (Q10_2 Z a1 x2 a3 h0 n0) v U'.heap L ∧ FrameEnd U o U' L 0 0) := by
  refine MetFree.of_bodySF (plainFor_of_name pn_java_lang_Integer) hisR ?_
  intro p e s m args below meth c s₁ Bd hml0 hP hK
  obtain ⟨rfl, hZ, hh⟩ := hP
  have hx := Bd.exec
  have hby := Bd.bytes
  have hml : c.maxLocals = 2 := hml0
  have hown : s.vm.findClass "java/lang/Integer" = some m.cls := findClass_of_methodNamed Bd.named
  have hnm := (name_of_methodNamed Bd.named Bd.method).1
  have X0 : Stand p l e ({ frames := 2, cells := 0, slots := 0, locals := 24 } : Room) s m #[(.ref a1), (.int x2)] below meth c s₁ [] 0 0 := Stand.of_body Bd
  have e0 : s₁.heap = h0 := by rw [← hh, Bd.state]; rfl
  have N0 := Fr.nil n0
  refine GoW.mk ?_
  refine GoW.st (fun t k => castTop (ef10_rm10_2 m a1 x2) k) ?_
  show GoW p e below s (Q10_2 Z a1 x2 a3 h0 n0) 0 0 (s₁.setTop (mkF m 0 #[.val (.ref a1), .val (.int x2)] []))
  refine GoW.sg (mkF m 1 #[.val (.ref a1), .val (.int x2)] [(.ref a1)]) (fun t k => XS.aloadN X0.here hx rfl (hb hby d10_0) rfl rfl k) ?_
  obtain ⟨_, _, ⟨T7, L7, k7, n7⟩, -, X7, ⟨Lc7, hQ7, l7, y7, z7⟩, st7⟩ := X0.specialBack hx (y := (⟨"java/lang/Number", "<init>", "()V"⟩ : MethodName)) rfl hown (mvT hZ (ww hw 58 rfl)) (mvT hZ (ww hw 59 rfl)) (mvT hZ (ww hw 63 rfl)) (by decide) (backOf (W := 0) (rm11_1 l Z a0 hw [] a1 a3 h0 n0  P0 P1 P2 P3    ) hZ (ww hw 63 rfl) (ww hw 62 rfl) (by decide) (by decide)) (g := (mkF m 1 #[.val (.ref a1), .val (.int x2)] [(.ref a1)])) rfl (by rw [hml]; rfl) (Steps.refl _) (a := a1) (argsL := []) (rest := []) (lenOf pd_2829V rfl) rfl (by show 2 * 0 + _ ≤ _; exact Nat.le_of_eq rfl) (hb hby d10_1) (fun _ _ => ⟨rfl, e0, (by decide : 0 + 0 ≤ _), (by decide : 0 + 0 ≤ _)⟩)
  dsimp only [Pt.U, Pt.locs, Pt.cells, Pt.slots] at X7 l7 y7 z7 st7 hQ7
  subst l7 y7 z7
  obtain ⟨rfl, N7q, e7⟩ := hQ7
  have N7 := Fr.app N0 N7q
  refine GoW.sg (mkF m 4 #[.val (.ref a1), .val (.int x2)] []) (fun t k => st7.trans k) ?_
  refine GoW.sg (mkF m 5 #[.val (.ref a1), .val (.int x2)] [(.ref a1)]) (fun t k => XS.aloadN X7.here hx rfl (hb hby d10_4) rfl rfl k) ?_
  refine GoW.sg (mkF m 6 #[.val (.ref a1), .val (.int x2)] [(.int x2), (.ref a1)]) (fun t k => XS.iloadN X7.here hx rfl (hb hby d10_5) rfl k) ?_
  obtain ⟨T8, h8, X8, e8, W8, st8⟩ := putF X7 hx hZ hown (host := "") (Or.inl (ww hw 65 rfl)) Via.refl e7 P1 P0 (Or.inr ⟨(ww hw 66 rfl), rfl, hnm⟩) (ww hw 54 rfl) (ty := .int) (by decide) rfl rfl (g := (mkF m 6 #[.val (.ref a1), .val (.int x2)] [(.int x2), (.ref a1)])) rfl rfl (hb hby d10_6)
  have N8 := Fr.snoc X8 N7 g_a1
  have Exa_a1_8 : Exa Z h8 a1 "java/lang/Integer" := P0.wr W8
  have Sta_java_lang_Integer_IntegerCache_cache_8 : Sta Z h8 "java/lang/Integer$IntegerCache" "cache" "[Ljava/lang/Integer;" (.ref a3) := P2.wr W8
  have Sta_java_lang_Integer_IntegerCache_high_8 : Sta Z h8 "java/lang/Integer$IntegerCache" "high" "I" (.int (127 : Int32)) := P3.wr W8
  have Keep_8 : Keep h0 h8 [a1] := (Keep.refl h0 [a1]).wr W8 (Or.inl (List.mem_of_getElem? (i := 0) rfl))
  have Fld_a1_value_8 : Fld Z h8 a1 "java/lang/Integer" "value" "I" (.int x2) := P1.same W8
  refine GoW.sg (mkF m 9 #[.val (.ref a1), .val (.int x2)] []) (fun t k => st8 t k) ?_
  refine GoW.retV X8 hx Bd.returns (hb hby d10_9) Bd.notSynchronized ?_ (by decide) (by decide)
  rw [e8]
  exact ⟨rfl, N8, Keep_8, Exa_a1_8, Fld_a1_value_8⟩
def Q10_3 (Z : State) (a1 : Addr) (x2 : Int32) (a3 : Addr) (h0 : Heap) (n0 : Nat) (v : Option Value) (h : Heap) (L : List Loc) : Prop := v = none ∧ Fr n0 L ∧ (Keep h0 h [a1]) ∧ (Exa Z h a1 "java/lang/Integer") ∧ (Fld Z h a1 "java/lang/Integer" "value" "I" (.int x2))
theorem ef10_rm10_3 (m : MethodId) (a1 : Addr) (x2 : Int32) : entryFrame m #[(.ref a1), (.int x2)] 2 = (mkF m 0 #[.val (.ref a1), .val (.int x2)] []) := by first | (simp [entryFrame, mkF, argsToLocals, Value.category, maxLocals]; done) | rfl
set_option maxRecDepth 65536 in
set_option maxHeartbeats 40000000 in
theorem rm10_3 (l : Launch) (Z : State) (a0 : Array Value) (hw : ∀ d ∈ tables_1, d.before a0 Z = true) (ws : List Jvm.Cond) (a1 : Addr) (x2 : Int32) (a3 : Addr) (h0 : Heap) (n0 : Nat) (P0 : Exa Z h0 a1 "java/lang/Integer") (P1 : Fld Z h0 a1 "java/lang/Integer" "value" "I" (.int (0 : Int32))) (P2 : Sta Z h0 "java/lang/Integer$IntegerCache" "cache" "[Ljava/lang/Integer;" (.ref a3)) (P3 : Sta Z h0 "java/lang/Integer$IntegerCache" "high" "I" (.int (127 : Int32))) (g_a1 : n0 ≤ a1)  (u0 : ¬ (x2 < (-128 : Int32))) (u1 : (127 : Int32) < x2)  :
    MetFree l (⟨"java/lang/Integer", "<init>", "(I)V"⟩ : MethodName) (head1 (Jvm.Cond.code (⟨"java/lang/Integer", "<init>", "(I)V"⟩ : MethodName) jdk_33_method_23_code 2 none :: ws) ({ frames := 2, cells := 0, slots := 0, locals := 24 } : Room)) (fun a U => a = #[(.ref a1), (.int x2)] ∧ Z.Warmed39 U.vm ∧ U.heap = h0) (fun _ _ _ _ _ => True) (fun _ U o U' => ∃ v L, o = .returned v ∧ (Q10_3 Z a1 x2 a3 h0 n0) v U'.heap L ∧ FrameEnd U o U' L 0 0) := by
  refine MetFree.of_bodySF (plainFor_of_name pn_java_lang_Integer) hisR ?_
  intro p e s m args below meth c s₁ Bd hml0 hP hK
  obtain ⟨rfl, hZ, hh⟩ := hP
  have hx := Bd.exec
  have hby := Bd.bytes
  have hml : c.maxLocals = 2 := hml0
  have hown : s.vm.findClass "java/lang/Integer" = some m.cls := findClass_of_methodNamed Bd.named
  have hnm := (name_of_methodNamed Bd.named Bd.method).1
  have X0 : Stand p l e ({ frames := 2, cells := 0, slots := 0, locals := 24 } : Room) s m #[(.ref a1), (.int x2)] below meth c s₁ [] 0 0 := Stand.of_body Bd
  have e0 : s₁.heap = h0 := by rw [← hh, Bd.state]; rfl
  have N0 := Fr.nil n0
  refine GoW.mk ?_
  refine GoW.st (fun t k => castTop (ef10_rm10_3 m a1 x2) k) ?_
  show GoW p e below s (Q10_3 Z a1 x2 a3 h0 n0) 0 0 (s₁.setTop (mkF m 0 #[.val (.ref a1), .val (.int x2)] []))
  refine GoW.sg (mkF m 1 #[.val (.ref a1), .val (.int x2)] [(.ref a1)]) (fun t k => XS.aloadN X0.here hx rfl (hb hby d10_0) rfl rfl k) ?_
  obtain ⟨_, _, ⟨T15, L15, k15, n15⟩, -, X15, ⟨Lc15, hQ15, l15, y15, z15⟩, st15⟩ := X0.specialBack hx (y := (⟨"java/lang/Number", "<init>", "()V"⟩ : MethodName)) rfl hown (mvT hZ (ww hw 58 rfl)) (mvT hZ (ww hw 59 rfl)) (mvT hZ (ww hw 63 rfl)) (by decide) (backOf (W := 0) (rm11_1 l Z a0 hw [] a1 a3 h0 n0  P0 P1 P2 P3    ) hZ (ww hw 63 rfl) (ww hw 62 rfl) (by decide) (by decide)) (g := (mkF m 1 #[.val (.ref a1), .val (.int x2)] [(.ref a1)])) rfl (by rw [hml]; rfl) (Steps.refl _) (a := a1) (argsL := []) (rest := []) (lenOf pd_2829V rfl) rfl (by show 2 * 0 + _ ≤ _; exact Nat.le_of_eq rfl) (hb hby d10_1) (fun _ _ => ⟨rfl, e0, (by decide : 0 + 0 ≤ _), (by decide : 0 + 0 ≤ _)⟩)
  dsimp only [Pt.U, Pt.locs, Pt.cells, Pt.slots] at X15 l15 y15 z15 st15 hQ15
  subst l15 y15 z15
  obtain ⟨rfl, N15q, e15⟩ := hQ15
  have N15 := Fr.app N0 N15q
  refine GoW.sg (mkF m 4 #[.val (.ref a1), .val (.int x2)] []) (fun t k => st15.trans k) ?_
  refine GoW.sg (mkF m 5 #[.val (.ref a1), .val (.int x2)] [(.ref a1)]) (fun t k => XS.aloadN X15.here hx rfl (hb hby d10_4) rfl rfl k) ?_
  refine GoW.sg (mkF m 6 #[.val (.ref a1), .val (.int x2)] [(.int x2), (.ref a1)]) (fun t k => XS.iloadN X15.here hx rfl (hb hby d10_5) rfl k) ?_
  obtain ⟨T16, h16, X16, e16, W16, st16⟩ := putF X15 hx hZ hown (host := "") (Or.inl (ww hw 65 rfl)) Via.refl e15 P1 P0 (Or.inr ⟨(ww hw 66 rfl), rfl, hnm⟩) (ww hw 54 rfl) (ty := .int) (by decide) rfl rfl (g := (mkF m 6 #[.val (.ref a1), .val (.int x2)] [(.int x2), (.ref a1)])) rfl rfl (hb hby d10_6)
  have N16 := Fr.snoc X16 N15 g_a1
  have Exa_a1_16 : Exa Z h16 a1 "java/lang/Integer" := P0.wr W16
  have Sta_java_lang_Integer_IntegerCache_cache_16 : Sta Z h16 "java/lang/Integer$IntegerCache" "cache" "[Ljava/lang/Integer;" (.ref a3) := P2.wr W16
  have Sta_java_lang_Integer_IntegerCache_high_16 : Sta Z h16 "java/lang/Integer$IntegerCache" "high" "I" (.int (127 : Int32)) := P3.wr W16
  have Keep_16 : Keep h0 h16 [a1] := (Keep.refl h0 [a1]).wr W16 (Or.inl (List.mem_of_getElem? (i := 0) rfl))
  have Fld_a1_value_16 : Fld Z h16 a1 "java/lang/Integer" "value" "I" (.int x2) := P1.same W16
  refine GoW.sg (mkF m 9 #[.val (.ref a1), .val (.int x2)] []) (fun t k => st16 t k) ?_
  refine GoW.retV X16 hx Bd.returns (hb hby d10_9) Bd.notSynchronized ?_ (by decide) (by decide)
  rw [e16]
  exact ⟨rfl, N16, Keep_16, Exa_a1_16, Fld_a1_value_16⟩
theorem ef7_rmVI (m : MethodId) (q1 : Int32) : entryFrame m #[(.int q1)] 1 = (mkF m 0 #[.val (.int q1)] []) := by first | (simp [entryFrame, mkF, argsToLocals, Value.category, maxLocals]; done) | rfl
set_option maxRecDepth 65536 in
set_option maxHeartbeats 40000000 in
theorem rmVI (l : Launch) (Z : State) (a0 : Array Value) (hw : ∀ d ∈ tables_1, d.before a0 Z = true) (ws : List Jvm.Cond) (q1 : Int32) (aI : Addr) (h0 : Heap) (n0 : Nat) (Z0 : n0 ≤ h0.size) (P1 : Sta Z h0 "java/lang/Integer$IntegerCache" "cache" "[Ljava/lang/Integer;" (.ref aI)) (P0 : Sta Z h0 "java/lang/Integer$IntegerCache" "high" "I" (.int (127 : Int32))) (BX : Box Z h0 aI "java/lang/Integer") :
    MetFree l (⟨"java/lang/Integer", "valueOf", "(I)Ljava/lang/Integer;"⟩ : MethodName) (head1 (Jvm.Cond.code (⟨"java/lang/Integer", "valueOf", "(I)Ljava/lang/Integer;"⟩ : MethodName) jdk_33_method_22_code 1 (some (.object "java/lang/Integer")) :: ws) ({ frames := 3, cells := 1, slots := 1, locals := 38 } : Room)) (fun a U => a = #[(.int q1)] ∧ Z.Warmed39 U.vm ∧ U.heap = h0) (fun _ _ _ _ _ => True) (fun _ U o U' => ∃ v L, o = .returned v ∧ (QB Z "java/lang/Integer" h0 n0) v U'.heap L ∧ FrameEnd U o U' L 1 1) := by
  refine MetFree.of_bodySF (plainFor_of_name pn_java_lang_Integer) hisR ?_
  intro p e s m args below meth c s₁ Bd hml0 hP hK
  obtain ⟨rfl, hZ, hh⟩ := hP
  have hx := Bd.exec
  have hby := Bd.bytes
  have hml : c.maxLocals = 1 := hml0
  have hown : s.vm.findClass "java/lang/Integer" = some m.cls := findClass_of_methodNamed Bd.named
  have hnm := (name_of_methodNamed Bd.named Bd.method).1
  have X0 : Stand p l e ({ frames := 3, cells := 1, slots := 1, locals := 38 } : Room) s m #[(.int q1)] below meth c s₁ [] 0 0 := Stand.of_body Bd
  have e0 : s₁.heap = h0 := by rw [← hh, Bd.state]; rfl
  have N0 := Fr.nil n0
  refine GoW.mk ?_
  refine GoW.st (fun t k => castTop (ef7_rmVI m q1) k) ?_
  show GoW p e below s (QB Z "java/lang/Integer" h0 n0) 1 1 (s₁.setTop (mkF m 0 #[.val (.int q1)] []))
  refine GoW.sg (mkF m 1 #[.val (.int q1)] [(.int q1)]) (fun t k => XS.iloadN X0.here hx rfl (hb hby d7_0) rfl k) ?_
  refine GoW.sg (mkF m 3 #[.val (.int q1)] [(.int (-128)), (.int q1)]) (fun t k => XS.bipush X0.here hx rfl (hb hby d7_1) k) ?_
  by_cases c1 : q1 < (-128 : Int32)
  · refine GoW.sg (mkF m 23 #[.val (.int q1)] []) (fun t k => XS.icmpYes X0.here hx rfl (pc0 := 3) (pc' := 23) rfl (hb hby d7_3) rfl (tlt c1).1 (by decide) (by decide) k) ?_
    obtain ⟨T2, h2, X2, e2, E2, A2, D2, -, st2⟩ := newO X0 hx hZ hown (ww hw 53 rfl) (ww hw 54 rfl) (ww hw 32 rfl) e0 (g := (mkF m 23 #[.val (.int q1)] [])) rfl (hb hby d7_23) (by decide) (by decide)
    obtain ⟨b2, g2⟩ : ∃ z, z = h0.size := ⟨_, rfl⟩
    rw [← g2] at A2 D2 st2
    have g_b2 : n0 ≤ b2 := Nat.le_trans Z0 (Nat.le_of_eq g2.symm)
    have sz_b2 : h0.size ≤ b2 := Nat.le_trans (Keep.refl h0 []).1 (Nat.le_of_eq g2.symm)
    have Zs_2 : n0 ≤ h2.size := Nat.le_trans Z0 E2.1
    have Keep_2 : Keep h0 h2 [] := (Keep.refl h0 []).ext E2
    have Sta_java_lang_Integer_IntegerCache_cache_2 : Sta Z h2 "java/lang/Integer$IntegerCache" "cache" "[Ljava/lang/Integer;" (.ref aI) := P1.ext E2
    have Sta_java_lang_Integer_IntegerCache_high_2 : Sta Z h2 "java/lang/Integer$IntegerCache" "high" "I" (.int (127 : Int32)) := P0.ext E2
    have Fld_b2_value_2 : Fld Z h2 b2 "java/lang/Integer" "value" "I" (.int (0 : Int32)) := D2 (Or.inr (ww hw 66 rfl)) (ty := .int) (by decide)
    refine GoW.sg (mkF m 26 #[.val (.int q1)] [(.ref b2)]) (fun t k => st2 t k) ?_
    refine GoW.sg (mkF m 27 #[.val (.int q1)] [(.ref b2), (.ref b2)]) (fun t k => XS.dup X2.here hx rfl (hb hby d7_26) rfl rfl k) ?_
    refine GoW.sg (mkF m 28 #[.val (.int q1)] [(.int q1), (.ref b2), (.ref b2)]) (fun t k => XS.iloadN X2.here hx rfl (hb hby d7_27) rfl k) ?_
    obtain ⟨_, _, ⟨T9, L9, k9, n9⟩, -, X9, ⟨Lc9, hQ9, l9, y9, z9⟩, st9⟩ := X2.specialBack hx (y := (⟨"java/lang/Integer", "<init>", "(I)V"⟩ : MethodName)) rfl hown (mvT hZ (ww hw 55 rfl)) (mvT hZ (ww hw 56 rfl)) (mvT hZ (ww hw 57 rfl)) (by decide) (backOf (W := 1) (rm10_2 l Z a0 hw [] b2 q1 aI h2 n0  A2 Fld_b2_value_2 Sta_java_lang_Integer_IntegerCache_cache_2 Sta_java_lang_Integer_IntegerCache_high_2 g_b2  c1 ) hZ (ww hw 57 rfl) (ww hw 32 rfl) (by decide) (by decide)) (g := (mkF m 28 #[.val (.int q1)] [(.int q1), (.ref b2), (.ref b2)])) rfl (by rw [hml]; rfl) (Steps.refl _) (a := b2) (argsL := [(.int q1)]) (rest := [(.ref b2)]) (lenOf pd_28I29V rfl) rfl (by show 2 * 0 + _ ≤ _; exact Nat.le_of_eq rfl) (hb hby d7_28) (fun _ _ => ⟨rfl, e2, (by decide : 1 + 0 ≤ _), (by decide : 1 + 0 ≤ _)⟩)
    dsimp only [Pt.U, Pt.locs, Pt.cells, Pt.slots] at X9 l9 y9 z9 st9 hQ9
    subst l9 y9 z9
    obtain ⟨rfl, N9q, K9, p9_0, p9_1⟩ := hQ9
    have N9 := Fr.app N0 N9q
    have Zs_9 : n0 ≤ T9.heap.size := Nat.le_trans Zs_2 K9.1
    have Keep_9 : Keep h0 T9.heap [] := Keep_2.trans K9 (allS (Or.inr sz_b2) all0)
    have Sta_java_lang_Integer_IntegerCache_cache_9 : Sta Z T9.heap "java/lang/Integer$IntegerCache" "cache" "[Ljava/lang/Integer;" (.ref aI) := own_staK Sta_java_lang_Integer_IntegerCache_cache_2 K9 (allS (own_nsE A2) all0)
    have Sta_java_lang_Integer_IntegerCache_high_9 : Sta Z T9.heap "java/lang/Integer$IntegerCache" "high" "I" (.int (127 : Int32)) := own_staK Sta_java_lang_Integer_IntegerCache_high_2 K9 (allS (own_nsE A2) all0)
    refine GoW.sg (mkF m 31 #[.val (.int q1)] [(.ref b2)]) (fun t k => st9.trans k) ?_
    refine GoW.retA X9 hx Bd.returns rfl rfl rfl (hb hby d7_31) Bd.notSynchronized ?_ (by decide) (by decide)
    exact ⟨b2, rfl, N9, Keep_9, p9_0⟩
  · refine GoW.sg (mkF m 6 #[.val (.int q1)] []) (fun t k => XS.icmpNo X0.here hx rfl (hb hby d7_3) rfl (flt c1).1 k) ?_
    refine GoW.sg (mkF m 7 #[.val (.int q1)] [(.int q1)]) (fun t k => XS.iloadN X0.here hx rfl (hb hby d7_6) rfl k) ?_
    obtain ⟨T10, X10, e10, st10⟩ := getS (host := "") X0 hx hZ hown (ww hw 34 rfl) Via.refl e0 P0 (g := (mkF m 7 #[.val (.int q1)] [(.int q1)])) rfl (hb hby d7_7)
    refine GoW.sg (mkF m 10 #[.val (.int q1)] [(.int 127), (.int q1)]) (fun t k => st10 t k) ?_
    by_cases c11 : (127 : Int32) < q1
    · refine GoW.sg (mkF m 23 #[.val (.int q1)] []) (fun t k => XS.icmpYes X10.here hx rfl (pc0 := 10) (pc' := 23) rfl (hb hby d7_10) rfl (tlt c11).2.2.1 (by decide) (by decide) k) ?_
      obtain ⟨T12, h12, X12, e12, E12, A12, D12, -, st12⟩ := newO X10 hx hZ hown (ww hw 53 rfl) (ww hw 54 rfl) (ww hw 32 rfl) e10 (g := (mkF m 23 #[.val (.int q1)] [])) rfl (hb hby d7_23) (by decide) (by decide)
      obtain ⟨b12, g12⟩ : ∃ z, z = h0.size := ⟨_, rfl⟩
      rw [← g12] at A12 D12 st12
      have g_b12 : n0 ≤ b12 := Nat.le_trans Z0 (Nat.le_of_eq g12.symm)
      have sz_b12 : h0.size ≤ b12 := Nat.le_trans (Keep.refl h0 []).1 (Nat.le_of_eq g12.symm)
      have Zs_12 : n0 ≤ h12.size := Nat.le_trans Z0 E12.1
      have Keep_12 : Keep h0 h12 [] := (Keep.refl h0 []).ext E12
      have Sta_java_lang_Integer_IntegerCache_cache_12 : Sta Z h12 "java/lang/Integer$IntegerCache" "cache" "[Ljava/lang/Integer;" (.ref aI) := P1.ext E12
      have Sta_java_lang_Integer_IntegerCache_high_12 : Sta Z h12 "java/lang/Integer$IntegerCache" "high" "I" (.int (127 : Int32)) := P0.ext E12
      have Fld_b12_value_12 : Fld Z h12 b12 "java/lang/Integer" "value" "I" (.int (0 : Int32)) := D12 (Or.inr (ww hw 66 rfl)) (ty := .int) (by decide)
      refine GoW.sg (mkF m 26 #[.val (.int q1)] [(.ref b12)]) (fun t k => st12 t k) ?_
      refine GoW.sg (mkF m 27 #[.val (.int q1)] [(.ref b12), (.ref b12)]) (fun t k => XS.dup X12.here hx rfl (hb hby d7_26) rfl rfl k) ?_
      refine GoW.sg (mkF m 28 #[.val (.int q1)] [(.int q1), (.ref b12), (.ref b12)]) (fun t k => XS.iloadN X12.here hx rfl (hb hby d7_27) rfl k) ?_
      obtain ⟨_, _, ⟨T17, L17, k17, n17⟩, -, X17, ⟨Lc17, hQ17, l17, y17, z17⟩, st17⟩ := X12.specialBack hx (y := (⟨"java/lang/Integer", "<init>", "(I)V"⟩ : MethodName)) rfl hown (mvT hZ (ww hw 55 rfl)) (mvT hZ (ww hw 56 rfl)) (mvT hZ (ww hw 57 rfl)) (by decide) (backOf (W := 1) (rm10_3 l Z a0 hw [] b12 q1 aI h12 n0  A12 Fld_b12_value_12 Sta_java_lang_Integer_IntegerCache_cache_12 Sta_java_lang_Integer_IntegerCache_high_12 g_b12  c1 c11 ) hZ (ww hw 57 rfl) (ww hw 32 rfl) (by decide) (by decide)) (g := (mkF m 28 #[.val (.int q1)] [(.int q1), (.ref b12), (.ref b12)])) rfl (by rw [hml]; rfl) (Steps.refl _) (a := b12) (argsL := [(.int q1)]) (rest := [(.ref b12)]) (lenOf pd_28I29V rfl) rfl (by show 2 * 0 + _ ≤ _; exact Nat.le_of_eq rfl) (hb hby d7_28) (fun _ _ => ⟨rfl, e12, (by decide : 1 + 0 ≤ _), (by decide : 1 + 0 ≤ _)⟩)
      dsimp only [Pt.U, Pt.locs, Pt.cells, Pt.slots] at X17 l17 y17 z17 st17 hQ17
      subst l17 y17 z17
      obtain ⟨rfl, N17q, K17, p17_0, p17_1⟩ := hQ17
      have N17 := Fr.app N0 N17q
      have Zs_17 : n0 ≤ T17.heap.size := Nat.le_trans Zs_12 K17.1
      have Keep_17 : Keep h0 T17.heap [] := Keep_12.trans K17 (allS (Or.inr sz_b12) all0)
      have Sta_java_lang_Integer_IntegerCache_cache_17 : Sta Z T17.heap "java/lang/Integer$IntegerCache" "cache" "[Ljava/lang/Integer;" (.ref aI) := own_staK Sta_java_lang_Integer_IntegerCache_cache_12 K17 (allS (own_nsE A12) all0)
      have Sta_java_lang_Integer_IntegerCache_high_17 : Sta Z T17.heap "java/lang/Integer$IntegerCache" "high" "I" (.int (127 : Int32)) := own_staK Sta_java_lang_Integer_IntegerCache_high_12 K17 (allS (own_nsE A12) all0)
      refine GoW.sg (mkF m 31 #[.val (.int q1)] [(.ref b12)]) (fun t k => st17.trans k) ?_
      refine GoW.retA X17 hx Bd.returns rfl rfl rfl (hb hby d7_31) Bd.notSynchronized ?_ (by decide) (by decide)
      exact ⟨b12, rfl, N17, Keep_17, p17_0⟩
    · refine GoW.sg (mkF m 13 #[.val (.int q1)] []) (fun t k => XS.icmpNo X10.here hx rfl (hb hby d7_10) rfl (flt c11).2.2.1 k) ?_
      obtain ⟨T18, X18, e18, st18⟩ := getS (host := "") X10 hx hZ hown (ww hw 36 rfl) Via.refl e10 P1 (g := (mkF m 13 #[.val (.int q1)] [])) rfl (hb hby d7_13)
      refine GoW.sg (mkF m 16 #[.val (.int q1)] [(.ref aI)]) (fun t k => st18 t k) ?_
      refine GoW.sg (mkF m 17 #[.val (.int q1)] [(.int q1), (.ref aI)]) (fun t k => XS.iloadN X18.here hx rfl (hb hby d7_16) rfl k) ?_
      refine GoW.sg (mkF m 20 #[.val (.int q1)] [(.int 128), (.int q1), (.ref aI)]) (fun t k => XS.sipush X18.here hx rfl (hb hby d7_17) k) ?_
      refine GoW.sg (mkF m 21 #[.val (.int q1)] [(.int (q1 + (128 : Int32))), (.ref aI)]) (fun t k => XS.iadd X18.here hx rfl (hb hby d7_20) rfl k) ?_
      have hj19 := own_ci q1 c1 c11
      obtain ⟨cl19, Ar19, Sz19, Hh19⟩ := id BX
      have hin19 : ¬ ((q1 + (128 : Int32)) < 0 ∨ cl19.slots.size ≤ ((q1 + (128 : Int32))).toNatClampNeg) := inb_of (z := 256) Sz19 hj19
      obtain ⟨r19, he19, Er19⟩ := Hh19 _ hj19.1 hj19.2
      refine GoW.sg (mkF m 22 #[.val (.int q1)] [(.ref r19)]) (fun t k => X18.aaload hx (j := (q1 + (128 : Int32))) (v := (.ref r19)) (hq_ e18 Ar19.1) (State.isArrayOf_alike hZ.alike Ar19.2.1) rfl Ar19.2.2 hin19 he19 (g := (mkF m 21 #[.val (.int q1)] [(.int (q1 + (128 : Int32))), (.ref aI)])) rfl rfl (hb hby d7_21) t k) ?_
      refine GoW.retA X18 hx Bd.returns rfl rfl rfl (hb hby d7_22) Bd.notSynchronized ?_ (by decide) (by decide)
      rw [e18]
      exact ⟨r19, rfl, N0, (Keep.refl h0 []), Er19⟩
def Q11_4 (Z : State) (a1 : Addr) (a2 : Addr) (h0 : Heap) (n0 : Nat) (v : Option Value) (h : Heap) (L : List Loc) : Prop := v = none ∧ Fr n0 L ∧ (h = h0)
theorem ef11_rm11_4 (m : MethodId) (a1 : Addr) : entryFrame m #[(.ref a1)] 1 = (mkF m 0 #[.val (.ref a1)] []) := by first | (simp [entryFrame, mkF, argsToLocals, Value.category, maxLocals]; done) | rfl
set_option maxRecDepth 65536 in
set_option maxHeartbeats 40000000 in
theorem rm11_4 (l : Launch) (Z : State) (a0 : Array Value) (hw : ∀ d ∈ tables_1, d.before a0 Z = true) (ws : List Jvm.Cond) (a1 : Addr) (a2 : Addr) (h0 : Heap) (n0 : Nat) (P0 : Exa Z h0 a1 "java/lang/Long") (P1 : Fld Z h0 a1 "java/lang/Long" "value" "J" (.long (0 : Int64))) (P2 : Sta Z h0 "java/lang/Long$LongCache" "cache" "[Ljava/lang/Long;" (.ref a2))     :
    MetFree l (⟨"java/lang/Number", "<init>", "()V"⟩ : MethodName) (head1 (Jvm.Cond.code (⟨"java/lang/Number", "<init>", "()V"⟩ : MethodName) jdk_18_method_1_code 1 none :: ws) ({ frames := 1, cells := 0, slots := 0, locals := 12 } : Room)) (fun a U => a = #[(.ref a1)] ∧ Z.Warmed39 U.vm ∧ U.heap = h0) (fun _ _ _ _ _ => True) (fun _ U o U' => ∃ v L, o = .returned v ∧ (Q11_4 Z a1 a2 h0 n0) v U'.heap L ∧ FrameEnd U o U' L 0 0) := by
  refine MetFree.of_bodySF (plainFor_of_name pn_java_lang_Number) hisR ?_
  intro p e s m args below meth c s₁ Bd hml0 hP hK
  obtain ⟨rfl, hZ, hh⟩ := hP
  have hx := Bd.exec
  have hby := Bd.bytes
  have hml : c.maxLocals = 1 := hml0
  have hown : s.vm.findClass "java/lang/Number" = some m.cls := findClass_of_methodNamed Bd.named
  have hnm := (name_of_methodNamed Bd.named Bd.method).1
  have X0 : Stand p l e ({ frames := 1, cells := 0, slots := 0, locals := 12 } : Room) s m #[(.ref a1)] below meth c s₁ [] 0 0 := Stand.of_body Bd
  have e0 : s₁.heap = h0 := by rw [← hh, Bd.state]; rfl
  have N0 := Fr.nil n0
  refine GoW.mk ?_
  refine GoW.st (fun t k => castTop (ef11_rm11_4 m a1) k) ?_
  show GoW p e below s (Q11_4 Z a1 a2 h0 n0) 0 0 (s₁.setTop (mkF m 0 #[.val (.ref a1)] []))
  refine GoW.sg (mkF m 1 #[.val (.ref a1)] [(.ref a1)]) (fun t k => XS.aloadN X0.here hx rfl (hb hby d11_0) rfl rfl k) ?_
  obtain ⟨T23, X23, e23, st23⟩ := initO X0 hx hZ hown (ww hw 64 rfl) (ww hw 12 rfl) (ww hw 13 rfl) e0 (g := (mkF m 1 #[.val (.ref a1)] [(.ref a1)])) rfl (by rw [hml]; rfl) rfl (hb hby d11_1) (by decide) (W := 0) (by show 2 * 0 + _ ≤ _; exact Nat.le_of_eq rfl) (by decide)
  refine GoW.sg (mkF m 4 #[.val (.ref a1)] []) (fun t k => st23 t k) ?_
  refine GoW.retV X23 hx Bd.returns (hb hby d11_4) Bd.notSynchronized ?_ (by decide) (by decide)
  rw [e23]
  exact ⟨rfl, N0, rfl⟩
def Q12_5 (Z : State) (a1 : Addr) (x2 : Int64) (a3 : Addr) (h0 : Heap) (n0 : Nat) (v : Option Value) (h : Heap) (L : List Loc) : Prop := v = none ∧ Fr n0 L ∧ (Keep h0 h [a1]) ∧ (Exa Z h a1 "java/lang/Long") ∧ (Fld Z h a1 "java/lang/Long" "value" "J" (.long x2))
theorem ef12_rm12_5 (m : MethodId) (a1 : Addr) (x2 : Int64) : entryFrame m #[(.ref a1), (.long x2)] 3 = (mkF m 0 #[.val (.ref a1), .val (.long x2), .second] []) := by first | (simp [entryFrame, mkF, argsToLocals, Value.category, maxLocals]; done) | rfl
set_option maxRecDepth 65536 in
set_option maxHeartbeats 40000000 in
theorem rm12_5 (l : Launch) (Z : State) (a0 : Array Value) (hw : ∀ d ∈ tables_1, d.before a0 Z = true) (ws : List Jvm.Cond) (a1 : Addr) (x2 : Int64) (a3 : Addr) (h0 : Heap) (n0 : Nat) (P0 : Exa Z h0 a1 "java/lang/Long") (P1 : Fld Z h0 a1 "java/lang/Long" "value" "J" (.long (0 : Int64))) (P2 : Sta Z h0 "java/lang/Long$LongCache" "cache" "[Ljava/lang/Long;" (.ref a3)) (g_a1 : n0 ≤ a1)  (u0 : x2 < (-128 : Int64))  :
    MetFree l (⟨"java/lang/Long", "<init>", "(J)V"⟩ : MethodName) (head1 (Jvm.Cond.code (⟨"java/lang/Long", "<init>", "(J)V"⟩ : MethodName) jdk_35_method_26_code 3 none :: ws) ({ frames := 2, cells := 0, slots := 0, locals := 24 } : Room)) (fun a U => a = #[(.ref a1), (.long x2)] ∧ Z.Warmed39 U.vm ∧ U.heap = h0) (fun _ _ _ _ _ => True) (fun _ U o U' => ∃ v L, o = .returned v ∧ (Q12_5 Z a1 x2 a3 h0 n0) v U'.heap L ∧ FrameEnd U o U' L 0 0) := by
  refine MetFree.of_bodySF (plainFor_of_name pn_java_lang_Long) hisR ?_
  intro p e s m args below meth c s₁ Bd hml0 hP hK
  obtain ⟨rfl, hZ, hh⟩ := hP
  have hx := Bd.exec
  have hby := Bd.bytes
  have hml : c.maxLocals = 3 := hml0
  have hown : s.vm.findClass "java/lang/Long" = some m.cls := findClass_of_methodNamed Bd.named
  have hnm := (name_of_methodNamed Bd.named Bd.method).1
  have X0 : Stand p l e ({ frames := 2, cells := 0, slots := 0, locals := 24 } : Room) s m #[(.ref a1), (.long x2)] below meth c s₁ [] 0 0 := Stand.of_body Bd
  have e0 : s₁.heap = h0 := by rw [← hh, Bd.state]; rfl
  have N0 := Fr.nil n0
  refine GoW.mk ?_
  refine GoW.st (fun t k => castTop (ef12_rm12_5 m a1 x2) k) ?_
  show GoW p e below s (Q12_5 Z a1 x2 a3 h0 n0) 0 0 (s₁.setTop (mkF m 0 (Sh2 a1 x2) []))
  refine GoW.sg (mkF m 1 (Sh2 a1 x2) [(.ref a1)]) (fun t k => XS.aloadN X0.here hx rfl (hb hby d12_0) rfl rfl k) ?_
  obtain ⟨_, _, ⟨T26, L26, k26, n26⟩, -, X26, ⟨Lc26, hQ26, l26, y26, z26⟩, st26⟩ := X0.specialBack hx (y := (⟨"java/lang/Number", "<init>", "()V"⟩ : MethodName)) rfl hown (mvT hZ (ww hw 72 rfl)) (mvT hZ (ww hw 59 rfl)) (mvT hZ (ww hw 63 rfl)) (by decide) (backOf (W := 0) (rm11_4 l Z a0 hw [] a1 a3 h0 n0  P0 P1 P2    ) hZ (ww hw 63 rfl) (ww hw 62 rfl) (by decide) (by decide)) (g := (mkF m 1 (Sh2 a1 x2) [(.ref a1)])) rfl (by rw [hml]; rfl) (Steps.refl _) (a := a1) (argsL := []) (rest := []) (lenOf pd_2829V rfl) rfl (by show 2 * 0 + _ ≤ _; exact Nat.le_of_eq rfl) (hb hby d12_1) (fun _ _ => ⟨rfl, e0, (by decide : 0 + 0 ≤ _), (by decide : 0 + 0 ≤ _)⟩)
  dsimp only [Pt.U, Pt.locs, Pt.cells, Pt.slots] at X26 l26 y26 z26 st26 hQ26
  subst l26 y26 z26
  obtain ⟨rfl, N26q, e26⟩ := hQ26
  have N26 := Fr.app N0 N26q
  refine GoW.sg (mkF m 4 (Sh2 a1 x2) []) (fun t k => st26.trans k) ?_
  refine GoW.sg (mkF m 5 (Sh2 a1 x2) [(.ref a1)]) (fun t k => XS.aloadN X26.here hx rfl (hb hby d12_4) rfl rfl k) ?_
  refine GoW.sg (mkF m 6 (Sh2 a1 x2) [(.long x2), (.ref a1)]) (fun t k => XS.lloadN X26.here hx rfl (hb hby d12_5) rfl k) ?_
  obtain ⟨T27, h27, X27, e27, W27, st27⟩ := putF X26 hx hZ hown (host := "") (Or.inl (ww hw 74 rfl)) Via.refl e26 P1 P0 (Or.inr ⟨(ww hw 75 rfl), rfl, hnm⟩) (ww hw 68 rfl) (ty := .long) (by decide) rfl rfl (g := (mkF m 6 (Sh2 a1 x2) [(.long x2), (.ref a1)])) rfl rfl (hb hby d12_6)
  have N27 := Fr.snoc X27 N26 g_a1
  have Exa_a1_27 : Exa Z h27 a1 "java/lang/Long" := P0.wr W27
  have Sta_java_lang_Long_LongCache_cache_27 : Sta Z h27 "java/lang/Long$LongCache" "cache" "[Ljava/lang/Long;" (.ref a3) := P2.wr W27
  have Keep_27 : Keep h0 h27 [a1] := (Keep.refl h0 [a1]).wr W27 (Or.inl (List.mem_of_getElem? (i := 0) rfl))
  have Fld_a1_value_27 : Fld Z h27 a1 "java/lang/Long" "value" "J" (.long x2) := P1.same W27
  refine GoW.sg (mkF m 9 (Sh2 a1 x2) []) (fun t k => st27 t k) ?_
  refine GoW.retV X27 hx Bd.returns (hb hby d12_9) Bd.notSynchronized ?_ (by decide) (by decide)
  rw [e27]
  exact ⟨rfl, N27, Keep_27, Exa_a1_27, Fld_a1_value_27⟩
def Q12_6 (Z : State) (a1 : Addr) (x2 : Int64) (a3 : Addr) (h0 : Heap) (n0 : Nat) (v : Option Value) (h : Heap) (L : List Loc) : Prop := v = none ∧ Fr n0 L ∧ (Keep h0 h [a1]) ∧ (Exa Z h a1 "java/lang/Long") ∧ (Fld Z h a1 "java/lang/Long" "value" "J" (.long x2))
theorem ef12_rm12_6 (m : MethodId) (a1 : Addr) (x2 : Int64) : entryFrame m #[(.ref a1), (.long x2)] 3 = (mkF m 0 #[.val (.ref a1), .val (.long x2), .second] []) := by first | (simp [entryFrame, mkF, argsToLocals, Value.category, maxLocals]; done) | rfl
set_option maxRecDepth 65536 in
set_option maxHeartbeats 40000000 in
theorem rm12_6 (l : Launch) (Z : State) (a0 : Array Value) (hw : ∀ d ∈ tables_1, d.before a0 Z = true) (ws : List Jvm.Cond) (a1 : Addr) (x2 : Int64) (a3 : Addr) (h0 : Heap) (n0 : Nat) (P0 : Exa Z h0 a1 "java/lang/Long") (P1 : Fld Z h0 a1 "java/lang/Long" "value" "J" (.long (0 : Int64))) (P2 : Sta Z h0 "java/lang/Long$LongCache" "cache" "[Ljava/lang/Long;" (.ref a3)) (g_a1 : n0 ≤ a1)  (u0 : ¬ (x2 < (-128 : Int64))) (u1 : (127 : Int64) < x2)  :
    MetFree l (⟨"java/lang/Long", "<init>", "(J)V"⟩ : MethodName) (head1 (Jvm.Cond.code (⟨"java/lang/Long", "<init>", "(J)V"⟩ : MethodName) jdk_35_method_26_code 3 none :: ws) ({ frames := 2, cells := 0, slots := 0, locals := 24 } : Room)) (fun a U => a = #[(.ref a1), (.long x2)] ∧ Z.Warmed39 U.vm ∧ U.heap = h0) (fun _ _ _ _ _ => True) (fun _ U o U' => ∃ v L, o = .returned v ∧ (Q12_6 Z a1 x2 a3 h0 n0) v U'.heap L ∧ FrameEnd U o U' L 0 0) := by
  refine MetFree.of_bodySF (plainFor_of_name pn_java_lang_Long) hisR ?_
  intro p e s m args below meth c s₁ Bd hml0 hP hK
  obtain ⟨rfl, hZ, hh⟩ := hP
  have hx := Bd.exec
  have hby := Bd.bytes
  have hml : c.maxLocals = 3 := hml0
  have hown : s.vm.findClass "java/lang/Long" = some m.cls := findClass_of_methodNamed Bd.named
  have hnm := (name_of_methodNamed Bd.named Bd.method).1
  have X0 : Stand p l e ({ frames := 2, cells := 0, slots := 0, locals := 24 } : Room) s m #[(.ref a1), (.long x2)] below meth c s₁ [] 0 0 := Stand.of_body Bd
  have e0 : s₁.heap = h0 := by rw [← hh, Bd.state]; rfl
  have N0 := Fr.nil n0
  refine GoW.mk ?_
  refine GoW.st (fun t k => castTop (ef12_rm12_6 m a1 x2) k) ?_
  show GoW p e below s (Q12_6 Z a1 x2 a3 h0 n0) 0 0 (s₁.setTop (mkF m 0 (Sh2 a1 x2) []))
  refine GoW.sg (mkF m 1 (Sh2 a1 x2) [(.ref a1)]) (fun t k => XS.aloadN X0.here hx rfl (hb hby d12_0) rfl rfl k) ?_
  obtain ⟨_, _, ⟨T33, L33, k33, n33⟩, -, X33, ⟨Lc33, hQ33, l33, y33, z33⟩, st33⟩ := X0.specialBack hx (y := (⟨"java/lang/Number", "<init>", "()V"⟩ : MethodName)) rfl hown (mvT hZ (ww hw 72 rfl)) (mvT hZ (ww hw 59 rfl)) (mvT hZ (ww hw 63 rfl)) (by decide) (backOf (W := 0) (rm11_4 l Z a0 hw [] a1 a3 h0 n0  P0 P1 P2    ) hZ (ww hw 63 rfl) (ww hw 62 rfl) (by decide) (by decide)) (g := (mkF m 1 (Sh2 a1 x2) [(.ref a1)])) rfl (by rw [hml]; rfl) (Steps.refl _) (a := a1) (argsL := []) (rest := []) (lenOf pd_2829V rfl) rfl (by show 2 * 0 + _ ≤ _; exact Nat.le_of_eq rfl) (hb hby d12_1) (fun _ _ => ⟨rfl, e0, (by decide : 0 + 0 ≤ _), (by decide : 0 + 0 ≤ _)⟩)
  dsimp only [Pt.U, Pt.locs, Pt.cells, Pt.slots] at X33 l33 y33 z33 st33 hQ33
  subst l33 y33 z33
  obtain ⟨rfl, N33q, e33⟩ := hQ33
  have N33 := Fr.app N0 N33q
  refine GoW.sg (mkF m 4 (Sh2 a1 x2) []) (fun t k => st33.trans k) ?_
  refine GoW.sg (mkF m 5 (Sh2 a1 x2) [(.ref a1)]) (fun t k => XS.aloadN X33.here hx rfl (hb hby d12_4) rfl rfl k) ?_
  refine GoW.sg (mkF m 6 (Sh2 a1 x2) [(.long x2), (.ref a1)]) (fun t k => XS.lloadN X33.here hx rfl (hb hby d12_5) rfl k) ?_
  obtain ⟨T34, h34, X34, e34, W34, st34⟩ := putF X33 hx hZ hown (host := "") (Or.inl (ww hw 74 rfl)) Via.refl e33 P1 P0 (Or.inr ⟨(ww hw 75 rfl), rfl, hnm⟩) (ww hw 68 rfl) (ty := .long) (by decide) rfl rfl (g := (mkF m 6 (Sh2 a1 x2) [(.long x2), (.ref a1)])) rfl rfl (hb hby d12_6)
  have N34 := Fr.snoc X34 N33 g_a1
  have Exa_a1_34 : Exa Z h34 a1 "java/lang/Long" := P0.wr W34
  have Sta_java_lang_Long_LongCache_cache_34 : Sta Z h34 "java/lang/Long$LongCache" "cache" "[Ljava/lang/Long;" (.ref a3) := P2.wr W34
  have Keep_34 : Keep h0 h34 [a1] := (Keep.refl h0 [a1]).wr W34 (Or.inl (List.mem_of_getElem? (i := 0) rfl))
  have Fld_a1_value_34 : Fld Z h34 a1 "java/lang/Long" "value" "J" (.long x2) := P1.same W34
  refine GoW.sg (mkF m 9 (Sh2 a1 x2) []) (fun t k => st34 t k) ?_
  refine GoW.retV X34 hx Bd.returns (hb hby d12_9) Bd.notSynchronized ?_ (by decide) (by decide)
  rw [e34]
  exact ⟨rfl, N34, Keep_34, Exa_a1_34, Fld_a1_value_34⟩
theorem ef8_rmVL (m : MethodId) (q1 : Int64) : entryFrame m #[(.long q1)] 3 = (mkF m 0 #[.val (.long q1), .second, .unset] []) := by first | (simp [entryFrame, mkF, argsToLocals, Value.category, maxLocals]; done) | rfl
set_option maxRecDepth 65536 in
set_option maxHeartbeats 40000000 in
theorem rmVL (l : Launch) (Z : State) (a0 : Array Value) (hw : ∀ d ∈ tables_1, d.before a0 Z = true) (ws : List Jvm.Cond) (q1 : Int64) (aI : Addr) (h0 : Heap) (n0 : Nat) (Z0 : n0 ≤ h0.size) (P1 : Sta Z h0 "java/lang/Long$LongCache" "cache" "[Ljava/lang/Long;" (.ref aI)) (BX : Box Z h0 aI "java/lang/Long") :
    MetFree l (⟨"java/lang/Long", "valueOf", "(J)Ljava/lang/Long;"⟩ : MethodName) (head1 (Jvm.Cond.code (⟨"java/lang/Long", "valueOf", "(J)Ljava/lang/Long;"⟩ : MethodName) jdk_35_method_24_code 3 (some (.object "java/lang/Long")) :: ws) ({ frames := 3, cells := 1, slots := 1, locals := 39 } : Room)) (fun a U => a = #[(.long q1)] ∧ Z.Warmed39 U.vm ∧ U.heap = h0) (fun _ _ _ _ _ => True) (fun _ U o U' => ∃ v L, o = .returned v ∧ (QB Z "java/lang/Long" h0 n0) v U'.heap L ∧ FrameEnd U o U' L 1 1) := by
  refine MetFree.of_bodySF (plainFor_of_name pn_java_lang_Long) hisR ?_
  intro p e s m args below meth c s₁ Bd hml0 hP hK
  obtain ⟨rfl, hZ, hh⟩ := hP
  have hx := Bd.exec
  have hby := Bd.bytes
  have hml : c.maxLocals = 3 := hml0
  have hown : s.vm.findClass "java/lang/Long" = some m.cls := findClass_of_methodNamed Bd.named
  have hnm := (name_of_methodNamed Bd.named Bd.method).1
  have X0 : Stand p l e ({ frames := 3, cells := 1, slots := 1, locals := 39 } : Room) s m #[(.long q1)] below meth c s₁ [] 0 0 := Stand.of_body Bd
  have e0 : s₁.heap = h0 := by rw [← hh, Bd.state]; rfl
  have N0 := Fr.nil n0
  refine GoW.mk ?_
  refine GoW.st (fun t k => castTop (ef8_rmVL m q1) k) ?_
  show GoW p e below s (QB Z "java/lang/Long" h0 n0) 1 1 (s₁.setTop (mkF m 0 (Sh0 q1) []))
  refine GoW.sg (mkF m 3 (Sh0 q1) [(.int 128)]) (fun t k => XS.sipush X0.here hx rfl (hb hby d8_0) k) ?_
  refine GoW.sg (mkF m 4 (Sh1 q1 128) []) (fun t k => XS.istoreN X0.here hx rfl (hb hby d8_3) rfl (l' := (Sh1 q1 128)) rfl k) ?_
  refine GoW.sg (mkF m 5 (Sh1 q1 128) [(.long q1)]) (fun t k => XS.lloadN X0.here hx rfl (hb hby d8_4) rfl k) ?_
  refine GoW.sg (mkF m 8 (Sh1 q1 128) [(.long (-128)), (.long q1)]) (fun t k => X0.ldc2Long hx hown (mvT hZ (ww hw 41 rfl)) (g := (mkF m 5 (Sh1 q1 128) [(.long q1)])) rfl (hb hby d8_5) t k) ?_
  refine GoW.sg (mkF m 9 (Sh1 q1 128) [(.int (lcmpW q1 (-128 : Int64)))]) (fun t k => XS.lcmp X0.here hx rfl (hb hby d8_8) rfl k) ?_
  by_cases c20 : q1 < (-128 : Int64)
  · refine GoW.sg (mkF m 31 (Sh1 q1 128) []) (fun t k => XS.ifYes X0.here hx rfl (pc0 := 9) (pc' := 31) rfl (hb hby d8_9) rfl ((if0 _ _).trans (tlt ((lw_lt _ _).mpr c20)).1) (by decide) (by decide) k) ?_
    obtain ⟨T21, h21, X21, e21, E21, A21, D21, -, st21⟩ := newO X0 hx hZ hown (ww hw 67 rfl) (ww hw 68 rfl) (ww hw 39 rfl) e0 (g := (mkF m 31 (Sh1 q1 128) [])) rfl (hb hby d8_31) (by decide) (by decide)
    obtain ⟨b21, g21⟩ : ∃ z, z = h0.size := ⟨_, rfl⟩
    rw [← g21] at A21 D21 st21
    have g_b21 : n0 ≤ b21 := Nat.le_trans Z0 (Nat.le_of_eq g21.symm)
    have sz_b21 : h0.size ≤ b21 := Nat.le_trans (Keep.refl h0 []).1 (Nat.le_of_eq g21.symm)
    have Zs_21 : n0 ≤ h21.size := Nat.le_trans Z0 E21.1
    have Keep_21 : Keep h0 h21 [] := (Keep.refl h0 []).ext E21
    have Sta_java_lang_Long_LongCache_cache_21 : Sta Z h21 "java/lang/Long$LongCache" "cache" "[Ljava/lang/Long;" (.ref aI) := P1.ext E21
    have Fld_b21_value_21 : Fld Z h21 b21 "java/lang/Long" "value" "J" (.long (0 : Int64)) := D21 (Or.inr (ww hw 75 rfl)) (ty := .long) (by decide)
    refine GoW.sg (mkF m 34 (Sh1 q1 128) [(.ref b21)]) (fun t k => st21 t k) ?_
    refine GoW.sg (mkF m 35 (Sh1 q1 128) [(.ref b21), (.ref b21)]) (fun t k => XS.dup X21.here hx rfl (hb hby d8_34) rfl rfl k) ?_
    refine GoW.sg (mkF m 36 (Sh1 q1 128) [(.long q1), (.ref b21), (.ref b21)]) (fun t k => XS.lloadN X21.here hx rfl (hb hby d8_35) rfl k) ?_
    obtain ⟨_, _, ⟨T28, L28, k28, n28⟩, -, X28, ⟨Lc28, hQ28, l28, y28, z28⟩, st28⟩ := X21.specialBack hx (y := (⟨"java/lang/Long", "<init>", "(J)V"⟩ : MethodName)) rfl hown (mvT hZ (ww hw 69 rfl)) (mvT hZ (ww hw 70 rfl)) (mvT hZ (ww hw 71 rfl)) (by decide) (backOf (W := 1) (rm12_5 l Z a0 hw [] b21 q1 aI h21 n0  A21 Fld_b21_value_21 Sta_java_lang_Long_LongCache_cache_21 g_b21  c20 ) hZ (ww hw 71 rfl) (ww hw 39 rfl) (by decide) (by decide)) (g := (mkF m 36 (Sh1 q1 128) [(.long q1), (.ref b21), (.ref b21)])) rfl (by rw [hml]; rfl) (Steps.refl _) (a := b21) (argsL := [(.long q1)]) (rest := [(.ref b21)]) (lenOf pd_28J29V rfl) rfl (by show 2 * 0 + _ ≤ _; exact Nat.le_of_eq rfl) (hb hby d8_36) (fun _ _ => ⟨rfl, e21, (by decide : 1 + 0 ≤ _), (by decide : 1 + 0 ≤ _)⟩)
    dsimp only [Pt.U, Pt.locs, Pt.cells, Pt.slots] at X28 l28 y28 z28 st28 hQ28
    subst l28 y28 z28
    obtain ⟨rfl, N28q, K28, p28_0, p28_1⟩ := hQ28
    have N28 := Fr.app N0 N28q
    have Zs_28 : n0 ≤ T28.heap.size := Nat.le_trans Zs_21 K28.1
    have Keep_28 : Keep h0 T28.heap [] := Keep_21.trans K28 (allS (Or.inr sz_b21) all0)
    have Sta_java_lang_Long_LongCache_cache_28 : Sta Z T28.heap "java/lang/Long$LongCache" "cache" "[Ljava/lang/Long;" (.ref aI) := own_staK Sta_java_lang_Long_LongCache_cache_21 K28 (allS (own_nsE A21) all0)
    refine GoW.sg (mkF m 39 (Sh1 q1 128) [(.ref b21)]) (fun t k => st28.trans k) ?_
    refine GoW.retA X28 hx Bd.returns rfl rfl rfl (hb hby d8_39) Bd.notSynchronized ?_ (by decide) (by decide)
    exact ⟨b21, rfl, N28, Keep_28, p28_0⟩
  · refine GoW.sg (mkF m 12 (Sh1 q1 128) []) (fun t k => XS.ifNo X0.here hx rfl (hb hby d8_9) rfl ((if0 _ _).trans (flt (mt (lw_lt _ _).mp c20)).1) k) ?_
    refine GoW.sg (mkF m 13 (Sh1 q1 128) [(.long q1)]) (fun t k => XS.lloadN X0.here hx rfl (hb hby d8_12) rfl k) ?_
    refine GoW.sg (mkF m 16 (Sh1 q1 128) [(.long 127), (.long q1)]) (fun t k => X0.ldc2Long hx hown (mvT hZ (ww hw 42 rfl)) (g := (mkF m 13 (Sh1 q1 128) [(.long q1)])) rfl (hb hby d8_13) t k) ?_
    refine GoW.sg (mkF m 17 (Sh1 q1 128) [(.int (lcmpW q1 (127 : Int64)))]) (fun t k => XS.lcmp X0.here hx rfl (hb hby d8_16) rfl k) ?_
    by_cases c29 : (127 : Int64) < q1
    · refine GoW.sg (mkF m 31 (Sh1 q1 128) []) (fun t k => XS.ifYes X0.here hx rfl (pc0 := 17) (pc' := 31) rfl (hb hby d8_17) rfl ((if0 _ _).trans (tlt ((lw_gt _ _).mpr c29)).2.2.1) (by decide) (by decide) k) ?_
      obtain ⟨T30, h30, X30, e30, E30, A30, D30, -, st30⟩ := newO X0 hx hZ hown (ww hw 67 rfl) (ww hw 68 rfl) (ww hw 39 rfl) e0 (g := (mkF m 31 (Sh1 q1 128) [])) rfl (hb hby d8_31) (by decide) (by decide)
      obtain ⟨b30, g30⟩ : ∃ z, z = h0.size := ⟨_, rfl⟩
      rw [← g30] at A30 D30 st30
      have g_b30 : n0 ≤ b30 := Nat.le_trans Z0 (Nat.le_of_eq g30.symm)
      have sz_b30 : h0.size ≤ b30 := Nat.le_trans (Keep.refl h0 []).1 (Nat.le_of_eq g30.symm)
      have Zs_30 : n0 ≤ h30.size := Nat.le_trans Z0 E30.1
      have Keep_30 : Keep h0 h30 [] := (Keep.refl h0 []).ext E30
      have Sta_java_lang_Long_LongCache_cache_30 : Sta Z h30 "java/lang/Long$LongCache" "cache" "[Ljava/lang/Long;" (.ref aI) := P1.ext E30
      have Fld_b30_value_30 : Fld Z h30 b30 "java/lang/Long" "value" "J" (.long (0 : Int64)) := D30 (Or.inr (ww hw 75 rfl)) (ty := .long) (by decide)
      refine GoW.sg (mkF m 34 (Sh1 q1 128) [(.ref b30)]) (fun t k => st30 t k) ?_
      refine GoW.sg (mkF m 35 (Sh1 q1 128) [(.ref b30), (.ref b30)]) (fun t k => XS.dup X30.here hx rfl (hb hby d8_34) rfl rfl k) ?_
      refine GoW.sg (mkF m 36 (Sh1 q1 128) [(.long q1), (.ref b30), (.ref b30)]) (fun t k => XS.lloadN X30.here hx rfl (hb hby d8_35) rfl k) ?_
      obtain ⟨_, _, ⟨T35, L35, k35, n35⟩, -, X35, ⟨Lc35, hQ35, l35, y35, z35⟩, st35⟩ := X30.specialBack hx (y := (⟨"java/lang/Long", "<init>", "(J)V"⟩ : MethodName)) rfl hown (mvT hZ (ww hw 69 rfl)) (mvT hZ (ww hw 70 rfl)) (mvT hZ (ww hw 71 rfl)) (by decide) (backOf (W := 1) (rm12_6 l Z a0 hw [] b30 q1 aI h30 n0  A30 Fld_b30_value_30 Sta_java_lang_Long_LongCache_cache_30 g_b30  c20 c29 ) hZ (ww hw 71 rfl) (ww hw 39 rfl) (by decide) (by decide)) (g := (mkF m 36 (Sh1 q1 128) [(.long q1), (.ref b30), (.ref b30)])) rfl (by rw [hml]; rfl) (Steps.refl _) (a := b30) (argsL := [(.long q1)]) (rest := [(.ref b30)]) (lenOf pd_28J29V rfl) rfl (by show 2 * 0 + _ ≤ _; exact Nat.le_of_eq rfl) (hb hby d8_36) (fun _ _ => ⟨rfl, e30, (by decide : 1 + 0 ≤ _), (by decide : 1 + 0 ≤ _)⟩)
      dsimp only [Pt.U, Pt.locs, Pt.cells, Pt.slots] at X35 l35 y35 z35 st35 hQ35
      subst l35 y35 z35
      obtain ⟨rfl, N35q, K35, p35_0, p35_1⟩ := hQ35
      have N35 := Fr.app N0 N35q
      have Zs_35 : n0 ≤ T35.heap.size := Nat.le_trans Zs_30 K35.1
      have Keep_35 : Keep h0 T35.heap [] := Keep_30.trans K35 (allS (Or.inr sz_b30) all0)
      have Sta_java_lang_Long_LongCache_cache_35 : Sta Z T35.heap "java/lang/Long$LongCache" "cache" "[Ljava/lang/Long;" (.ref aI) := own_staK Sta_java_lang_Long_LongCache_cache_30 K35 (allS (own_nsE A30) all0)
      refine GoW.sg (mkF m 39 (Sh1 q1 128) [(.ref b30)]) (fun t k => st35.trans k) ?_
      refine GoW.retA X35 hx Bd.returns rfl rfl rfl (hb hby d8_39) Bd.notSynchronized ?_ (by decide) (by decide)
      exact ⟨b30, rfl, N35, Keep_35, p35_0⟩
    · refine GoW.sg (mkF m 20 (Sh1 q1 128) []) (fun t k => XS.ifNo X0.here hx rfl (hb hby d8_17) rfl ((if0 _ _).trans (flt (mt (lw_gt _ _).mp c29)).2.2.1) k) ?_
      obtain ⟨T36, X36, e36, st36⟩ := getS (host := "") X0 hx hZ hown (ww hw 43 rfl) Via.refl e0 P1 (g := (mkF m 20 (Sh1 q1 128) [])) rfl (hb hby d8_20)
      refine GoW.sg (mkF m 23 (Sh1 q1 128) [(.ref aI)]) (fun t k => st36 t k) ?_
      refine GoW.sg (mkF m 24 (Sh1 q1 128) [(.long q1), (.ref aI)]) (fun t k => XS.lloadN X36.here hx rfl (hb hby d8_23) rfl k) ?_
      refine GoW.sg (mkF m 25 (Sh1 q1 128) [(.int q1.toInt32), (.ref aI)]) (fun t k => XS.l2i X36.here hx rfl (hb hby d8_24) rfl k) ?_
      refine GoW.sg (mkF m 28 (Sh1 q1 128) [(.int 128), (.int q1.toInt32), (.ref aI)]) (fun t k => XS.sipush X36.here hx rfl (hb hby d8_25) k) ?_
      refine GoW.sg (mkF m 29 (Sh1 q1 128) [(.int (q1.toInt32 + (128 : Int32))), (.ref aI)]) (fun t k => XS.iadd X36.here hx rfl (hb hby d8_28) rfl k) ?_
      have hj37 := own_cl q1 c20 c29
      obtain ⟨cl37, Ar37, Sz37, Hh37⟩ := id BX
      have hin37 : ¬ ((q1.toInt32 + (128 : Int32)) < 0 ∨ cl37.slots.size ≤ ((q1.toInt32 + (128 : Int32))).toNatClampNeg) := inb_of (z := 256) Sz37 hj37
      obtain ⟨r37, he37, Er37⟩ := Hh37 _ hj37.1 hj37.2
      refine GoW.sg (mkF m 30 (Sh1 q1 128) [(.ref r37)]) (fun t k => X36.aaload hx (j := (q1.toInt32 + (128 : Int32))) (v := (.ref r37)) (hq_ e36 Ar37.1) (State.isArrayOf_alike hZ.alike Ar37.2.1) rfl Ar37.2.2 hin37 he37 (g := (mkF m 29 (Sh1 q1 128) [(.int (q1.toInt32 + (128 : Int32))), (.ref aI)])) rfl rfl (hb hby d8_29) t k) ?_
      refine GoW.retA X36 hx Bd.returns rfl rfl rfl (hb hby d8_30) Bd.notSynchronized ?_ (by decide) (by decide)
      rw [e36]
      exact ⟨r37, rfl, N0, (Keep.refl h0 []), Er37⟩
def Q5_7 (Z : State) (a1 : Addr) (a2 : Addr) (ka1 : ClassId) (x3 : Int32) (x4 : Int32) (ka2 : ClassId) (x5 : Int32) (a6 : Addr) (a7 : Addr) (h0 : Heap) (n0 : Nat) (v : Option Value) (h : Heap) (L : List Loc) : Prop := v = some (.int (2 : Int32)) ∧ Fr n0 L ∧ (Keep h0 h [a2]) ∧ (Arv Z h a2 ka2 .byte (2 : Int32) [(.int (nar .byte x3.toInt8.toInt32)), (.int (nar .byte x4.toInt8.toInt32))] (.int (0 : Int32)))
theorem ef5_rm5_7 (m : MethodId) (a1 : Addr) (a2 : Addr) : entryFrame m #[(.ref a1), (.int (0 : Int32)), (.ref a2), (.int (0 : Int32)), (.int (2 : Int32))] 7 = (mkF m 0 #[.val (.ref a1), .val (.int 0), .val (.ref a2), .val (.int 0), .val (.int 2), .unset, .unset] []) := by first | (simp [entryFrame, mkF, argsToLocals, Value.category, maxLocals]; done) | rfl
set_option maxRecDepth 65536 in
set_option maxHeartbeats 40000000 in
theorem rm5_7 (l : Launch) (Z : State) (a0 : Array Value) (hw : ∀ d ∈ tables_1, d.before a0 Z = true) (ws : List Jvm.Cond) (a1 : Addr) (a2 : Addr) (ka1 : ClassId) (x3 : Int32) (x4 : Int32) (ka2 : ClassId) (x5 : Int32) (a6 : Addr) (a7 : Addr) (h0 : Heap) (n0 : Nat) (P0 : Arv Z h0 a1 ka1 .char (2 : Int32) [(.int x3), (.int x4)] (.int (0 : Int32))) (P1 : Arv Z h0 a2 ka2 .byte (2 : Int32) [(.int (0 : Int32)), (.int (0 : Int32))] (.int (0 : Int32))) (P2 : Sta Z h0 "java/lang/String" "COMPACT_STRINGS" "Z" (.int x5)) (P3 : Sta Z h0 "java/lang/Integer$IntegerCache" "cache" "[Ljava/lang/Integer;" (.ref a6)) (P4 : Sta Z h0 "java/lang/Integer$IntegerCache" "high" "I" (.int (127 : Int32))) (P5 : Sta Z h0 "java/lang/Long$LongCache" "cache" "[Ljava/lang/Long;" (.ref a7)) (g_a2 : n0 ≤ a2) (ne_a1_a2 : a1 ≠ a2) (u0 : ¬ (x5 = (0 : Int32))) (u1 : ¬ ((255 : Int32) < x3)) (u2 : ¬ ((255 : Int32) < x4))  :
    MetFree l (⟨"java/lang/StringUTF16", "compress", "([CI[BII)I"⟩ : MethodName) (head1 (Jvm.Cond.code (⟨"java/lang/StringUTF16", "compress", "([CI[BII)I"⟩ : MethodName) jdk_52_method_21_code 7 (some .int) :: ws) ({ frames := 0, cells := 0, slots := 0, locals := 0 } : Room)) (fun a U => a = #[(.ref a1), (.int (0 : Int32)), (.ref a2), (.int (0 : Int32)), (.int (2 : Int32))] ∧ Z.Warmed39 U.vm ∧ U.heap = h0) (fun _ _ _ _ _ => True) (fun _ U o U' => ∃ v L, o = .returned v ∧ (Q5_7 Z a1 a2 ka1 x3 x4 ka2 x5 a6 a7 h0 n0) v U'.heap L ∧ FrameEnd U o U' L 0 0) := by
  refine MetFree.of_bodySF (plainFor_of_name pn_java_lang_StringUTF16) hisR ?_
  intro p e s m args below meth c s₁ Bd hml0 hP hK
  obtain ⟨rfl, hZ, hh⟩ := hP
  have hx := Bd.exec
  have hby := Bd.bytes
  have hml : c.maxLocals = 7 := hml0
  have hown : s.vm.findClass "java/lang/StringUTF16" = some m.cls := findClass_of_methodNamed Bd.named
  have hnm := (name_of_methodNamed Bd.named Bd.method).1
  have X0 : Stand p l e ({ frames := 0, cells := 0, slots := 0, locals := 0 } : Room) s m #[(.ref a1), (.int (0 : Int32)), (.ref a2), (.int (0 : Int32)), (.int (2 : Int32))] below meth c s₁ [] 0 0 := Stand.of_body Bd
  have e0 : s₁.heap = h0 := by rw [← hh, Bd.state]; rfl
  have N0 := Fr.nil n0
  refine GoW.mk ?_
  refine GoW.st (fun t k => castTop (ef5_rm5_7 m a1 a2) k) ?_
  show GoW p e below s (Q5_7 Z a1 a2 ka1 x3 x4 ka2 x5 a6 a7 h0 n0) 0 0 (s₁.setTop (mkF m 0 (Sh8 a1 0 a2 0 2) []))
  refine GoW.sg (mkF m 1 (Sh8 a1 0 a2 0 2) [(.int 0)]) (fun t k => XS.iconst X0.here hx rfl (hb hby d5_0) k) ?_
  refine GoW.sg (mkF m 3 (Sh9 a1 0 a2 0 2 0) []) (fun t k => XS.istore X0.here hx rfl (hb hby d5_1) rfl (l' := (Sh9 a1 0 a2 0 2 0)) rfl k) ?_
  refine GoW.sg (mkF m 5 (Sh9 a1 0 a2 0 2 0) [(.int 0)]) (fun t k => XS.iload X0.here hx rfl (hb hby d5_3) rfl k) ?_
  refine GoW.sg (mkF m 7 (Sh9 a1 0 a2 0 2 0) [(.int 2), (.int 0)]) (fun t k => XS.iload X0.here hx rfl (hb hby d5_5) rfl k) ?_
  refine GoW.sg (mkF m 10 (Sh9 a1 0 a2 0 2 0) []) (fun t k => XS.icmpNo X0.here hx rfl (hb hby d5_7) rfl (by decide) k) ?_
  refine GoW.sg (mkF m 11 (Sh9 a1 0 a2 0 2 0) [(.ref a1)]) (fun t k => XS.aloadN X0.here hx rfl (hb hby d5_10) rfl rfl k) ?_
  refine GoW.sg (mkF m 12 (Sh9 a1 0 a2 0 2 0) [(.int 0), (.ref a1)]) (fun t k => XS.iloadN X0.here hx rfl (hb hby d5_11) rfl k) ?_
  obtain ⟨cl50, Ar50, q50, Sz50, Nn50, Hh50, Gg50⟩ := id P0
  have hin50 : ¬ ((0 : Int32) < 0 ∨ cl50.slots.size ≤ ((0 : Int32)).toNatClampNeg) := inb_of Sz50 ⟨by decide, by decide⟩
  refine GoW.sg (mkF m 13 (Sh9 a1 0 a2 0 2 0) [(.int x3)]) (fun t k => X0.caload hx (j := (0 : Int32)) (v := (.int x3)) (hq_ e0 Ar50.1) (State.isArrayOf_alike hZ.alike Ar50.2.1) Ar50.2.2 hin50 (Hh50.at hin50 rfl) (g := (mkF m 12 (Sh9 a1 0 a2 0 2 0) [(.int 0), (.ref a1)])) rfl rfl (hb hby d5_12) t k) ?_
  refine GoW.sg (mkF m 15 (Sh10 a1 0 a2 0 2 0 x3) []) (fun t k => XS.istore X0.here hx rfl (hb hby d5_13) rfl (l' := (Sh10 a1 0 a2 0 2 0 x3)) rfl k) ?_
  refine GoW.sg (mkF m 17 (Sh10 a1 0 a2 0 2 0 x3) [(.int x3)]) (fun t k => XS.iload X0.here hx rfl (hb hby d5_15) rfl k) ?_
  refine GoW.sg (mkF m 20 (Sh10 a1 0 a2 0 2 0 x3) [(.int 255), (.int x3)]) (fun t k => XS.sipush X0.here hx rfl (hb hby d5_17) k) ?_
  refine GoW.sg (mkF m 26 (Sh10 a1 0 a2 0 2 0 x3) []) (fun t k => XS.icmpYes X0.here hx rfl (pc0 := 20) (pc' := 26) rfl (hb hby d5_20) rfl (flt u1).2.2.2 (by decide) (by decide) k) ?_
  refine GoW.sg (mkF m 27 (Sh10 a1 0 a2 0 2 0 x3) [(.ref a2)]) (fun t k => XS.aloadN X0.here hx rfl (hb hby d5_26) rfl rfl k) ?_
  refine GoW.sg (mkF m 28 (Sh10 a1 0 a2 0 2 0 x3) [(.int 0), (.ref a2)]) (fun t k => XS.iloadN X0.here hx rfl (hb hby d5_27) rfl k) ?_
  refine GoW.sg (mkF m 30 (Sh10 a1 0 a2 0 2 0 x3) [(.int x3), (.int 0), (.ref a2)]) (fun t k => XS.iload X0.here hx rfl (hb hby d5_28) rfl k) ?_
  refine GoW.sg (mkF m 31 (Sh10 a1 0 a2 0 2 0 x3) [(.int x3.toInt8.toInt32), (.int 0), (.ref a2)]) (fun t k => XS.i2b X0.here hx rfl (hb hby d5_30) rfl k) ?_
  obtain ⟨cl51, Ar51, q51, Sz51, Nn51, Hh51, Gg51⟩ := P1
  have hin51 : ¬ ((0 : Int32) < 0 ∨ cl51.slots.size ≤ ((0 : Int32)).toNatClampNeg) := inb_of Sz51 ⟨by decide, by decide⟩
  obtain ⟨T51, h51, X51, e51, W51, st51⟩ := stB X0 hx hZ e0 Ar51 (j := (0 : Int32)) hin51 (g := (mkF m 31 (Sh10 a1 0 a2 0 2 0 x3) [(.int x3.toInt8.toInt32), (.int 0), (.ref a2)])) rfl rfl (hb hby d5_31)
  have Arv_a1_51 : Arv Z h51 a1 ka1 .char (2 : Int32) [(.int x3), (.int x4)] (.int (0 : Int32)) := P0.other W51 ne_a1_a2
  have Sta_java_lang_String_COMPACT_STRINGS_51 : Sta Z h51 "java/lang/String" "COMPACT_STRINGS" "Z" (.int x5) := P2.wr W51
  have Sta_java_lang_Integer_IntegerCache_cache_51 : Sta Z h51 "java/lang/Integer$IntegerCache" "cache" "[Ljava/lang/Integer;" (.ref a6) := P3.wr W51
  have Sta_java_lang_Integer_IntegerCache_high_51 : Sta Z h51 "java/lang/Integer$IntegerCache" "high" "I" (.int (127 : Int32)) := P4.wr W51
  have Sta_java_lang_Long_LongCache_cache_51 : Sta Z h51 "java/lang/Long$LongCache" "cache" "[Ljava/lang/Long;" (.ref a7) := P5.wr W51
  have Keep_51 : Keep h0 h51 [a2] := (Keep.refl h0 [a2]).wr W51 (Or.inl (List.mem_of_getElem? (i := 0) rfl))
  have Arv_a2_51 : Arv Z h51 a2 ka2 .byte (2 : Int32) [(.int (nar .byte x3.toInt8.toInt32)), (.int (0 : Int32))] (.int (0 : Int32)) := Arv.set Ar51 q51 Sz51 Nn51 Hh51 Gg51 (fits_nar_byte _) W51 0 rfl (Nat.le_of_ble_eq_true rfl)
  have N51 := Fr.snoc X51 N0 g_a2
  refine GoW.sg (mkF m 32 (Sh10 a1 0 a2 0 2 0 x3) []) (fun t k => st51 t k) ?_
  refine GoW.sg (mkF m 35 (Sh10 a1 1 a2 0 2 0 x3) []) (fun t k => XS.iinc X51.here hx rfl (hb hby d5_32) rfl (l' := (Sh10 a1 1 a2 0 2 0 x3)) rfl k) ?_
  refine GoW.sg (mkF m 38 (Sh10 a1 1 a2 1 2 0 x3) []) (fun t k => XS.iinc X51.here hx rfl (hb hby d5_35) rfl (l' := (Sh10 a1 1 a2 1 2 0 x3)) rfl k) ?_
  refine GoW.sg (mkF m 41 (Sh10 a1 1 a2 1 2 1 x3) []) (fun t k => XS.iinc X51.here hx rfl (hb hby d5_38) rfl (l' := (Sh10 a1 1 a2 1 2 1 x3)) rfl k) ?_
  refine GoW.sg (mkF m 3 (Sh10 a1 1 a2 1 2 1 x3) []) (fun t k => XS.goto X51.here hx rfl (pc0 := 41) (pc' := 3) rfl (hb hby d5_41) (by decide) (by decide) k) ?_
  refine GoW.sg (mkF m 5 (Sh10 a1 1 a2 1 2 1 x3) [(.int 1)]) (fun t k => XS.iload X51.here hx rfl (hb hby d5_3) rfl k) ?_
  refine GoW.sg (mkF m 7 (Sh10 a1 1 a2 1 2 1 x3) [(.int 2), (.int 1)]) (fun t k => XS.iload X51.here hx rfl (hb hby d5_5) rfl k) ?_
  refine GoW.sg (mkF m 10 (Sh10 a1 1 a2 1 2 1 x3) []) (fun t k => XS.icmpNo X51.here hx rfl (hb hby d5_7) rfl (by decide) k) ?_
  refine GoW.sg (mkF m 11 (Sh10 a1 1 a2 1 2 1 x3) [(.ref a1)]) (fun t k => XS.aloadN X51.here hx rfl (hb hby d5_10) rfl rfl k) ?_
  refine GoW.sg (mkF m 12 (Sh10 a1 1 a2 1 2 1 x3) [(.int 1), (.ref a1)]) (fun t k => XS.iloadN X51.here hx rfl (hb hby d5_11) rfl k) ?_
  obtain ⟨cl52, Ar52, q52, Sz52, Nn52, Hh52, Gg52⟩ := id Arv_a1_51
  have hin52 : ¬ ((1 : Int32) < 0 ∨ cl52.slots.size ≤ ((1 : Int32)).toNatClampNeg) := inb_of Sz52 ⟨by decide, by decide⟩
  refine GoW.sg (mkF m 13 (Sh10 a1 1 a2 1 2 1 x3) [(.int x4)]) (fun t k => X51.caload hx (j := (1 : Int32)) (v := (.int x4)) (hq_ e51 Ar52.1) (State.isArrayOf_alike hZ.alike Ar52.2.1) Ar52.2.2 hin52 (Hh52.at hin52 rfl) (g := (mkF m 12 (Sh10 a1 1 a2 1 2 1 x3) [(.int 1), (.ref a1)])) rfl rfl (hb hby d5_12) t k) ?_
  refine GoW.sg (mkF m 15 (Sh10 a1 1 a2 1 2 1 x4) []) (fun t k => XS.istore X51.here hx rfl (hb hby d5_13) rfl (l' := (Sh10 a1 1 a2 1 2 1 x4)) rfl k) ?_
  refine GoW.sg (mkF m 17 (Sh10 a1 1 a2 1 2 1 x4) [(.int x4)]) (fun t k => XS.iload X51.here hx rfl (hb hby d5_15) rfl k) ?_
  refine GoW.sg (mkF m 20 (Sh10 a1 1 a2 1 2 1 x4) [(.int 255), (.int x4)]) (fun t k => XS.sipush X51.here hx rfl (hb hby d5_17) k) ?_
  refine GoW.sg (mkF m 26 (Sh10 a1 1 a2 1 2 1 x4) []) (fun t k => XS.icmpYes X51.here hx rfl (pc0 := 20) (pc' := 26) rfl (hb hby d5_20) rfl (flt u2).2.2.2 (by decide) (by decide) k) ?_
  refine GoW.sg (mkF m 27 (Sh10 a1 1 a2 1 2 1 x4) [(.ref a2)]) (fun t k => XS.aloadN X51.here hx rfl (hb hby d5_26) rfl rfl k) ?_
  refine GoW.sg (mkF m 28 (Sh10 a1 1 a2 1 2 1 x4) [(.int 1), (.ref a2)]) (fun t k => XS.iloadN X51.here hx rfl (hb hby d5_27) rfl k) ?_
  refine GoW.sg (mkF m 30 (Sh10 a1 1 a2 1 2 1 x4) [(.int x4), (.int 1), (.ref a2)]) (fun t k => XS.iload X51.here hx rfl (hb hby d5_28) rfl k) ?_
  refine GoW.sg (mkF m 31 (Sh10 a1 1 a2 1 2 1 x4) [(.int x4.toInt8.toInt32), (.int 1), (.ref a2)]) (fun t k => XS.i2b X51.here hx rfl (hb hby d5_30) rfl k) ?_
  obtain ⟨cl53, Ar53, q53, Sz53, Nn53, Hh53, Gg53⟩ := Arv_a2_51
  have hin53 : ¬ ((1 : Int32) < 0 ∨ cl53.slots.size ≤ ((1 : Int32)).toNatClampNeg) := inb_of Sz53 ⟨by decide, by decide⟩
  obtain ⟨T53, h53, X53, e53, W53, st53⟩ := stB X51 hx hZ e51 Ar53 (j := (1 : Int32)) hin53 (g := (mkF m 31 (Sh10 a1 1 a2 1 2 1 x4) [(.int x4.toInt8.toInt32), (.int 1), (.ref a2)])) rfl rfl (hb hby d5_31)
  have Arv_a1_53 : Arv Z h53 a1 ka1 .char (2 : Int32) [(.int x3), (.int x4)] (.int (0 : Int32)) := Arv_a1_51.other W53 ne_a1_a2
  have Sta_java_lang_String_COMPACT_STRINGS_53 : Sta Z h53 "java/lang/String" "COMPACT_STRINGS" "Z" (.int x5) := Sta_java_lang_String_COMPACT_STRINGS_51.wr W53
  have Sta_java_lang_Integer_IntegerCache_cache_53 : Sta Z h53 "java/lang/Integer$IntegerCache" "cache" "[Ljava/lang/Integer;" (.ref a6) := Sta_java_lang_Integer_IntegerCache_cache_51.wr W53
  have Sta_java_lang_Integer_IntegerCache_high_53 : Sta Z h53 "java/lang/Integer$IntegerCache" "high" "I" (.int (127 : Int32)) := Sta_java_lang_Integer_IntegerCache_high_51.wr W53
  have Sta_java_lang_Long_LongCache_cache_53 : Sta Z h53 "java/lang/Long$LongCache" "cache" "[Ljava/lang/Long;" (.ref a7) := Sta_java_lang_Long_LongCache_cache_51.wr W53
  have Keep_53 : Keep h0 h53 [a2] := Keep_51.wr W53 (Or.inl (List.mem_of_getElem? (i := 0) rfl))
  have Arv_a2_53 : Arv Z h53 a2 ka2 .byte (2 : Int32) [(.int (nar .byte x3.toInt8.toInt32)), (.int (nar .byte x4.toInt8.toInt32))] (.int (0 : Int32)) := Arv.set Ar53 q53 Sz53 Nn53 Hh53 Gg53 (fits_nar_byte _) W53 1 rfl (Nat.le_of_ble_eq_true rfl)
  have N53 := Fr.snoc X53 N51 g_a2
  refine GoW.sg (mkF m 32 (Sh10 a1 1 a2 1 2 1 x4) []) (fun t k => st53 t k) ?_
  refine GoW.sg (mkF m 35 (Sh10 a1 2 a2 1 2 1 x4) []) (fun t k => XS.iinc X53.here hx rfl (hb hby d5_32) rfl (l' := (Sh10 a1 2 a2 1 2 1 x4)) rfl k) ?_
  refine GoW.sg (mkF m 38 (Sh10 a1 2 a2 2 2 1 x4) []) (fun t k => XS.iinc X53.here hx rfl (hb hby d5_35) rfl (l' := (Sh10 a1 2 a2 2 2 1 x4)) rfl k) ?_
  refine GoW.sg (mkF m 41 (Sh10 a1 2 a2 2 2 2 x4) []) (fun t k => XS.iinc X53.here hx rfl (hb hby d5_38) rfl (l' := (Sh10 a1 2 a2 2 2 2 x4)) rfl k) ?_
  refine GoW.sg (mkF m 3 (Sh10 a1 2 a2 2 2 2 x4) []) (fun t k => XS.goto X53.here hx rfl (pc0 := 41) (pc' := 3) rfl (hb hby d5_41) (by decide) (by decide) k) ?_
  refine GoW.sg (mkF m 5 (Sh10 a1 2 a2 2 2 2 x4) [(.int 2)]) (fun t k => XS.iload X53.here hx rfl (hb hby d5_3) rfl k) ?_
  refine GoW.sg (mkF m 7 (Sh10 a1 2 a2 2 2 2 x4) [(.int 2), (.int 2)]) (fun t k => XS.iload X53.here hx rfl (hb hby d5_5) rfl k) ?_
  refine GoW.sg (mkF m 44 (Sh10 a1 2 a2 2 2 2 x4) []) (fun t k => XS.icmpYes X53.here hx rfl (pc0 := 7) (pc' := 44) rfl (hb hby d5_7) rfl (by decide) (by decide) (by decide) k) ?_
  refine GoW.sg (mkF m 46 (Sh10 a1 2 a2 2 2 2 x4) [(.int 2)]) (fun t k => XS.iload X53.here hx rfl (hb hby d5_44) rfl k) ?_
  refine GoW.retI X53 hx Bd.returns (hb hby d5_46) Bd.notSynchronized ?_ (by decide) (by decide)
  rw [e53]
  exact ⟨rfl, N53, Keep_53, Arv_a2_53⟩
def Q4_8 (Z : State) (a1 : Addr) (ka1 : ClassId) (x2 : Int32) (x3 : Int32) (x4 : Int32) (a5 : Addr) (a6 : Addr) (h0 : Heap) (n0 : Nat) (v : Option Value) (h : Heap) (L : List Loc) : Prop := ∃ e0 : Addr, ∃ ke0 : ClassId, v = some (.ref e0) ∧ Fr n0 L ∧ (Keep h0 h []) ∧ (Arv Z h e0 ke0 .byte (2 : Int32) [(.int (nar .byte x2.toInt8.toInt32)), (.int (nar .byte x3.toInt8.toInt32))] (.int (0 : Int32))) ∧ (h0.size ≤ e0)
theorem ef4_rm4_8 (m : MethodId) (a1 : Addr) : entryFrame m #[(.ref a1), (.int (0 : Int32)), (.int (2 : Int32))] 6 = (mkF m 0 #[.val (.ref a1), .val (.int 0), .val (.int 2), .unset, .unset, .unset] []) := by first | (simp [entryFrame, mkF, argsToLocals, Value.category, maxLocals]; done) | rfl
set_option maxRecDepth 65536 in
set_option maxHeartbeats 40000000 in
theorem rm4_8 (l : Launch) (Z : State) (a0 : Array Value) (hw : ∀ d ∈ tables_1, d.before a0 Z = true) (ws : List Jvm.Cond) (a1 : Addr) (ka1 : ClassId) (x2 : Int32) (x3 : Int32) (x4 : Int32) (a5 : Addr) (a6 : Addr) (h0 : Heap) (n0 : Nat) (Z0 : n0 ≤ h0.size) (P0 : Arv Z h0 a1 ka1 .char (2 : Int32) [(.int x2), (.int x3)] (.int (0 : Int32))) (P1 : Sta Z h0 "java/lang/String" "COMPACT_STRINGS" "Z" (.int x4)) (P2 : Sta Z h0 "java/lang/Integer$IntegerCache" "cache" "[Ljava/lang/Integer;" (.ref a5)) (P3 : Sta Z h0 "java/lang/Integer$IntegerCache" "high" "I" (.int (127 : Int32))) (P4 : Sta Z h0 "java/lang/Long$LongCache" "cache" "[Ljava/lang/Long;" (.ref a6))   (u0 : ¬ (x4 = (0 : Int32))) (u1 : ¬ ((255 : Int32) < x2)) (u2 : ¬ ((255 : Int32) < x3))  :
    MetFree l (⟨"java/lang/StringUTF16", "compress", "([CII)[B"⟩ : MethodName) (head1 (Jvm.Cond.code (⟨"java/lang/StringUTF16", "compress", "([CII)[B"⟩ : MethodName) jdk_52_method_16_code 6 (some (.array .byte)) :: ws) ({ frames := 1, cells := 1, slots := 2, locals := 18 } : Room)) (fun a U => a = #[(.ref a1), (.int (0 : Int32)), (.int (2 : Int32))] ∧ Z.Warmed39 U.vm ∧ U.heap = h0) (fun _ _ _ _ _ => True) (fun _ U o U' => ∃ v L, o = .returned v ∧ (Q4_8 Z a1 ka1 x2 x3 x4 a5 a6 h0 n0) v U'.heap L ∧ FrameEnd U o U' L 1 2) := by
  refine MetFree.of_bodySF (plainFor_of_name pn_java_lang_StringUTF16) hisR ?_
  intro p e s m args below meth c s₁ Bd hml0 hP hK
  obtain ⟨rfl, hZ, hh⟩ := hP
  have hx := Bd.exec
  have hby := Bd.bytes
  have hml : c.maxLocals = 6 := hml0
  have hown : s.vm.findClass "java/lang/StringUTF16" = some m.cls := findClass_of_methodNamed Bd.named
  have hnm := (name_of_methodNamed Bd.named Bd.method).1
  have X0 : Stand p l e ({ frames := 1, cells := 1, slots := 2, locals := 18 } : Room) s m #[(.ref a1), (.int (0 : Int32)), (.int (2 : Int32))] below meth c s₁ [] 0 0 := Stand.of_body Bd
  have e0 : s₁.heap = h0 := by rw [← hh, Bd.state]; rfl
  have N0 := Fr.nil n0
  refine GoW.mk ?_
  refine GoW.st (fun t k => castTop (ef4_rm4_8 m a1) k) ?_
  show GoW p e below s (Q4_8 Z a1 ka1 x2 x3 x4 a5 a6 h0 n0) 1 2 (s₁.setTop (mkF m 0 (Sh6 a1 0 2) []))
  refine GoW.sg (mkF m 1 (Sh6 a1 0 2) [(.int 2)]) (fun t k => XS.iloadN X0.here hx rfl (hb hby d4_0) rfl k) ?_
  obtain ⟨T55, h55, k55, X55, e55, E55, A55, st55⟩ := newP X0 hx hZ (ww hw 19 rfl) e0 (g := (mkF m 1 (Sh6 a1 0 2) [(.int 2)])) rfl (hb hby d4_1) rfl (by decide) (cap := 2) (by decide) (by decide) (by decide) (by decide)
  obtain ⟨b55, g55⟩ : ∃ z, z = h0.size := ⟨_, rfl⟩
  rw [← g55] at A55 st55
  have g_b55 : n0 ≤ b55 := Nat.le_trans Z0 (Nat.le_of_eq g55.symm)
  have sz_b55 : h0.size ≤ b55 := Nat.le_trans (Keep.refl h0 []).1 (Nat.le_of_eq g55.symm)
  have ne_a1_b55 : a1 ≠ b55 := Nat.ne_of_lt (Nat.lt_of_lt_of_eq P0.lt g55.symm)
  have Arv_a1_55 : Arv Z h55 a1 ka1 .char (2 : Int32) [(.int x2), (.int x3)] (.int (0 : Int32)) := P0.ext E55
  have Sta_java_lang_String_COMPACT_STRINGS_55 : Sta Z h55 "java/lang/String" "COMPACT_STRINGS" "Z" (.int x4) := P1.ext E55
  have Sta_java_lang_Integer_IntegerCache_cache_55 : Sta Z h55 "java/lang/Integer$IntegerCache" "cache" "[Ljava/lang/Integer;" (.ref a5) := P2.ext E55
  have Sta_java_lang_Integer_IntegerCache_high_55 : Sta Z h55 "java/lang/Integer$IntegerCache" "high" "I" (.int (127 : Int32)) := P3.ext E55
  have Sta_java_lang_Long_LongCache_cache_55 : Sta Z h55 "java/lang/Long$LongCache" "cache" "[Ljava/lang/Long;" (.ref a6) := P4.ext E55
  have Keep_55 : Keep h0 h55 [] := (Keep.refl h0 []).ext E55
  have Zs_55 : n0 ≤ h55.size := Nat.le_trans Z0 E55.1
  have Arv_b55_55 : Arv Z h55 b55 k55 .byte (2 : Int32) [(.int (0 : Int32)), (.int (0 : Int32))] (.int (0 : Int32)) := (Arv.new A55 (by decide)).pad (pad_rep [] (.int (0 : Int32)) 2)
  refine GoW.sg (mkF m 3 (Sh6 a1 0 2) [(.ref b55)]) (fun t k => st55 t k) ?_
  refine GoW.sg (mkF m 4 (Sh7 a1 0 2 b55) []) (fun t k => XS.astoreN X55.here hx rfl (hb hby d4_3) rfl rfl (l' := (Sh7 a1 0 2 b55)) rfl k) ?_
  refine GoW.sg (mkF m 5 (Sh7 a1 0 2 b55) [(.ref a1)]) (fun t k => XS.aloadN X55.here hx rfl (hb hby d4_4) rfl rfl k) ?_
  refine GoW.sg (mkF m 6 (Sh7 a1 0 2 b55) [(.int 0), (.ref a1)]) (fun t k => XS.iloadN X55.here hx rfl (hb hby d4_5) rfl k) ?_
  refine GoW.sg (mkF m 7 (Sh7 a1 0 2 b55) [(.ref b55), (.int 0), (.ref a1)]) (fun t k => XS.aloadN X55.here hx rfl (hb hby d4_6) rfl rfl k) ?_
  refine GoW.sg (mkF m 8 (Sh7 a1 0 2 b55) [(.int 0), (.ref b55), (.int 0), (.ref a1)]) (fun t k => XS.iconst X55.here hx rfl (hb hby d4_7) k) ?_
  refine GoW.sg (mkF m 9 (Sh7 a1 0 2 b55) [(.int 2), (.int 0), (.ref b55), (.int 0), (.ref a1)]) (fun t k => XS.iloadN X55.here hx rfl (hb hby d4_8) rfl k) ?_
  obtain ⟨_, _, ⟨T56, L56, k56, n56⟩, -, X56, ⟨Lc56, hQ56, l56, y56, z56⟩, st56⟩ := Jvm.LawKit.callS X55 hx (y := (⟨"java/lang/StringUTF16", "compress", "([CI[BII)I"⟩ : MethodName)) hown (mvT hZ (ww hw 20 rfl)) (mvT hZ (ww hw 21 rfl)) (mvT hZ (ww hw 17 rfl)) (mvT hZ (ww hw 22 rfl)) (by decide) (backOf (W := 0) (rm5_7 l Z a0 hw [] a1 b55 ka1 x2 x3 k55 x4 a5 a6 h55 n0  Arv_a1_55 Arv_b55_55 Sta_java_lang_String_COMPACT_STRINGS_55 Sta_java_lang_Integer_IntegerCache_cache_55 Sta_java_lang_Integer_IntegerCache_high_55 Sta_java_lang_Long_LongCache_cache_55 g_b55 ne_a1_b55 u0 u1 u2 ) hZ (ww hw 22 rfl) (ww hw 17 rfl) (by decide) (by decide)) (g := (mkF m 9 (Sh7 a1 0 2 b55) [(.int 2), (.int 0), (.ref b55), (.int 0), (.ref a1)])) rfl (by rw [hml]; rfl) (argsL := [(.ref a1), (.int (0 : Int32)), (.ref b55), (.int (0 : Int32)), (.int (2 : Int32))]) (rest := []) (lenOf pd_285bCI5bBII29I rfl) rfl (by show 2 * 0 + _ ≤ _; exact Nat.le_of_eq rfl) (hb hby d4_9) (fun _ _ => ⟨rfl, e55, (by decide : 1 + 0 ≤ _), (by decide : 2 + 0 ≤ _)⟩)
  dsimp only [Pt.U, Pt.locs, Pt.cells, Pt.slots] at X56 l56 y56 z56 st56 hQ56
  subst l56 y56 z56
  obtain ⟨rfl, N56q, K56, p56_0⟩ := hQ56
  have N56 := Fr.app N0 N56q
  have Arv_a1_56 : Arv Z T56.heap a1 ka1 .char (2 : Int32) [(.int x2), (.int x3)] (.int (0 : Int32)) := Arv_a1_55.keep K56 (ninS ne_a1_b55 nin0)
  have Sta_java_lang_String_COMPACT_STRINGS_56 : Sta Z T56.heap "java/lang/String" "COMPACT_STRINGS" "Z" (.int x4) := own_staK Sta_java_lang_String_COMPACT_STRINGS_55 K56 (allS (own_nsA Arv_b55_55) all0)
  have Sta_java_lang_Integer_IntegerCache_cache_56 : Sta Z T56.heap "java/lang/Integer$IntegerCache" "cache" "[Ljava/lang/Integer;" (.ref a5) := own_staK Sta_java_lang_Integer_IntegerCache_cache_55 K56 (allS (own_nsA Arv_b55_55) all0)
  have Sta_java_lang_Integer_IntegerCache_high_56 : Sta Z T56.heap "java/lang/Integer$IntegerCache" "high" "I" (.int (127 : Int32)) := own_staK Sta_java_lang_Integer_IntegerCache_high_55 K56 (allS (own_nsA Arv_b55_55) all0)
  have Sta_java_lang_Long_LongCache_cache_56 : Sta Z T56.heap "java/lang/Long$LongCache" "cache" "[Ljava/lang/Long;" (.ref a6) := own_staK Sta_java_lang_Long_LongCache_cache_55 K56 (allS (own_nsA Arv_b55_55) all0)
  have Keep_56 : Keep h0 T56.heap [] := Keep_55.trans K56 (allS (Or.inr sz_b55) all0)
  have Zs_56 : n0 ≤ T56.heap.size := Nat.le_trans Zs_55 K56.1
  refine GoW.sg (mkF m 12 (Sh7 a1 0 2 b55) [(.int 2)]) (fun t k => st56 t k) ?_
  refine GoW.sg (mkF m 14 (Sh11 a1 0 2 b55 2) []) (fun t k => XS.istore X56.here hx rfl (hb hby d4_12) rfl (l' := (Sh11 a1 0 2 b55 2)) rfl k) ?_
  refine GoW.sg (mkF m 16 (Sh11 a1 0 2 b55 2) [(.int 2)]) (fun t k => XS.iload X56.here hx rfl (hb hby d4_14) rfl k) ?_
  refine GoW.sg (mkF m 17 (Sh11 a1 0 2 b55 2) [(.int 2), (.int 2)]) (fun t k => XS.iloadN X56.here hx rfl (hb hby d4_16) rfl k) ?_
  refine GoW.sg (mkF m 57 (Sh11 a1 0 2 b55 2) []) (fun t k => XS.icmpYes X56.here hx rfl (pc0 := 17) (pc' := 57) rfl (hb hby d4_17) rfl (by decide) (by decide) (by decide) k) ?_
  refine GoW.sg (mkF m 58 (Sh11 a1 0 2 b55 2) [(.ref b55)]) (fun t k => XS.aloadN X56.here hx rfl (hb hby d4_57) rfl rfl k) ?_
  refine GoW.retA X56 hx Bd.returns rfl rfl rfl (hb hby d4_58) Bd.notSynchronized ?_ (by decide) (by decide)
  exact ⟨b55, k55, rfl, N56, Keep_56, p56_0, sz_b55⟩
def Q6_9 (Z : State) (a1 : Addr) (ka1 : ClassId) (x2 : Int32) (x3 : Int32) (x4 : Int32) (a5 : Addr) (a6 : Addr) (h0 : Heap) (n0 : Nat) (v : Option Value) (h : Heap) (L : List Loc) : Prop := v = some (.int (0 : Int32)) ∧ Fr n0 L ∧ (h = h0)
theorem ef6_rm6_9 (m : MethodId) (a1 : Addr) : entryFrame m #[(.ref a1), (.int (2 : Int32))] 2 = (mkF m 0 #[.val (.ref a1), .val (.int 2)] []) := by first | (simp [entryFrame, mkF, argsToLocals, Value.category, maxLocals]; done) | rfl
set_option maxRecDepth 65536 in
set_option maxHeartbeats 40000000 in
theorem rm6_9 (l : Launch) (Z : State) (a0 : Array Value) (hw : ∀ d ∈ tables_1, d.before a0 Z = true) (ws : List Jvm.Cond) (a1 : Addr) (ka1 : ClassId) (x2 : Int32) (x3 : Int32) (x4 : Int32) (a5 : Addr) (a6 : Addr) (h0 : Heap) (n0 : Nat) (P0 : Arv Z h0 a1 ka1 .byte (2 : Int32) [(.int x2), (.int x3)] (.int (0 : Int32))) (P1 : Sta Z h0 "java/lang/String" "COMPACT_STRINGS" "Z" (.int x4)) (P2 : Sta Z h0 "java/lang/Integer$IntegerCache" "cache" "[Ljava/lang/Integer;" (.ref a5)) (P3 : Sta Z h0 "java/lang/Integer$IntegerCache" "high" "I" (.int (127 : Int32))) (P4 : Sta Z h0 "java/lang/Long$LongCache" "cache" "[Ljava/lang/Long;" (.ref a6))   (u0 : ¬ (x4 = (0 : Int32)))  :
    MetFree l (⟨"java/lang/StringUTF16", "coderFromArrayLen", "([BI)B"⟩ : MethodName) (head1 (Jvm.Cond.code (⟨"java/lang/StringUTF16", "coderFromArrayLen", "([BI)B"⟩ : MethodName) jdk_52_method_15_code 2 (some .byte) :: ws) ({ frames := 0, cells := 0, slots := 0, locals := 0 } : Room)) (fun a U => a = #[(.ref a1), (.int (2 : Int32))] ∧ Z.Warmed39 U.vm ∧ U.heap = h0) (fun _ _ _ _ _ => True) (fun _ U o U' => ∃ v L, o = .returned v ∧ (Q6_9 Z a1 ka1 x2 x3 x4 a5 a6 h0 n0) v U'.heap L ∧ FrameEnd U o U' L 0 0) := by
  refine MetFree.of_bodySF (plainFor_of_name pn_java_lang_StringUTF16) hisR ?_
  intro p e s m args below meth c s₁ Bd hml0 hP hK
  obtain ⟨rfl, hZ, hh⟩ := hP
  have hx := Bd.exec
  have hby := Bd.bytes
  have hml : c.maxLocals = 2 := hml0
  have hown : s.vm.findClass "java/lang/StringUTF16" = some m.cls := findClass_of_methodNamed Bd.named
  have hnm := (name_of_methodNamed Bd.named Bd.method).1
  have X0 : Stand p l e ({ frames := 0, cells := 0, slots := 0, locals := 0 } : Room) s m #[(.ref a1), (.int (2 : Int32))] below meth c s₁ [] 0 0 := Stand.of_body Bd
  have e0 : s₁.heap = h0 := by rw [← hh, Bd.state]; rfl
  have N0 := Fr.nil n0
  refine GoW.mk ?_
  refine GoW.st (fun t k => castTop (ef6_rm6_9 m a1) k) ?_
  show GoW p e below s (Q6_9 Z a1 ka1 x2 x3 x4 a5 a6 h0 n0) 0 0 (s₁.setTop (mkF m 0 #[.val (.ref a1), .val (.int 2)] []))
  refine GoW.sg (mkF m 1 #[.val (.ref a1), .val (.int 2)] [(.int 2)]) (fun t k => XS.iloadN X0.here hx rfl (hb hby d6_0) rfl k) ?_
  refine GoW.sg (mkF m 2 #[.val (.ref a1), .val (.int 2)] [(.ref a1), (.int 2)]) (fun t k => XS.aloadN X0.here hx rfl (hb hby d6_1) rfl rfl k) ?_
  obtain ⟨cl59, Ar59, q59, Sz59, Nn59, Hh59, Gg59⟩ := id P0
  have st59 := X0.arraylength hx (hq_ e0 Ar59.1) (State.isArrayOf_alike hZ.alike Ar59.2.1) (g := (mkF m 2 #[.val (.ref a1), .val (.int 2)] [(.ref a1), (.int 2)])) rfl rfl (hb hby d6_2)
  rw [len_of Sz59 Nn59] at st59
  refine GoW.sg (mkF m 3 #[.val (.ref a1), .val (.int 2)] [(.int 2), (.int 2)]) (fun t k => st59 t k) ?_
  refine GoW.st (fun t k => XS.isub X0.here hx rfl (hb hby d6_3) rfl k) ?_
  rw [show ((2 : Int32) - (2 : Int32)) = (0 : Int32) from by decide]
  show GoW p e below s (Q6_9 Z a1 ka1 x2 x3 x4 a5 a6 h0 n0) 0 0 (s₁.setTop (mkF m 4 #[.val (.ref a1), .val (.int 2)] [(.int 0)]))
  refine GoW.sg (mkF m 6 #[.val (.ref a1), .val (.int 2)] [(.int 31), (.int 0)]) (fun t k => XS.bipush X0.here hx rfl (hb hby d6_4) k) ?_
  refine GoW.st (fun t k => XS.iushr X0.here hx rfl (hb hby d6_6) rfl k) ?_
  rw [show ((0 : Int32).toUInt32 >>> ((31 : Int32) &&& 31).toUInt32).toInt32 = (0 : Int32) from by decide]
  show GoW p e below s (Q6_9 Z a1 ka1 x2 x3 x4 a5 a6 h0 n0) 0 0 (s₁.setTop (mkF m 7 #[.val (.ref a1), .val (.int 2)] [(.int 0)]))
  refine GoW.st (fun t k => XS.i2b X0.here hx rfl (hb hby d6_7) rfl k) ?_
  rw [show (0 : Int32).toInt8.toInt32 = (0 : Int32) from by decide]
  show GoW p e below s (Q6_9 Z a1 ka1 x2 x3 x4 a5 a6 h0 n0) 0 0 (s₁.setTop (mkF m 8 #[.val (.ref a1), .val (.int 2)] [(.int 0)]))
  refine GoW.retN X0 hx (t := .byte) Bd.returns (by simp) (hb hby d6_8) Bd.notSynchronized ?_ (by decide) (by decide)
  rw [e0]
  exact ⟨rfl, N0, rfl⟩
def Q2_10 (Z : State) (a1 : Addr) (a2 : Addr) (ka2 : ClassId) (x3 : Int32) (x4 : Int32) (x5 : Int32) (a6 : Addr) (a7 : Addr) (h0 : Heap) (n0 : Nat) (v : Option Value) (h : Heap) (L : List Loc) : Prop := ∃ e0 : Addr, ∃ ke0 : ClassId, v = none ∧ Fr n0 L ∧ (Keep h0 h [a1]) ∧ (Exa Z h a1 "java/lang/String") ∧ (Fld Z h a1 "java/lang/String" "coder" "B" (.int (0 : Int32))) ∧ (Fld Z h a1 "java/lang/String" "value" "[B" (.ref e0)) ∧ (Arv Z h e0 ke0 .byte (2 : Int32) [(.int (nar .byte x3.toInt8.toInt32)), (.int (nar .byte x4.toInt8.toInt32))] (.int (0 : Int32))) ∧ (h0.size ≤ e0)
theorem ef2_rm2_10 (m : MethodId) (a1 : Addr) (a2 : Addr) : entryFrame m #[(.ref a1), (.ref a2), (.int (0 : Int32)), (.int (2 : Int32)), .null] 6 = (mkF m 0 #[.val (.ref a1), .val (.ref a2), .val (.int 0), .val (.int 2), .val .null, .unset] []) := by first | (simp [entryFrame, mkF, argsToLocals, Value.category, maxLocals]; done) | rfl
set_option maxRecDepth 65536 in
set_option maxHeartbeats 40000000 in
theorem rm2_10 (l : Launch) (Z : State) (a0 : Array Value) (hw : ∀ d ∈ tables_1, d.before a0 Z = true) (ws : List Jvm.Cond) (a1 : Addr) (a2 : Addr) (ka2 : ClassId) (x3 : Int32) (x4 : Int32) (x5 : Int32) (a6 : Addr) (a7 : Addr) (h0 : Heap) (n0 : Nat) (Z0 : n0 ≤ h0.size) (P0 : Arv Z h0 a2 ka2 .char (2 : Int32) [(.int x3), (.int x4)] (.int (0 : Int32))) (P1 : Exa Z h0 a1 "java/lang/String") (P2 : Fld Z h0 a1 "java/lang/String" "coder" "B" (.int (0 : Int32))) (P3 : Fld Z h0 a1 "java/lang/String" "value" "[B" .null) (P4 : Sta Z h0 "java/lang/String" "COMPACT_STRINGS" "Z" (.int x5)) (P5 : Sta Z h0 "java/lang/Integer$IntegerCache" "cache" "[Ljava/lang/Integer;" (.ref a6)) (P6 : Sta Z h0 "java/lang/Integer$IntegerCache" "high" "I" (.int (127 : Int32))) (P7 : Sta Z h0 "java/lang/Long$LongCache" "cache" "[Ljava/lang/Long;" (.ref a7)) (g_a1 : n0 ≤ a1) (ne_a2_a1 : a2 ≠ a1) (u0 : ¬ (x5 = (0 : Int32))) (u1 : ¬ ((255 : Int32) < x3)) (u2 : ¬ ((255 : Int32) < x4))  :
    MetFree l (⟨"java/lang/String", "<init>", "([CIILjava/lang/Void;)V"⟩ : MethodName) (head1 (Jvm.Cond.code (⟨"java/lang/String", "<init>", "([CIILjava/lang/Void;)V"⟩ : MethodName) jdk_42_method_149_code 6 none :: ws) ({ frames := 2, cells := 1, slots := 2, locals := 35 } : Room)) (fun a U => a = #[(.ref a1), (.ref a2), (.int (0 : Int32)), (.int (2 : Int32)), .null] ∧ Z.Warmed39 U.vm ∧ U.heap = h0) (fun _ _ _ _ _ => True) (fun _ U o U' => ∃ v L, o = .returned v ∧ (Q2_10 Z a1 a2 ka2 x3 x4 x5 a6 a7 h0 n0) v U'.heap L ∧ FrameEnd U o U' L 1 2) := by
  refine MetFree.of_bodySF (plainFor_of_name pn_java_lang_String) hisR ?_
  intro p e s m args below meth c s₁ Bd hml0 hP hK
  obtain ⟨rfl, hZ, hh⟩ := hP
  have hx := Bd.exec
  have hby := Bd.bytes
  have hml : c.maxLocals = 6 := hml0
  have hown : s.vm.findClass "java/lang/String" = some m.cls := findClass_of_methodNamed Bd.named
  have hnm := (name_of_methodNamed Bd.named Bd.method).1
  have X0 : Stand p l e ({ frames := 2, cells := 1, slots := 2, locals := 35 } : Room) s m #[(.ref a1), (.ref a2), (.int (0 : Int32)), (.int (2 : Int32)), .null] below meth c s₁ [] 0 0 := Stand.of_body Bd
  have e0 : s₁.heap = h0 := by rw [← hh, Bd.state]; rfl
  have N0 := Fr.nil n0
  refine GoW.mk ?_
  refine GoW.st (fun t k => castTop (ef2_rm2_10 m a1 a2) k) ?_
  show GoW p e below s (Q2_10 Z a1 a2 ka2 x3 x4 x5 a6 a7 h0 n0) 1 2 (s₁.setTop (mkF m 0 (Sh5 a1 a2 0 2) []))
  refine GoW.sg (mkF m 1 (Sh5 a1 a2 0 2) [(.ref a1)]) (fun t k => XS.aloadN X0.here hx rfl (hb hby d2_0) rfl rfl k) ?_
  obtain ⟨T63, X63, e63, st63⟩ := initO X0 hx hZ hown (ww hw 11 rfl) (ww hw 12 rfl) (ww hw 13 rfl) e0 (g := (mkF m 1 (Sh5 a1 a2 0 2) [(.ref a1)])) rfl (by rw [hml]; rfl) rfl (hb hby d2_1) (by decide) (W := 0) (by show 2 * 0 + _ ≤ _; exact Nat.le_of_eq rfl) (by decide)
  refine GoW.sg (mkF m 4 (Sh5 a1 a2 0 2) []) (fun t k => st63 t k) ?_
  refine GoW.sg (mkF m 5 (Sh5 a1 a2 0 2) [(.int 2)]) (fun t k => XS.iloadN X63.here hx rfl (hb hby d2_4) rfl k) ?_
  refine GoW.sg (mkF m 27 (Sh5 a1 a2 0 2) []) (fun t k => XS.ifYes X63.here hx rfl (pc0 := 5) (pc' := 27) rfl (hb hby d2_5) rfl (by decide) (by decide) (by decide) k) ?_
  obtain ⟨T64, X64, e64, st64⟩ := getS (host := "") X63 hx hZ hown (ww hw 14 rfl) Via.refl e63 P4 (g := (mkF m 27 (Sh5 a1 a2 0 2) [])) rfl (hb hby d2_27)
  refine GoW.sg (mkF m 30 (Sh5 a1 a2 0 2) [(.int x5)]) (fun t k => st64 t k) ?_
  refine GoW.sg (mkF m 33 (Sh5 a1 a2 0 2) []) (fun t k => XS.ifNo X64.here hx rfl (hb hby d2_30) rfl ((if0 _ _).trans (feq u0).1) k) ?_
  refine GoW.sg (mkF m 34 (Sh5 a1 a2 0 2) [(.ref a2)]) (fun t k => XS.aloadN X64.here hx rfl (hb hby d2_33) rfl rfl k) ?_
  refine GoW.sg (mkF m 35 (Sh5 a1 a2 0 2) [(.int 0), (.ref a2)]) (fun t k => XS.iloadN X64.here hx rfl (hb hby d2_34) rfl k) ?_
  refine GoW.sg (mkF m 36 (Sh5 a1 a2 0 2) [(.int 2), (.int 0), (.ref a2)]) (fun t k => XS.iloadN X64.here hx rfl (hb hby d2_35) rfl k) ?_
  obtain ⟨_, _, ⟨T65, L65, k65, n65⟩, -, X65, ⟨Lc65, hQ65, l65, y65, z65⟩, st65⟩ := Jvm.LawKit.callS X64 hx (y := (⟨"java/lang/StringUTF16", "compress", "([CII)[B"⟩ : MethodName)) hown (mvT hZ (ww hw 15 rfl)) (mvT hZ (ww hw 16 rfl)) (mvT hZ (ww hw 17 rfl)) (mvT hZ (ww hw 18 rfl)) (by decide) (backOf (W := 0) (rm4_8 l Z a0 hw [] a2 ka2 x3 x4 x5 a6 a7 h0 n0 Z0 P0 P4 P5 P6 P7   u0 u1 u2 ) hZ (ww hw 18 rfl) (ww hw 17 rfl) (by decide) (by decide)) (g := (mkF m 36 (Sh5 a1 a2 0 2) [(.int 2), (.int 0), (.ref a2)])) rfl (by rw [hml]; rfl) (argsL := [(.ref a2), (.int (0 : Int32)), (.int (2 : Int32))]) (rest := []) (lenOf pd_285bCII295bB rfl) rfl (by show 2 * 0 + _ ≤ _; exact Nat.le_of_eq rfl) (hb hby d2_36) (fun _ _ => ⟨rfl, e64, (by decide : 0 + 1 ≤ _), (by decide : 0 + 2 ≤ _)⟩)
  dsimp only [Pt.U, Pt.locs, Pt.cells, Pt.slots] at X65 l65 y65 z65 st65 hQ65
  subst l65 y65 z65
  obtain ⟨b65_e0, k65_ke0, rfl, N65q, K65, p65_0, hz_b65_e0⟩ := hQ65
  have g_b65_e0 : n0 ≤ b65_e0 := Nat.le_trans Z0 hz_b65_e0
  have sz_b65_e0 : h0.size ≤ b65_e0 := Nat.le_trans (Keep.refl h0 [a1]).1 hz_b65_e0
  have ne_a2_b65_e0 : a2 ≠ b65_e0 := Nat.ne_of_lt (Nat.lt_of_lt_of_le P0.lt hz_b65_e0)
  have ne_a1_b65_e0 : a1 ≠ b65_e0 := Nat.ne_of_lt (Nat.lt_of_lt_of_le P1.lt hz_b65_e0)
  have N65 := Fr.app N0 N65q
  have Arv_a2_65 : Arv Z T65.heap a2 ka2 .char (2 : Int32) [(.int x3), (.int x4)] (.int (0 : Int32)) := P0.keep K65 nin0
  have Exa_a1_65 : Exa Z T65.heap a1 "java/lang/String" := P1.keep K65
  have Fld_a1_coder_65 : Fld Z T65.heap a1 "java/lang/String" "coder" "B" (.int (0 : Int32)) := P2.keep K65 nin0
  have Fld_a1_value_65 : Fld Z T65.heap a1 "java/lang/String" "value" "[B" .null := P3.keep K65 nin0
  have Sta_java_lang_String_COMPACT_STRINGS_65 : Sta Z T65.heap "java/lang/String" "COMPACT_STRINGS" "Z" (.int x5) := own_staK0 P4 K65
  have Sta_java_lang_Integer_IntegerCache_cache_65 : Sta Z T65.heap "java/lang/Integer$IntegerCache" "cache" "[Ljava/lang/Integer;" (.ref a6) := own_staK0 P5 K65
  have Sta_java_lang_Integer_IntegerCache_high_65 : Sta Z T65.heap "java/lang/Integer$IntegerCache" "high" "I" (.int (127 : Int32)) := own_staK0 P6 K65
  have Sta_java_lang_Long_LongCache_cache_65 : Sta Z T65.heap "java/lang/Long$LongCache" "cache" "[Ljava/lang/Long;" (.ref a7) := own_staK0 P7 K65
  have Keep_65 : Keep h0 T65.heap [a1] := (Keep.refl h0 [a1]).trans K65 all0
  have Zs_65 : n0 ≤ T65.heap.size := Nat.le_trans Z0 K65.1
  refine GoW.sg (mkF m 39 (Sh5 a1 a2 0 2) [(.ref b65_e0)]) (fun t k => st65 t k) ?_
  refine GoW.sg (mkF m 41 (Sh12 a1 a2 0 2 b65_e0) []) (fun t k => XS.astore X65.here hx rfl (hb hby d2_39) rfl rfl (l' := (Sh12 a1 a2 0 2 b65_e0)) rfl k) ?_
  refine GoW.sg (mkF m 42 (Sh12 a1 a2 0 2 b65_e0) [(.ref a1)]) (fun t k => XS.aloadN X65.here hx rfl (hb hby d2_41) rfl rfl k) ?_
  refine GoW.sg (mkF m 44 (Sh12 a1 a2 0 2 b65_e0) [(.ref b65_e0), (.ref a1)]) (fun t k => XS.aload X65.here hx rfl (hb hby d2_42) rfl rfl k) ?_
  refine GoW.sg (mkF m 45 (Sh12 a1 a2 0 2 b65_e0) [(.int 2), (.ref b65_e0), (.ref a1)]) (fun t k => XS.iloadN X65.here hx rfl (hb hby d2_44) rfl k) ?_
  obtain ⟨_, _, ⟨T66, L66, k66, n66⟩, -, X66, ⟨Lc66, hQ66, l66, y66, z66⟩, st66⟩ := Jvm.LawKit.callS X65 hx (y := (⟨"java/lang/StringUTF16", "coderFromArrayLen", "([BI)B"⟩ : MethodName)) hown (mvT hZ (ww hw 23 rfl)) (mvT hZ (ww hw 24 rfl)) (mvT hZ (ww hw 17 rfl)) (mvT hZ (ww hw 25 rfl)) (by decide) (backOf (W := 1) (rm6_9 l Z a0 hw [] b65_e0 k65_ke0 (nar .byte x3.toInt8.toInt32) (nar .byte x4.toInt8.toInt32) x5 a6 a7 T65.heap n0  p65_0 Sta_java_lang_String_COMPACT_STRINGS_65 Sta_java_lang_Integer_IntegerCache_cache_65 Sta_java_lang_Integer_IntegerCache_high_65 Sta_java_lang_Long_LongCache_cache_65   u0 ) hZ (ww hw 25 rfl) (ww hw 17 rfl) (by decide) (by decide)) (g := (mkF m 45 (Sh12 a1 a2 0 2 b65_e0) [(.int 2), (.ref b65_e0), (.ref a1)])) rfl (by rw [hml]; rfl) (argsL := [(.ref b65_e0), (.int (2 : Int32))]) (rest := [(.ref a1)]) (lenOf pd_285bBI29B rfl) rfl (by show 2 * 0 + _ ≤ _; exact Nat.le_of_eq rfl) (hb hby d2_45) (fun _ _ => ⟨rfl, rfl, (by decide : 1 + 0 ≤ _), (by decide : 2 + 0 ≤ _)⟩)
  dsimp only [Pt.U, Pt.locs, Pt.cells, Pt.slots] at X66 l66 y66 z66 st66 hQ66
  subst l66 y66 z66
  obtain ⟨rfl, N66q, e66⟩ := hQ66
  have N66 := Fr.app N65 N66q
  refine GoW.sg (mkF m 48 (Sh12 a1 a2 0 2 b65_e0) [(.int 0), (.ref a1)]) (fun t k => st66 t k) ?_
  obtain ⟨T67, h67, X67, e67, W67, st67⟩ := putF X66 hx hZ hown (host := "") (Or.inl (ww hw 26 rfl)) Via.refl e66 Fld_a1_coder_65 Exa_a1_65 (Or.inr ⟨(ww hw 27 rfl), rfl, hnm⟩) (ww hw 2 rfl) (ty := .byte) (by decide) rfl rfl (g := (mkF m 48 (Sh12 a1 a2 0 2 b65_e0) [(.int 0), (.ref a1)])) rfl rfl (hb hby d2_48)
  have N67 := Fr.snoc X67 N66 g_a1
  have Arv_a2_67 : Arv Z h67 a2 ka2 .char (2 : Int32) [(.int x3), (.int x4)] (.int (0 : Int32)) := Arv_a2_65.other W67 ne_a2_a1
  have Exa_a1_67 : Exa Z h67 a1 "java/lang/String" := Exa_a1_65.wr W67
  have Fld_a1_value_67 : Fld Z h67 a1 "java/lang/String" "value" "[B" .null := Fld_a1_value_65.other W67 (Or.inr (slot_ne (t := (.array .byte)) (t' := .byte) (Or.inr (ww hw 29 rfl)) (Or.inr (ww hw 27 rfl)) (by decide) (by decide) (by decide)))
  have Sta_java_lang_String_COMPACT_STRINGS_67 : Sta Z h67 "java/lang/String" "COMPACT_STRINGS" "Z" (.int x5) := Sta_java_lang_String_COMPACT_STRINGS_65.wr W67
  have Sta_java_lang_Integer_IntegerCache_cache_67 : Sta Z h67 "java/lang/Integer$IntegerCache" "cache" "[Ljava/lang/Integer;" (.ref a6) := Sta_java_lang_Integer_IntegerCache_cache_65.wr W67
  have Sta_java_lang_Integer_IntegerCache_high_67 : Sta Z h67 "java/lang/Integer$IntegerCache" "high" "I" (.int (127 : Int32)) := Sta_java_lang_Integer_IntegerCache_high_65.wr W67
  have Sta_java_lang_Long_LongCache_cache_67 : Sta Z h67 "java/lang/Long$LongCache" "cache" "[Ljava/lang/Long;" (.ref a7) := Sta_java_lang_Long_LongCache_cache_65.wr W67
  have Keep_67 : Keep h0 h67 [a1] := Keep_65.wr W67 (Or.inl (List.mem_of_getElem? (i := 0) rfl))
  have Zs_67 : n0 ≤ h67.size := Nat.le_trans Zs_65 (Nat.le_of_eq W67.size.symm)
  have Arv_b65_e0_67 : Arv Z h67 b65_e0 k65_ke0 .byte (2 : Int32) [(.int (nar .byte x3.toInt8.toInt32)), (.int (nar .byte x4.toInt8.toInt32))] (.int (0 : Int32)) := p65_0.other W67 (Ne.symm ne_a1_b65_e0)
  have Fld_a1_coder_67 : Fld Z h67 a1 "java/lang/String" "coder" "B" (.int (0 : Int32)) := Fld_a1_coder_65.same W67
  refine GoW.sg (mkF m 51 (Sh12 a1 a2 0 2 b65_e0) []) (fun t k => st67 t k) ?_
  refine GoW.sg (mkF m 52 (Sh12 a1 a2 0 2 b65_e0) [(.ref a1)]) (fun t k => XS.aloadN X67.here hx rfl (hb hby d2_51) rfl rfl k) ?_
  refine GoW.sg (mkF m 54 (Sh12 a1 a2 0 2 b65_e0) [(.ref b65_e0), (.ref a1)]) (fun t k => XS.aload X67.here hx rfl (hb hby d2_52) rfl rfl k) ?_
  obtain ⟨T68, h68, X68, e68, W68, st68⟩ := putF X67 hx hZ hown (host := "") (Or.inl (ww hw 28 rfl)) Via.refl e67 Fld_a1_value_67 Exa_a1_67 (Or.inr ⟨(ww hw 29 rfl), rfl, hnm⟩) (ww hw 2 rfl) (ty := (.array .byte)) (by decide) rfl rfl (g := (mkF m 54 (Sh12 a1 a2 0 2 b65_e0) [(.ref b65_e0), (.ref a1)])) rfl rfl (hb hby d2_54)
  have N68 := Fr.snoc X68 N67 g_a1
  have Arv_a2_68 : Arv Z h68 a2 ka2 .char (2 : Int32) [(.int x3), (.int x4)] (.int (0 : Int32)) := Arv_a2_67.other W68 ne_a2_a1
  have Exa_a1_68 : Exa Z h68 a1 "java/lang/String" := Exa_a1_67.wr W68
  have Fld_a1_coder_68 : Fld Z h68 a1 "java/lang/String" "coder" "B" (.int (0 : Int32)) := Fld_a1_coder_67.other W68 (Or.inr (slot_ne (t := .byte) (t' := (.array .byte)) (Or.inr (ww hw 27 rfl)) (Or.inr (ww hw 29 rfl)) (by decide) (by decide) (by decide)))
  have Sta_java_lang_String_COMPACT_STRINGS_68 : Sta Z h68 "java/lang/String" "COMPACT_STRINGS" "Z" (.int x5) := Sta_java_lang_String_COMPACT_STRINGS_67.wr W68
  have Sta_java_lang_Integer_IntegerCache_cache_68 : Sta Z h68 "java/lang/Integer$IntegerCache" "cache" "[Ljava/lang/Integer;" (.ref a6) := Sta_java_lang_Integer_IntegerCache_cache_67.wr W68
  have Sta_java_lang_Integer_IntegerCache_high_68 : Sta Z h68 "java/lang/Integer$IntegerCache" "high" "I" (.int (127 : Int32)) := Sta_java_lang_Integer_IntegerCache_high_67.wr W68
  have Sta_java_lang_Long_LongCache_cache_68 : Sta Z h68 "java/lang/Long$LongCache" "cache" "[Ljava/lang/Long;" (.ref a7) := Sta_java_lang_Long_LongCache_cache_67.wr W68
  have Keep_68 : Keep h0 h68 [a1] := Keep_67.wr W68 (Or.inl (List.mem_of_getElem? (i := 0) rfl))
  have Zs_68 : n0 ≤ h68.size := Nat.le_trans Zs_67 (Nat.le_of_eq W68.size.symm)
  have Arv_b65_e0_68 : Arv Z h68 b65_e0 k65_ke0 .byte (2 : Int32) [(.int (nar .byte x3.toInt8.toInt32)), (.int (nar .byte x4.toInt8.toInt32))] (.int (0 : Int32)) := Arv_b65_e0_67.other W68 (Ne.symm ne_a1_b65_e0)
  have Fld_a1_value_68 : Fld Z h68 a1 "java/lang/String" "value" "[B" (.ref b65_e0) := Fld_a1_value_67.same W68
  refine GoW.sg (mkF m 57 (Sh12 a1 a2 0 2 b65_e0) []) (fun t k => st68 t k) ?_
  refine GoW.retV X68 hx Bd.returns (hb hby d2_57) Bd.notSynchronized ?_ (by decide) (by decide)
  rw [e68]
  exact ⟨b65_e0, k65_ke0, rfl, N68, Keep_68, Exa_a1_68, Fld_a1_coder_68, Fld_a1_value_68, Arv_b65_e0_68, sz_b65_e0⟩
def Q1_11 (Z : State) (a1 : Addr) (a2 : Addr) (ka2 : ClassId) (x3 : Int32) (x4 : Int32) (x5 : Int32) (a6 : Addr) (a7 : Addr) (h0 : Heap) (n0 : Nat) (v : Option Value) (h : Heap) (L : List Loc) : Prop := ∃ e0 : Addr, ∃ ke0 : ClassId, v = none ∧ Fr n0 L ∧ (Keep h0 h [a1]) ∧ (Exa Z h a1 "java/lang/String") ∧ (Fld Z h a1 "java/lang/String" "coder" "B" (.int (0 : Int32))) ∧ (Fld Z h a1 "java/lang/String" "value" "[B" (.ref e0)) ∧ (Arv Z h e0 ke0 .byte (2 : Int32) [(.int (nar .byte x3.toInt8.toInt32)), (.int (nar .byte x4.toInt8.toInt32))] (.int (0 : Int32))) ∧ (h0.size ≤ e0)
theorem ef1_rm1_11 (m : MethodId) (a1 : Addr) (a2 : Addr) : entryFrame m #[(.ref a1), (.ref a2)] 2 = (mkF m 0 #[.val (.ref a1), .val (.ref a2)] []) := by first | (simp [entryFrame, mkF, argsToLocals, Value.category, maxLocals]; done) | rfl
set_option maxRecDepth 65536 in
set_option maxHeartbeats 40000000 in
theorem rm1_11 (l : Launch) (Z : State) (a0 : Array Value) (hw : ∀ d ∈ tables_1, d.before a0 Z = true) (ws : List Jvm.Cond) (a1 : Addr) (a2 : Addr) (ka2 : ClassId) (x3 : Int32) (x4 : Int32) (x5 : Int32) (a6 : Addr) (a7 : Addr) (h0 : Heap) (n0 : Nat) (Z0 : n0 ≤ h0.size) (P0 : Arv Z h0 a2 ka2 .char (2 : Int32) [(.int x3), (.int x4)] (.int (0 : Int32))) (P1 : Exa Z h0 a1 "java/lang/String") (P2 : Fld Z h0 a1 "java/lang/String" "coder" "B" (.int (0 : Int32))) (P3 : Fld Z h0 a1 "java/lang/String" "value" "[B" .null) (P4 : Sta Z h0 "java/lang/String" "COMPACT_STRINGS" "Z" (.int x5)) (P5 : Sta Z h0 "java/lang/Integer$IntegerCache" "cache" "[Ljava/lang/Integer;" (.ref a6)) (P6 : Sta Z h0 "java/lang/Integer$IntegerCache" "high" "I" (.int (127 : Int32))) (P7 : Sta Z h0 "java/lang/Long$LongCache" "cache" "[Ljava/lang/Long;" (.ref a7)) (g_a1 : n0 ≤ a1) (ne_a2_a1 : a2 ≠ a1) (u0 : ¬ (x5 = (0 : Int32))) (u1 : ¬ ((255 : Int32) < x3)) (u2 : ¬ ((255 : Int32) < x4))  :
    MetFree l (⟨"java/lang/String", "<init>", "([C)V"⟩ : MethodName) (head1 (Jvm.Cond.code (⟨"java/lang/String", "<init>", "([C)V"⟩ : MethodName) jdk_42_method_3_code 2 none :: ws) ({ frames := 3, cells := 1, slots := 2, locals := 52 } : Room)) (fun a U => a = #[(.ref a1), (.ref a2)] ∧ Z.Warmed39 U.vm ∧ U.heap = h0) (fun _ _ _ _ _ => True) (fun _ U o U' => ∃ v L, o = .returned v ∧ (Q1_11 Z a1 a2 ka2 x3 x4 x5 a6 a7 h0 n0) v U'.heap L ∧ FrameEnd U o U' L 1 2) := by
  refine MetFree.of_bodySF (plainFor_of_name pn_java_lang_String) hisR ?_
  intro p e s m args below meth c s₁ Bd hml0 hP hK
  obtain ⟨rfl, hZ, hh⟩ := hP
  have hx := Bd.exec
  have hby := Bd.bytes
  have hml : c.maxLocals = 2 := hml0
  have hown : s.vm.findClass "java/lang/String" = some m.cls := findClass_of_methodNamed Bd.named
  have hnm := (name_of_methodNamed Bd.named Bd.method).1
  have X0 : Stand p l e ({ frames := 3, cells := 1, slots := 2, locals := 52 } : Room) s m #[(.ref a1), (.ref a2)] below meth c s₁ [] 0 0 := Stand.of_body Bd
  have e0 : s₁.heap = h0 := by rw [← hh, Bd.state]; rfl
  have N0 := Fr.nil n0
  refine GoW.mk ?_
  refine GoW.st (fun t k => castTop (ef1_rm1_11 m a1 a2) k) ?_
  show GoW p e below s (Q1_11 Z a1 a2 ka2 x3 x4 x5 a6 a7 h0 n0) 1 2 (s₁.setTop (mkF m 0 #[.val (.ref a1), .val (.ref a2)] []))
  refine GoW.sg (mkF m 1 #[.val (.ref a1), .val (.ref a2)] [(.ref a1)]) (fun t k => XS.aloadN X0.here hx rfl (hb hby d1_0) rfl rfl k) ?_
  refine GoW.sg (mkF m 2 #[.val (.ref a1), .val (.ref a2)] [(.ref a2), (.ref a1)]) (fun t k => XS.aloadN X0.here hx rfl (hb hby d1_1) rfl rfl k) ?_
  refine GoW.sg (mkF m 3 #[.val (.ref a1), .val (.ref a2)] [(.int 0), (.ref a2), (.ref a1)]) (fun t k => XS.iconst X0.here hx rfl (hb hby d1_2) k) ?_
  refine GoW.sg (mkF m 4 #[.val (.ref a1), .val (.ref a2)] [(.ref a2), (.int 0), (.ref a2), (.ref a1)]) (fun t k => XS.aloadN X0.here hx rfl (hb hby d1_3) rfl rfl k) ?_
  obtain ⟨cl70, Ar70, q70, Sz70, Nn70, Hh70, Gg70⟩ := id P0
  have st70 := X0.arraylength hx (hq_ e0 Ar70.1) (State.isArrayOf_alike hZ.alike Ar70.2.1) (g := (mkF m 4 #[.val (.ref a1), .val (.ref a2)] [(.ref a2), (.int 0), (.ref a2), (.ref a1)])) rfl rfl (hb hby d1_4)
  rw [len_of Sz70 Nn70] at st70
  refine GoW.sg (mkF m 5 #[.val (.ref a1), .val (.ref a2)] [(.int 2), (.int 0), (.ref a2), (.ref a1)]) (fun t k => st70 t k) ?_
  refine GoW.sg (mkF m 6 #[.val (.ref a1), .val (.ref a2)] [.null, (.int 2), (.int 0), (.ref a2), (.ref a1)]) (fun t k => XS.aconstNull X0.here hx rfl (hb hby d1_5) k) ?_
  obtain ⟨_, _, ⟨T71, L71, k71, n71⟩, -, X71, ⟨Lc71, hQ71, l71, y71, z71⟩, st71⟩ := X0.specialBack hx (y := (⟨"java/lang/String", "<init>", "([CIILjava/lang/Void;)V"⟩ : MethodName)) rfl hown (mvT hZ (ww hw 7 rfl)) (mvT hZ (ww hw 8 rfl)) (mvT hZ (ww hw 10 rfl)) (by decide) (backOf (W := 0) (rm2_10 l Z a0 hw [] a1 a2 ka2 x3 x4 x5 a6 a7 h0 n0 Z0 P0 P1 P2 P3 P4 P5 P6 P7 g_a1 ne_a2_a1 u0 u1 u2 ) hZ (ww hw 10 rfl) (ww hw 3 rfl) (by decide) (by decide)) (g := (mkF m 6 #[.val (.ref a1), .val (.ref a2)] [.null, (.int 2), (.int 0), (.ref a2), (.ref a1)])) rfl (by rw [hml]; rfl) (Steps.refl _) (a := a1) (argsL := [(.ref a2), (.int (0 : Int32)), (.int (2 : Int32)), .null]) (rest := []) (lenOf pd_285bCIILjava2flang2fVoid3b29V rfl) rfl (by show 2 * 0 + _ ≤ _; exact Nat.le_of_eq rfl) (hb hby d1_6) (fun _ _ => ⟨rfl, e0, (by decide : 0 + 1 ≤ _), (by decide : 0 + 2 ≤ _)⟩)
  dsimp only [Pt.U, Pt.locs, Pt.cells, Pt.slots] at X71 l71 y71 z71 st71 hQ71
  subst l71 y71 z71
  obtain ⟨b71_e0, k71_ke0, rfl, N71q, K71, p71_0, p71_1, p71_2, p71_3, hz_b71_e0⟩ := hQ71
  have g_b71_e0 : n0 ≤ b71_e0 := Nat.le_trans Z0 hz_b71_e0
  have sz_b71_e0 : h0.size ≤ b71_e0 := Nat.le_trans (Keep.refl h0 [a1]).1 hz_b71_e0
  have ne_a2_b71_e0 : a2 ≠ b71_e0 := Nat.ne_of_lt (Nat.lt_of_lt_of_le P0.lt hz_b71_e0)
  have ne_a1_b71_e0 : a1 ≠ b71_e0 := Nat.ne_of_lt (Nat.lt_of_lt_of_le P1.lt hz_b71_e0)
  have N71 := Fr.app N0 N71q
  have Arv_a2_71 : Arv Z T71.heap a2 ka2 .char (2 : Int32) [(.int x3), (.int x4)] (.int (0 : Int32)) := P0.keep K71 (ninS ne_a2_a1 nin0)
  have Sta_java_lang_String_COMPACT_STRINGS_71 : Sta Z T71.heap "java/lang/String" "COMPACT_STRINGS" "Z" (.int x5) := own_staK P4 K71 (allS (own_nsE P1) all0)
  have Sta_java_lang_Integer_IntegerCache_cache_71 : Sta Z T71.heap "java/lang/Integer$IntegerCache" "cache" "[Ljava/lang/Integer;" (.ref a6) := own_staK P5 K71 (allS (own_nsE P1) all0)
  have Sta_java_lang_Integer_IntegerCache_high_71 : Sta Z T71.heap "java/lang/Integer$IntegerCache" "high" "I" (.int (127 : Int32)) := own_staK P6 K71 (allS (own_nsE P1) all0)
  have Sta_java_lang_Long_LongCache_cache_71 : Sta Z T71.heap "java/lang/Long$LongCache" "cache" "[Ljava/lang/Long;" (.ref a7) := own_staK P7 K71 (allS (own_nsE P1) all0)
  have Keep_71 : Keep h0 T71.heap [a1] := (Keep.refl h0 [a1]).trans K71 (allS (Or.inl (List.mem_of_getElem? (i := 0) rfl)) all0)
  have Zs_71 : n0 ≤ T71.heap.size := Nat.le_trans Z0 K71.1
  refine GoW.sg (mkF m 9 #[.val (.ref a1), .val (.ref a2)] []) (fun t k => st71.trans k) ?_
  refine GoW.retV X71 hx Bd.returns (hb hby d1_9) Bd.notSynchronized ?_ (by decide) (by decide)
  exact ⟨b71_e0, k71_ke0, rfl, N71, Keep_71, p71_0, p71_1, p71_2, p71_3, sz_b71_e0⟩
def Q9_12 (Z : State) (a1 : Addr) (a2 : Addr) (a3 : Addr) (ka3 : ClassId) (x4 : Int32) (x5 : Int32) (x6 : Int32) (a7 : Addr) (a8 : Addr) (h0 : Heap) (n0 : Nat) (v : Option Value) (h : Heap) (L : List Loc) : Prop := v = some (.ref a2) ∧ Fr n0 L ∧ (h = h0)
theorem ef9_rm9_12 (m : MethodId) (a1 : Addr) (a2 : Addr) : entryFrame m #[(.ref a1), .null, (.ref a2)] 3 = (mkF m 0 #[.val (.ref a1), .val .null, .val (.ref a2)] []) := by first | (simp [entryFrame, mkF, argsToLocals, Value.category, maxLocals]; done) | rfl
set_option maxRecDepth 65536 in
set_option maxHeartbeats 40000000 in
theorem rm9_12 (l : Launch) (Z : State) (a0 : Array Value) (hw : ∀ d ∈ tables_1, d.before a0 Z = true) (ws : List Jvm.Cond) (a1 : Addr) (a2 : Addr) (a3 : Addr) (ka3 : ClassId) (x4 : Int32) (x5 : Int32) (x6 : Int32) (a7 : Addr) (a8 : Addr) (h0 : Heap) (n0 : Nat) (P0 : Exa Z h0 a1 "java/lang/String") (P1 : Fld Z h0 a1 "java/lang/String" "coder" "B" (.int (0 : Int32))) (P2 : Fld Z h0 a1 "java/lang/String" "value" "[B" (.ref a3)) (P3 : Exa Z h0 a2 "java/lang/Integer") (P4 : Arv Z h0 a3 ka3 .byte (2 : Int32) [(.int x4), (.int x5)] (.int (0 : Int32))) (P5 : Sta Z h0 "java/lang/String" "COMPACT_STRINGS" "Z" (.int x6)) (P6 : Sta Z h0 "java/lang/Integer$IntegerCache" "cache" "[Ljava/lang/Integer;" (.ref a7)) (P7 : Sta Z h0 "java/lang/Integer$IntegerCache" "high" "I" (.int (127 : Int32))) (P8 : Sta Z h0 "java/lang/Long$LongCache" "cache" "[Ljava/lang/Long;" (.ref a8))  (ne_a1_a3 : a1 ≠ a3) (u0 : ¬ (x6 = (0 : Int32)))  :
    MetFree l (⟨"com/example/relaystack/relaystack/CommandLine", "once", "(Ljava/lang/String;Ljava/lang/Object;Ljava/lang/Object;)Ljava/lang/Object;"⟩ : MethodName) (head1 (Jvm.Cond.code (⟨"com/example/relaystack/relaystack/CommandLine", "once", "(Ljava/lang/String;Ljava/lang/Object;Ljava/lang/Object;)Ljava/lang/Object;"⟩ : MethodName) prog_7_method_3_code 3 (some (.object "java/lang/Object")) :: ws) ({ frames := 0, cells := 0, slots := 0, locals := 0 } : Room)) (fun a U => a = #[(.ref a1), .null, (.ref a2)] ∧ Z.Warmed39 U.vm ∧ U.heap = h0) (fun _ _ _ _ _ => True) (fun _ U o U' => ∃ v L, o = .returned v ∧ (Q9_12 Z a1 a2 a3 ka3 x4 x5 x6 a7 a8 h0 n0) v U'.heap L ∧ FrameEnd U o U' L 0 0) := by
  refine MetFree.of_bodySF (plainFor_of_name pn_com_example_relaystack_relaystack_CommandLine) hisR ?_
  intro p e s m args below meth c s₁ Bd hml0 hP hK
  obtain ⟨rfl, hZ, hh⟩ := hP
  have hx := Bd.exec
  have hby := Bd.bytes
  have hml : c.maxLocals = 3 := hml0
  have hown : s.vm.findClass "com/example/relaystack/relaystack/CommandLine" = some m.cls := findClass_of_methodNamed Bd.named
  have hnm := (name_of_methodNamed Bd.named Bd.method).1
  have X0 : Stand p l e ({ frames := 0, cells := 0, slots := 0, locals := 0 } : Room) s m #[(.ref a1), .null, (.ref a2)] below meth c s₁ [] 0 0 := Stand.of_body Bd
  have e0 : s₁.heap = h0 := by rw [← hh, Bd.state]; rfl
  have N0 := Fr.nil n0
  refine GoW.mk ?_
  refine GoW.st (fun t k => castTop (ef9_rm9_12 m a1 a2) k) ?_
  show GoW p e below s (Q9_12 Z a1 a2 a3 ka3 x4 x5 x6 a7 a8 h0 n0) 0 0 (s₁.setTop (mkF m 0 (Sh16 a1 a2) []))
  refine GoW.sg (mkF m 1 (Sh16 a1 a2) [.null]) (fun t k => XS.aloadN X0.here hx rfl (hb hby d9_0) rfl rfl k) ?_
  refine GoW.sg (mkF m 18 (Sh16 a1 a2) []) (fun t k => XS.ifnullYes X0.here hx rfl (pc0 := 1) (pc' := 18) rfl (hb hby d9_1) rfl (by decide) (by decide) k) ?_
  refine GoW.sg (mkF m 19 (Sh16 a1 a2) [(.ref a2)]) (fun t k => XS.aloadN X0.here hx rfl (hb hby d9_18) rfl rfl k) ?_
  refine GoW.retA X0 hx Bd.returns rfl rfl rfl (hb hby d9_19) Bd.notSynchronized ?_ (by decide) (by decide)
  rw [e0]
  exact ⟨rfl, N0, rfl⟩
def Q9_13 (Z : State) (a1 : Addr) (a2 : Addr) (a3 : Addr) (ka3 : ClassId) (x4 : Int32) (x5 : Int32) (x6 : Int32) (a7 : Addr) (a8 : Addr) (h0 : Heap) (n0 : Nat) (v : Option Value) (h : Heap) (L : List Loc) : Prop := v = some (.ref a2) ∧ Fr n0 L ∧ (h = h0)
theorem ef9_rm9_13 (m : MethodId) (a1 : Addr) (a2 : Addr) : entryFrame m #[(.ref a1), .null, (.ref a2)] 3 = (mkF m 0 #[.val (.ref a1), .val .null, .val (.ref a2)] []) := by first | (simp [entryFrame, mkF, argsToLocals, Value.category, maxLocals]; done) | rfl
set_option maxRecDepth 65536 in
set_option maxHeartbeats 40000000 in
theorem rm9_13 (l : Launch) (Z : State) (a0 : Array Value) (hw : ∀ d ∈ tables_1, d.before a0 Z = true) (ws : List Jvm.Cond) (a1 : Addr) (a2 : Addr) (a3 : Addr) (ka3 : ClassId) (x4 : Int32) (x5 : Int32) (x6 : Int32) (a7 : Addr) (a8 : Addr) (h0 : Heap) (n0 : Nat) (P0 : Exa Z h0 a1 "java/lang/String") (P1 : Fld Z h0 a1 "java/lang/String" "coder" "B" (.int (0 : Int32))) (P2 : Fld Z h0 a1 "java/lang/String" "value" "[B" (.ref a3)) (P3 : Exa Z h0 a2 "java/lang/Long") (P4 : Arv Z h0 a3 ka3 .byte (2 : Int32) [(.int x4), (.int x5)] (.int (0 : Int32))) (P5 : Sta Z h0 "java/lang/String" "COMPACT_STRINGS" "Z" (.int x6)) (P6 : Sta Z h0 "java/lang/Integer$IntegerCache" "cache" "[Ljava/lang/Integer;" (.ref a7)) (P7 : Sta Z h0 "java/lang/Integer$IntegerCache" "high" "I" (.int (127 : Int32))) (P8 : Sta Z h0 "java/lang/Long$LongCache" "cache" "[Ljava/lang/Long;" (.ref a8))  (ne_a1_a3 : a1 ≠ a3) (u0 : ¬ (x6 = (0 : Int32)))  :
    MetFree l (⟨"com/example/relaystack/relaystack/CommandLine", "once", "(Ljava/lang/String;Ljava/lang/Object;Ljava/lang/Object;)Ljava/lang/Object;"⟩ : MethodName) (head1 (Jvm.Cond.code (⟨"com/example/relaystack/relaystack/CommandLine", "once", "(Ljava/lang/String;Ljava/lang/Object;Ljava/lang/Object;)Ljava/lang/Object;"⟩ : MethodName) prog_7_method_3_code 3 (some (.object "java/lang/Object")) :: ws) ({ frames := 0, cells := 0, slots := 0, locals := 0 } : Room)) (fun a U => a = #[(.ref a1), .null, (.ref a2)] ∧ Z.Warmed39 U.vm ∧ U.heap = h0) (fun _ _ _ _ _ => True) (fun _ U o U' => ∃ v L, o = .returned v ∧ (Q9_13 Z a1 a2 a3 ka3 x4 x5 x6 a7 a8 h0 n0) v U'.heap L ∧ FrameEnd U o U' L 0 0) := by
  refine MetFree.of_bodySF (plainFor_of_name pn_com_example_relaystack_relaystack_CommandLine) hisR ?_
  intro p e s m args below meth c s₁ Bd hml0 hP hK
  obtain ⟨rfl, hZ, hh⟩ := hP
  have hx := Bd.exec
  have hby := Bd.bytes
  have hml : c.maxLocals = 3 := hml0
  have hown : s.vm.findClass "com/example/relaystack/relaystack/CommandLine" = some m.cls := findClass_of_methodNamed Bd.named
  have hnm := (name_of_methodNamed Bd.named Bd.method).1
  have X0 : Stand p l e ({ frames := 0, cells := 0, slots := 0, locals := 0 } : Room) s m #[(.ref a1), .null, (.ref a2)] below meth c s₁ [] 0 0 := Stand.of_body Bd
  have e0 : s₁.heap = h0 := by rw [← hh, Bd.state]; rfl
  have N0 := Fr.nil n0
  refine GoW.mk ?_
  refine GoW.st (fun t k => castTop (ef9_rm9_13 m a1 a2) k) ?_
  show GoW p e below s (Q9_13 Z a1 a2 a3 ka3 x4 x5 x6 a7 a8 h0 n0) 0 0 (s₁.setTop (mkF m 0 (Sh16 a1 a2) []))
  refine GoW.sg (mkF m 1 (Sh16 a1 a2) [.null]) (fun t k => XS.aloadN X0.here hx rfl (hb hby d9_0) rfl rfl k) ?_
  refine GoW.sg (mkF m 18 (Sh16 a1 a2) []) (fun t k => XS.ifnullYes X0.here hx rfl (pc0 := 1) (pc' := 18) rfl (hb hby d9_1) rfl (by decide) (by decide) k) ?_
  refine GoW.sg (mkF m 19 (Sh16 a1 a2) [(.ref a2)]) (fun t k => XS.aloadN X0.here hx rfl (hb hby d9_18) rfl rfl k) ?_
  refine GoW.retA X0 hx Bd.returns rfl rfl rfl (hb hby d9_19) Bd.notSynchronized ?_ (by decide) (by decide)
  rw [e0]
  exact ⟨rfl, N0, rfl⟩
def Q9_14 (Z : State) (a1 : Addr) (a2 : Addr) (ka2 : ClassId) (x3 : Int32) (x4 : Int32) (x5 : Int32) (a6 : Addr) (a7 : Addr) (h0 : Heap) (n0 : Nat) (v : Option Value) (h : Heap) (L : List Loc) : Prop := v = some (.ref a1) ∧ Fr n0 L ∧ (h = h0)
theorem ef9_rm9_14 (m : MethodId) (a1 : Addr) : entryFrame m #[(.ref a1), .null, (.ref a1)] 3 = (mkF m 0 #[.val (.ref a1), .val .null, .val (.ref a1)] []) := by first | (simp [entryFrame, mkF, argsToLocals, Value.category, maxLocals]; done) | rfl
set_option maxRecDepth 65536 in
set_option maxHeartbeats 40000000 in
theorem rm9_14 (l : Launch) (Z : State) (a0 : Array Value) (hw : ∀ d ∈ tables_1, d.before a0 Z = true) (ws : List Jvm.Cond) (a1 : Addr) (a2 : Addr) (ka2 : ClassId) (x3 : Int32) (x4 : Int32) (x5 : Int32) (a6 : Addr) (a7 : Addr) (h0 : Heap) (n0 : Nat) (P0 : Exa Z h0 a1 "java/lang/String") (P1 : Fld Z h0 a1 "java/lang/String" "coder" "B" (.int (0 : Int32))) (P2 : Fld Z h0 a1 "java/lang/String" "value" "[B" (.ref a2)) (P3 : Arv Z h0 a2 ka2 .byte (2 : Int32) [(.int x3), (.int x4)] (.int (0 : Int32))) (P4 : Sta Z h0 "java/lang/String" "COMPACT_STRINGS" "Z" (.int x5)) (P5 : Sta Z h0 "java/lang/Integer$IntegerCache" "cache" "[Ljava/lang/Integer;" (.ref a6)) (P6 : Sta Z h0 "java/lang/Integer$IntegerCache" "high" "I" (.int (127 : Int32))) (P7 : Sta Z h0 "java/lang/Long$LongCache" "cache" "[Ljava/lang/Long;" (.ref a7))  (ne_a1_a2 : a1 ≠ a2) (u0 : ¬ (x5 = (0 : Int32)))  :
    MetFree l (⟨"com/example/relaystack/relaystack/CommandLine", "once", "(Ljava/lang/String;Ljava/lang/Object;Ljava/lang/Object;)Ljava/lang/Object;"⟩ : MethodName) (head1 (Jvm.Cond.code (⟨"com/example/relaystack/relaystack/CommandLine", "once", "(Ljava/lang/String;Ljava/lang/Object;Ljava/lang/Object;)Ljava/lang/Object;"⟩ : MethodName) prog_7_method_3_code 3 (some (.object "java/lang/Object")) :: ws) ({ frames := 0, cells := 0, slots := 0, locals := 0 } : Room)) (fun a U => a = #[(.ref a1), .null, (.ref a1)] ∧ Z.Warmed39 U.vm ∧ U.heap = h0) (fun _ _ _ _ _ => True) (fun _ U o U' => ∃ v L, o = .returned v ∧ (Q9_14 Z a1 a2 ka2 x3 x4 x5 a6 a7 h0 n0) v U'.heap L ∧ FrameEnd U o U' L 0 0) := by
  refine MetFree.of_bodySF (plainFor_of_name pn_com_example_relaystack_relaystack_CommandLine) hisR ?_
  intro p e s m args below meth c s₁ Bd hml0 hP hK
  obtain ⟨rfl, hZ, hh⟩ := hP
  have hx := Bd.exec
  have hby := Bd.bytes
  have hml : c.maxLocals = 3 := hml0
  have hown : s.vm.findClass "com/example/relaystack/relaystack/CommandLine" = some m.cls := findClass_of_methodNamed Bd.named
  have hnm := (name_of_methodNamed Bd.named Bd.method).1
  have X0 : Stand p l e ({ frames := 0, cells := 0, slots := 0, locals := 0 } : Room) s m #[(.ref a1), .null, (.ref a1)] below meth c s₁ [] 0 0 := Stand.of_body Bd
  have e0 : s₁.heap = h0 := by rw [← hh, Bd.state]; rfl
  have N0 := Fr.nil n0
  refine GoW.mk ?_
  refine GoW.st (fun t k => castTop (ef9_rm9_14 m a1) k) ?_
  show GoW p e below s (Q9_14 Z a1 a2 ka2 x3 x4 x5 a6 a7 h0 n0) 0 0 (s₁.setTop (mkF m 0 (Sh16 a1 a1) []))
  refine GoW.sg (mkF m 1 (Sh16 a1 a1) [.null]) (fun t k => XS.aloadN X0.here hx rfl (hb hby d9_0) rfl rfl k) ?_
  refine GoW.sg (mkF m 18 (Sh16 a1 a1) []) (fun t k => XS.ifnullYes X0.here hx rfl (pc0 := 1) (pc' := 18) rfl (hb hby d9_1) rfl (by decide) (by decide) k) ?_
  refine GoW.sg (mkF m 19 (Sh16 a1 a1) [(.ref a1)]) (fun t k => XS.aloadN X0.here hx rfl (hb hby d9_18) rfl rfl k) ?_
  refine GoW.retA X0 hx Bd.returns rfl rfl rfl (hb hby d9_19) Bd.notSynchronized ?_ (by decide) (by decide)
  rw [e0]
  exact ⟨rfl, N0, rfl⟩
def Q9_15 (Z : State) (a1 : Addr) (a2 : Addr) (ka2 : ClassId) (x3 : Int32) (x4 : Int32) (x5 : Int32) (a6 : Addr) (a7 : Addr) (h0 : Heap) (n0 : Nat) (v : Option Value) (h : Heap) (L : List Loc) : Prop := v = some .null ∧ Fr n0 L ∧ (h = h0)
theorem ef9_rm9_15 (m : MethodId) (a1 : Addr) : entryFrame m #[(.ref a1), .null, .null] 3 = (mkF m 0 #[.val (.ref a1), .val .null, .val .null] []) := by first | (simp [entryFrame, mkF, argsToLocals, Value.category, maxLocals]; done) | rfl
set_option maxRecDepth 65536 in
set_option maxHeartbeats 40000000 in
theorem rm9_15 (l : Launch) (Z : State) (a0 : Array Value) (hw : ∀ d ∈ tables_1, d.before a0 Z = true) (ws : List Jvm.Cond) (a1 : Addr) (a2 : Addr) (ka2 : ClassId) (x3 : Int32) (x4 : Int32) (x5 : Int32) (a6 : Addr) (a7 : Addr) (h0 : Heap) (n0 : Nat) (P0 : Exa Z h0 a1 "java/lang/String") (P1 : Fld Z h0 a1 "java/lang/String" "coder" "B" (.int (0 : Int32))) (P2 : Fld Z h0 a1 "java/lang/String" "value" "[B" (.ref a2)) (P3 : Arv Z h0 a2 ka2 .byte (2 : Int32) [(.int x3), (.int x4)] (.int (0 : Int32))) (P4 : Sta Z h0 "java/lang/String" "COMPACT_STRINGS" "Z" (.int x5)) (P5 : Sta Z h0 "java/lang/Integer$IntegerCache" "cache" "[Ljava/lang/Integer;" (.ref a6)) (P6 : Sta Z h0 "java/lang/Integer$IntegerCache" "high" "I" (.int (127 : Int32))) (P7 : Sta Z h0 "java/lang/Long$LongCache" "cache" "[Ljava/lang/Long;" (.ref a7))  (ne_a1_a2 : a1 ≠ a2) (u0 : ¬ (x5 = (0 : Int32)))  :
    MetFree l (⟨"com/example/relaystack/relaystack/CommandLine", "once", "(Ljava/lang/String;Ljava/lang/Object;Ljava/lang/Object;)Ljava/lang/Object;"⟩ : MethodName) (head1 (Jvm.Cond.code (⟨"com/example/relaystack/relaystack/CommandLine", "once", "(Ljava/lang/String;Ljava/lang/Object;Ljava/lang/Object;)Ljava/lang/Object;"⟩ : MethodName) prog_7_method_3_code 3 (some (.object "java/lang/Object")) :: ws) ({ frames := 0, cells := 0, slots := 0, locals := 0 } : Room)) (fun a U => a = #[(.ref a1), .null, .null] ∧ Z.Warmed39 U.vm ∧ U.heap = h0) (fun _ _ _ _ _ => True) (fun _ U o U' => ∃ v L, o = .returned v ∧ (Q9_15 Z a1 a2 ka2 x3 x4 x5 a6 a7 h0 n0) v U'.heap L ∧ FrameEnd U o U' L 0 0) := by
  refine MetFree.of_bodySF (plainFor_of_name pn_com_example_relaystack_relaystack_CommandLine) hisR ?_
  intro p e s m args below meth c s₁ Bd hml0 hP hK
  obtain ⟨rfl, hZ, hh⟩ := hP
  have hx := Bd.exec
  have hby := Bd.bytes
  have hml : c.maxLocals = 3 := hml0
  have hown : s.vm.findClass "com/example/relaystack/relaystack/CommandLine" = some m.cls := findClass_of_methodNamed Bd.named
  have hnm := (name_of_methodNamed Bd.named Bd.method).1
  have X0 : Stand p l e ({ frames := 0, cells := 0, slots := 0, locals := 0 } : Room) s m #[(.ref a1), .null, .null] below meth c s₁ [] 0 0 := Stand.of_body Bd
  have e0 : s₁.heap = h0 := by rw [← hh, Bd.state]; rfl
  have N0 := Fr.nil n0
  refine GoW.mk ?_
  refine GoW.st (fun t k => castTop (ef9_rm9_15 m a1) k) ?_
  show GoW p e below s (Q9_15 Z a1 a2 ka2 x3 x4 x5 a6 a7 h0 n0) 0 0 (s₁.setTop (mkF m 0 (Sh23 a1) []))
  refine GoW.sg (mkF m 1 (Sh23 a1) [.null]) (fun t k => XS.aloadN X0.here hx rfl (hb hby d9_0) rfl rfl k) ?_
  refine GoW.sg (mkF m 18 (Sh23 a1) []) (fun t k => XS.ifnullYes X0.here hx rfl (pc0 := 1) (pc' := 18) rfl (hb hby d9_1) rfl (by decide) (by decide) k) ?_
  refine GoW.sg (mkF m 19 (Sh23 a1) [.null]) (fun t k => XS.aloadN X0.here hx rfl (hb hby d9_18) rfl rfl k) ?_
  refine GoW.retA X0 hx Bd.returns rfl rfl rfl (hb hby d9_19) Bd.notSynchronized ?_ (by decide) (by decide)
  rw [e0]
  exact ⟨rfl, N0, rfl⟩
theorem ef0_rm0 (m : MethodId) (q1 : Int32) (q2 : Int32) (q3 : Int64) (q4 : Int32) : entryFrame m #[(.int q1), (.int q2), (.long q3), (.int q4)] maxLocals = (mkF m 0 #[.val (.int q1), .val (.int q2), .val (.long q3), .second, .val (.int q4), .unset, .unset, .unset, .unset, .unset, .unset, .unset, .unset, .unset] []) := by first | (simp [entryFrame, mkF, argsToLocals, Value.category, maxLocals]; done) | rfl
set_option maxRecDepth 65536 in
set_option maxHeartbeats 40000000 in
theorem rm0 (l : Launch) (Z : State) (a0 : Array Value) (hw : ∀ d ∈ tables_1, d.before a0 Z = true) (ws : List Jvm.Cond) (q1 : Int32) (q2 : Int32) (q3 : Int64) (q4 : Int32) (cs : Int32) (aI aL : Addr) (h0 : Heap) (n0 : Nat) (Z0 : n0 ≤ h0.size) (P0 : Sta Z h0 "java/lang/String" "COMPACT_STRINGS" "Z" (.int cs)) (P1 : Sta Z h0 "java/lang/Integer$IntegerCache" "cache" "[Ljava/lang/Integer;" (.ref aI)) (P2 : Sta Z h0 "java/lang/Integer$IntegerCache" "high" "I" (.int (127 : Int32))) (P3 : Sta Z h0 "java/lang/Long$LongCache" "cache" "[Ljava/lang/Long;" (.ref aL)) (X00 : Old Z n0 h0) (ncs : ¬ cs = (0 : Int32)) (BI : Box Z Z.heap aI "java/lang/Integer") (BL : Box Z Z.heap aL "java/lang/Long") :
    MetFree l x (head1 (Jvm.Cond.code x code maxLocals ret :: ws) room_1) (fun a U => a = #[(.int q1), (.int q2), (.long q3), (.int q4)] ∧ Z.Warmed39 U.vm ∧ U.heap = h0) (fun _ _ _ _ _ => True) (fun _ U o U' => ∃ v L, o = .returned v ∧ (ValQ (.int (1 : Int32)) n0) v U'.heap L ∧ FrameEnd U o U' L room_1.cells room_1.slots) := by
  refine MetFree.of_bodySF (plainFor_of_name pn_com_example_relaystack_relaystack_CommandLineOncePinLaw) hisR ?_
  intro p e s m args below meth c s₁ Bd hml0 hP hK
  obtain ⟨rfl, hZ, hh⟩ := hP
  have hx := Bd.exec
  have hby := Bd.bytes
  have hml : c.maxLocals = 14 := hml0
  have hown : s.vm.findClass "com/example/relaystack/relaystack/CommandLineOncePinLaw" = some m.cls := findClass_of_methodNamed Bd.named
  have hnm := (name_of_methodNamed Bd.named Bd.method).1
  have X0 : Stand p l e room_1 s m #[(.int q1), (.int q2), (.long q3), (.int q4)] below meth c s₁ [] 0 0 := Stand.of_body Bd
  have e0 : s₁.heap = h0 := by rw [← hh, Bd.state]; rfl
  have N0 := Fr.nil n0
  refine GoW.mk ?_
  refine GoW.st (fun t k => castTop (ef0_rm0 m q1 q2 q3 q4) k) ?_
  show GoW p e below s (ValQ (.int (1 : Int32)) n0) room_1.cells room_1.slots (s₁.setTop (mkF m 0 (Sh3 q1 q2 q3 q4) []))
  refine GoW.sg (mkF m 1 (Sh3 q1 q2 q3 q4) [(.int 2)]) (fun t k => XS.iconst X0.here hx rfl (hb hby at_0) k) ?_
  obtain ⟨T38, h38, k38, X38, e38, E38, A38, st38⟩ := newP X0 hx hZ (ww hw 0 rfl) e0 (g := (mkF m 1 (Sh3 q1 q2 q3 q4) [(.int 2)])) rfl (hb hby at_1) rfl (by decide) (cap := 2) (by decide) (by decide) (by decide) (by decide)
  obtain ⟨b38, g38⟩ : ∃ z, z = h0.size := ⟨_, rfl⟩
  rw [← g38] at A38 st38
  have g_b38 : n0 ≤ b38 := Nat.le_trans Z0 (Nat.le_of_eq g38.symm)
  have Zs_38 : n0 ≤ h38.size := Nat.le_trans Z0 E38.1
  have Old_38 : Old Z n0 h38 := X00.ext E38
  have Sta_java_lang_String_COMPACT_STRINGS_38 : Sta Z h38 "java/lang/String" "COMPACT_STRINGS" "Z" (.int cs) := P0.ext E38
  have Sta_java_lang_Integer_IntegerCache_cache_38 : Sta Z h38 "java/lang/Integer$IntegerCache" "cache" "[Ljava/lang/Integer;" (.ref aI) := P1.ext E38
  have Sta_java_lang_Integer_IntegerCache_high_38 : Sta Z h38 "java/lang/Integer$IntegerCache" "high" "I" (.int (127 : Int32)) := P2.ext E38
  have Sta_java_lang_Long_LongCache_cache_38 : Sta Z h38 "java/lang/Long$LongCache" "cache" "[Ljava/lang/Long;" (.ref aL) := P3.ext E38
  have Arv_b38_38 : Arv Z h38 b38 k38 .char (2 : Int32) [(.int (0 : Int32)), (.int (0 : Int32))] (.int (0 : Int32)) := (Arv.new A38 (by decide)).pad (pad_rep [] (.int (0 : Int32)) 2)
  refine GoW.sg (mkF m 3 (Sh3 q1 q2 q3 q4) [(.ref b38)]) (fun t k => st38 t k) ?_
  refine GoW.sg (mkF m 5 (Sh4 q1 q2 q3 q4 b38) []) (fun t k => XS.astore X38.here hx rfl (hb hby at_3) rfl rfl (l' := (Sh4 q1 q2 q3 q4 b38)) rfl k) ?_
  refine GoW.sg (mkF m 7 (Sh4 q1 q2 q3 q4 b38) [(.ref b38)]) (fun t k => XS.aload X38.here hx rfl (hb hby at_5) rfl rfl k) ?_
  refine GoW.sg (mkF m 8 (Sh4 q1 q2 q3 q4 b38) [(.int 0), (.ref b38)]) (fun t k => XS.iconst X38.here hx rfl (hb hby at_7) k) ?_
  refine GoW.sg (mkF m 9 (Sh4 q1 q2 q3 q4 b38) [(.int q1), (.int 0), (.ref b38)]) (fun t k => XS.iloadN X38.here hx rfl (hb hby at_8) rfl k) ?_
  refine GoW.sg (mkF m 12 (Sh4 q1 q2 q3 q4 b38) [(.int 255), (.int q1), (.int 0), (.ref b38)]) (fun t k => XS.sipush X38.here hx rfl (hb hby at_9) k) ?_
  refine GoW.sg (mkF m 13 (Sh4 q1 q2 q3 q4 b38) [(.int (q1 &&& (255 : Int32))), (.int 0), (.ref b38)]) (fun t k => XS.iand X38.here hx rfl (hb hby at_12) rfl k) ?_
  refine GoW.sg (mkF m 14 (Sh4 q1 q2 q3 q4 b38) [(.int (q1 &&& (255 : Int32)).toUInt32.toUInt16.toUInt32.toInt32), (.int 0), (.ref b38)]) (fun t k => XS.i2c X38.here hx rfl (hb hby at_13) rfl k) ?_
  obtain ⟨cl39, Ar39, q39, Sz39, Nn39, Hh39, Gg39⟩ := Arv_b38_38
  have hin39 : ¬ ((0 : Int32) < 0 ∨ cl39.slots.size ≤ ((0 : Int32)).toNatClampNeg) := inb_of Sz39 ⟨by decide, by decide⟩
  obtain ⟨T39, h39, X39, e39, W39, st39⟩ := stC X38 hx hZ e38 Ar39 (j := (0 : Int32)) hin39 (g := (mkF m 14 (Sh4 q1 q2 q3 q4 b38) [(.int (q1 &&& (255 : Int32)).toUInt32.toUInt16.toUInt32.toInt32), (.int 0), (.ref b38)])) rfl rfl (hb hby at_14)
  have Zs_39 : n0 ≤ h39.size := Nat.le_trans Zs_38 (Nat.le_of_eq W39.size.symm)
  have Old_39 : Old Z n0 h39 := Old_38.wr W39 g_b38
  have Sta_java_lang_String_COMPACT_STRINGS_39 : Sta Z h39 "java/lang/String" "COMPACT_STRINGS" "Z" (.int cs) := Sta_java_lang_String_COMPACT_STRINGS_38.wr W39
  have Sta_java_lang_Integer_IntegerCache_cache_39 : Sta Z h39 "java/lang/Integer$IntegerCache" "cache" "[Ljava/lang/Integer;" (.ref aI) := Sta_java_lang_Integer_IntegerCache_cache_38.wr W39
  have Sta_java_lang_Integer_IntegerCache_high_39 : Sta Z h39 "java/lang/Integer$IntegerCache" "high" "I" (.int (127 : Int32)) := Sta_java_lang_Integer_IntegerCache_high_38.wr W39
  have Sta_java_lang_Long_LongCache_cache_39 : Sta Z h39 "java/lang/Long$LongCache" "cache" "[Ljava/lang/Long;" (.ref aL) := Sta_java_lang_Long_LongCache_cache_38.wr W39
  have Arv_b38_39 : Arv Z h39 b38 k38 .char (2 : Int32) [(.int (nar .char (q1 &&& (255 : Int32)).toUInt32.toUInt16.toUInt32.toInt32)), (.int (0 : Int32))] (.int (0 : Int32)) := Arv.set Ar39 q39 Sz39 Nn39 Hh39 Gg39 (fits_nar_char _) W39 0 rfl (Nat.le_of_ble_eq_true rfl)
  have N39 := Fr.snoc X39 N0 g_b38
  refine GoW.sg (mkF m 15 (Sh4 q1 q2 q3 q4 b38) []) (fun t k => st39 t k) ?_
  refine GoW.sg (mkF m 17 (Sh4 q1 q2 q3 q4 b38) [(.ref b38)]) (fun t k => XS.aload X39.here hx rfl (hb hby at_15) rfl rfl k) ?_
  refine GoW.sg (mkF m 18 (Sh4 q1 q2 q3 q4 b38) [(.int 1), (.ref b38)]) (fun t k => XS.iconst X39.here hx rfl (hb hby at_17) k) ?_
  refine GoW.sg (mkF m 19 (Sh4 q1 q2 q3 q4 b38) [(.int q1), (.int 1), (.ref b38)]) (fun t k => XS.iloadN X39.here hx rfl (hb hby at_18) rfl k) ?_
  refine GoW.sg (mkF m 21 (Sh4 q1 q2 q3 q4 b38) [(.int 8), (.int q1), (.int 1), (.ref b38)]) (fun t k => XS.bipush X39.here hx rfl (hb hby at_19) k) ?_
  refine GoW.sg (mkF m 22 (Sh4 q1 q2 q3 q4 b38) [(.int (q1.toUInt32 >>> ((8 : Int32) &&& 31).toUInt32).toInt32), (.int 1), (.ref b38)]) (fun t k => XS.iushr X39.here hx rfl (hb hby at_21) rfl k) ?_
  refine GoW.sg (mkF m 25 (Sh4 q1 q2 q3 q4 b38) [(.int 255), (.int (q1.toUInt32 >>> ((8 : Int32) &&& 31).toUInt32).toInt32), (.int 1), (.ref b38)]) (fun t k => XS.sipush X39.here hx rfl (hb hby at_22) k) ?_
  refine GoW.sg (mkF m 26 (Sh4 q1 q2 q3 q4 b38) [(.int ((q1.toUInt32 >>> ((8 : Int32) &&& 31).toUInt32).toInt32 &&& (255 : Int32))), (.int 1), (.ref b38)]) (fun t k => XS.iand X39.here hx rfl (hb hby at_25) rfl k) ?_
  refine GoW.sg (mkF m 27 (Sh4 q1 q2 q3 q4 b38) [(.int ((q1.toUInt32 >>> ((8 : Int32) &&& 31).toUInt32).toInt32 &&& (255 : Int32)).toUInt32.toUInt16.toUInt32.toInt32), (.int 1), (.ref b38)]) (fun t k => XS.i2c X39.here hx rfl (hb hby at_26) rfl k) ?_
  obtain ⟨cl40, Ar40, q40, Sz40, Nn40, Hh40, Gg40⟩ := Arv_b38_39
  have hin40 : ¬ ((1 : Int32) < 0 ∨ cl40.slots.size ≤ ((1 : Int32)).toNatClampNeg) := inb_of Sz40 ⟨by decide, by decide⟩
  obtain ⟨T40, h40, X40, e40, W40, st40⟩ := stC X39 hx hZ e39 Ar40 (j := (1 : Int32)) hin40 (g := (mkF m 27 (Sh4 q1 q2 q3 q4 b38) [(.int ((q1.toUInt32 >>> ((8 : Int32) &&& 31).toUInt32).toInt32 &&& (255 : Int32)).toUInt32.toUInt16.toUInt32.toInt32), (.int 1), (.ref b38)])) rfl rfl (hb hby at_27)
  have Zs_40 : n0 ≤ h40.size := Nat.le_trans Zs_39 (Nat.le_of_eq W40.size.symm)
  have Old_40 : Old Z n0 h40 := Old_39.wr W40 g_b38
  have Sta_java_lang_String_COMPACT_STRINGS_40 : Sta Z h40 "java/lang/String" "COMPACT_STRINGS" "Z" (.int cs) := Sta_java_lang_String_COMPACT_STRINGS_39.wr W40
  have Sta_java_lang_Integer_IntegerCache_cache_40 : Sta Z h40 "java/lang/Integer$IntegerCache" "cache" "[Ljava/lang/Integer;" (.ref aI) := Sta_java_lang_Integer_IntegerCache_cache_39.wr W40
  have Sta_java_lang_Integer_IntegerCache_high_40 : Sta Z h40 "java/lang/Integer$IntegerCache" "high" "I" (.int (127 : Int32)) := Sta_java_lang_Integer_IntegerCache_high_39.wr W40
  have Sta_java_lang_Long_LongCache_cache_40 : Sta Z h40 "java/lang/Long$LongCache" "cache" "[Ljava/lang/Long;" (.ref aL) := Sta_java_lang_Long_LongCache_cache_39.wr W40
  have Arv_b38_40 : Arv Z h40 b38 k38 .char (2 : Int32) [(.int (nar .char (q1 &&& (255 : Int32)).toUInt32.toUInt16.toUInt32.toInt32)), (.int (nar .char ((q1.toUInt32 >>> ((8 : Int32) &&& 31).toUInt32).toInt32 &&& (255 : Int32)).toUInt32.toUInt16.toUInt32.toInt32))] (.int (0 : Int32)) := Arv.set Ar40 q40 Sz40 Nn40 Hh40 Gg40 (fits_nar_char _) W40 1 rfl (Nat.le_of_ble_eq_true rfl)
  have N40 := Fr.snoc X40 N39 g_b38
  refine GoW.sg (mkF m 28 (Sh4 q1 q2 q3 q4 b38) []) (fun t k => st40 t k) ?_
  obtain ⟨ch0, hch0⟩ : ∃ c : Int32, c = (nar .char (q1 &&& (255 : Int32)).toUInt32.toUInt16.toUInt32.toInt32) := ⟨_, rfl⟩
  rw [← hch0] at Arv_b38_40
  have hle0 : ¬ ((255 : Int32) < ch0) := by rw [hch0]; exact own_ch _
  obtain ⟨ch1, hch1⟩ : ∃ c : Int32, c = (nar .char ((q1.toUInt32 >>> ((8 : Int32) &&& 31).toUInt32).toInt32 &&& (255 : Int32)).toUInt32.toUInt16.toUInt32.toInt32) := ⟨_, rfl⟩
  rw [← hch1] at Arv_b38_40
  have hle1 : ¬ ((255 : Int32) < ch1) := by rw [hch1]; exact own_ch _
  obtain ⟨T41, h41, X41, e41, E41, A41, D41, -, st41⟩ := newO X40 hx hZ hown (ww hw 1 rfl) (ww hw 2 rfl) (ww hw 3 rfl) e40 (g := (mkF m 28 (Sh4 q1 q2 q3 q4 b38) [])) rfl (hb hby at_28) (by decide) (by decide)
  obtain ⟨b41, g41⟩ : ∃ z, z = h40.size := ⟨_, rfl⟩
  rw [← g41] at A41 D41 st41
  have g_b41 : n0 ≤ b41 := Nat.le_trans Zs_40 (Nat.le_of_eq g41.symm)
  have ne_b38_b41 : b38 ≠ b41 := Nat.ne_of_lt (Nat.lt_of_lt_of_eq Arv_b38_40.lt g41.symm)
  have Zs_41 : n0 ≤ h41.size := Nat.le_trans Zs_40 E41.1
  have Old_41 : Old Z n0 h41 := Old_40.ext E41
  have Sta_java_lang_String_COMPACT_STRINGS_41 : Sta Z h41 "java/lang/String" "COMPACT_STRINGS" "Z" (.int cs) := Sta_java_lang_String_COMPACT_STRINGS_40.ext E41
  have Sta_java_lang_Integer_IntegerCache_cache_41 : Sta Z h41 "java/lang/Integer$IntegerCache" "cache" "[Ljava/lang/Integer;" (.ref aI) := Sta_java_lang_Integer_IntegerCache_cache_40.ext E41
  have Sta_java_lang_Integer_IntegerCache_high_41 : Sta Z h41 "java/lang/Integer$IntegerCache" "high" "I" (.int (127 : Int32)) := Sta_java_lang_Integer_IntegerCache_high_40.ext E41
  have Sta_java_lang_Long_LongCache_cache_41 : Sta Z h41 "java/lang/Long$LongCache" "cache" "[Ljava/lang/Long;" (.ref aL) := Sta_java_lang_Long_LongCache_cache_40.ext E41
  have Arv_b38_41 : Arv Z h41 b38 k38 .char (2 : Int32) [(.int ch0), (.int ch1)] (.int (0 : Int32)) := Arv_b38_40.ext E41
  have Fld_b41_coder_41 : Fld Z h41 b41 "java/lang/String" "coder" "B" (.int (0 : Int32)) := D41 (Or.inr (ww hw 27 rfl)) (ty := .byte) (by decide)
  have Fld_b41_value_41 : Fld Z h41 b41 "java/lang/String" "value" "[B" .null := D41 (Or.inr (ww hw 29 rfl)) (ty := (.array .byte)) (by decide)
  refine GoW.sg (mkF m 31 (Sh4 q1 q2 q3 q4 b38) [(.ref b41)]) (fun t k => st41 t k) ?_
  refine GoW.sg (mkF m 32 (Sh4 q1 q2 q3 q4 b38) [(.ref b41), (.ref b41)]) (fun t k => XS.dup X41.here hx rfl (hb hby at_31) rfl rfl k) ?_
  refine GoW.sg (mkF m 34 (Sh4 q1 q2 q3 q4 b38) [(.ref b38), (.ref b41), (.ref b41)]) (fun t k => XS.aload X41.here hx rfl (hb hby at_32) rfl rfl k) ?_
  obtain ⟨_, _, ⟨T72, L72, k72, n72⟩, -, X72, ⟨Lc72, hQ72, l72, y72, z72⟩, st72⟩ := X41.specialBack hx (y := (⟨"java/lang/String", "<init>", "([C)V"⟩ : MethodName)) rfl hown (mvT hZ (ww hw 4 rfl)) (mvT hZ (ww hw 5 rfl)) (mvT hZ (ww hw 6 rfl)) (by decide) (backOf (W := 1) (rm1_11 l Z a0 hw [] b41 b38 k38 ch0 ch1 cs aI aL h41 n0 Zs_41 Arv_b38_41 A41 Fld_b41_coder_41 Fld_b41_value_41 Sta_java_lang_String_COMPACT_STRINGS_41 Sta_java_lang_Integer_IntegerCache_cache_41 Sta_java_lang_Integer_IntegerCache_high_41 Sta_java_lang_Long_LongCache_cache_41 g_b41 ne_b38_b41 ncs hle0 hle1 ) hZ (ww hw 6 rfl) (ww hw 3 rfl) (by decide) (by decide)) (g := (mkF m 34 (Sh4 q1 q2 q3 q4 b38) [(.ref b38), (.ref b41), (.ref b41)])) rfl (by rw [hml]; rfl) (Steps.refl _) (a := b41) (argsL := [(.ref b38)]) (rest := [(.ref b41)]) (lenOf pd_285bC29V rfl) rfl (by show 2 * 0 + _ ≤ _; exact Nat.le_of_eq rfl) (hb hby at_34) (fun _ _ => ⟨rfl, e41, (by decide : 2 + 1 ≤ _), (by decide : 6 + 2 ≤ _)⟩)
  dsimp only [Pt.U, Pt.locs, Pt.cells, Pt.slots] at X72 l72 y72 z72 st72 hQ72
  subst l72 y72 z72
  obtain ⟨b72_e0, k72_ke0, rfl, N72q, K72, p72_0, p72_1, p72_2, p72_3, hz_b72_e0⟩ := hQ72
  have g_b72_e0 : n0 ≤ b72_e0 := Nat.le_trans Zs_41 hz_b72_e0
  have ne_b38_b72_e0 : b38 ≠ b72_e0 := Nat.ne_of_lt (Nat.lt_of_lt_of_le Arv_b38_41.lt hz_b72_e0)
  have ne_b41_b72_e0 : b41 ≠ b72_e0 := Nat.ne_of_lt (Nat.lt_of_lt_of_le A41.lt hz_b72_e0)
  have N72 := Fr.app N40 N72q
  have Zs_72 : n0 ≤ T72.heap.size := Nat.le_trans Zs_41 K72.1
  have Old_72 : Old Z n0 T72.heap := Old_41.keep K72 (allS g_b41 all0)
  have Sta_java_lang_String_COMPACT_STRINGS_72 : Sta Z T72.heap "java/lang/String" "COMPACT_STRINGS" "Z" (.int cs) := own_staK Sta_java_lang_String_COMPACT_STRINGS_41 K72 (allS (own_nsE A41) all0)
  have Sta_java_lang_Integer_IntegerCache_cache_72 : Sta Z T72.heap "java/lang/Integer$IntegerCache" "cache" "[Ljava/lang/Integer;" (.ref aI) := own_staK Sta_java_lang_Integer_IntegerCache_cache_41 K72 (allS (own_nsE A41) all0)
  have Sta_java_lang_Integer_IntegerCache_high_72 : Sta Z T72.heap "java/lang/Integer$IntegerCache" "high" "I" (.int (127 : Int32)) := own_staK Sta_java_lang_Integer_IntegerCache_high_41 K72 (allS (own_nsE A41) all0)
  have Sta_java_lang_Long_LongCache_cache_72 : Sta Z T72.heap "java/lang/Long$LongCache" "cache" "[Ljava/lang/Long;" (.ref aL) := own_staK Sta_java_lang_Long_LongCache_cache_41 K72 (allS (own_nsE A41) all0)
  have Arv_b38_72 : Arv Z T72.heap b38 k38 .char (2 : Int32) [(.int ch0), (.int ch1)] (.int (0 : Int32)) := Arv_b38_41.keep K72 (ninS ne_b38_b41 nin0)
  refine GoW.sg (mkF m 37 (Sh4 q1 q2 q3 q4 b38) [(.ref b41)]) (fun t k => st72.trans k) ?_
  refine GoW.sg (mkF m 39 (Sh13 q1 q2 q3 q4 b38 b41) []) (fun t k => XS.astore X72.here hx rfl (hb hby at_37) rfl rfl (l' := (Sh13 q1 q2 q3 q4 b38 b41)) rfl k) ?_
  refine GoW.sg (mkF m 40 (Sh13 q1 q2 q3 q4 b38 b41) [(.int q2)]) (fun t k => XS.iloadN X72.here hx rfl (hb hby at_39) rfl k) ?_
  obtain ⟨_, _, ⟨T73, L73, k73, n73⟩, -, X73, ⟨Lc73, hQ73, l73, y73, z73⟩, st73⟩ := Jvm.LawKit.callS X72 hx (y := (⟨"java/lang/Integer", "valueOf", "(I)Ljava/lang/Integer;"⟩ : MethodName)) hown (mvT hZ (ww hw 30 rfl)) (mvT hZ (ww hw 31 rfl)) (mvT hZ (ww hw 32 rfl)) (mvT hZ (ww hw 33 rfl)) (by decide) (backOf (W := 0) (rmVI l Z a0 hw [] q2 aI T72.heap n0 Zs_72 Sta_java_lang_Integer_IntegerCache_cache_72 Sta_java_lang_Integer_IntegerCache_high_72 (BI.ext Old_72.2)) hZ (ww hw 33 rfl) (ww hw 32 rfl) (by decide) (by decide)) (g := (mkF m 40 (Sh13 q1 q2 q3 q4 b38 b41) [(.int q2)])) rfl (by rw [hml]; rfl) (argsL := [(.int q2)]) (rest := []) (lenOf pd_28I29Ljava2flang2fInteger3b rfl) rfl (by show 2 * 0 + _ ≤ _; exact Nat.le_of_eq rfl) (hb hby at_40) (fun _ _ => ⟨rfl, rfl, (by decide : 3 + 1 ≤ _), (by decide : 8 + 1 ≤ _)⟩)
  dsimp only [Pt.U, Pt.locs, Pt.cells, Pt.slots] at X73 l73 y73 z73 st73 hQ73
  subst l73 y73 z73
  obtain ⟨r73, rfl, N73q, K73, Ex73⟩ := hQ73
  have N73 := Fr.app N72 N73q
  have Zs_73 : n0 ≤ T73.heap.size := Nat.le_trans Zs_72 K73.1
  have Old_73 : Old Z n0 T73.heap := Old_72.keep K73 all0
  have Sta_java_lang_String_COMPACT_STRINGS_73 : Sta Z T73.heap "java/lang/String" "COMPACT_STRINGS" "Z" (.int cs) := own_staK0 Sta_java_lang_String_COMPACT_STRINGS_72 K73
  have Sta_java_lang_Integer_IntegerCache_cache_73 : Sta Z T73.heap "java/lang/Integer$IntegerCache" "cache" "[Ljava/lang/Integer;" (.ref aI) := own_staK0 Sta_java_lang_Integer_IntegerCache_cache_72 K73
  have Sta_java_lang_Integer_IntegerCache_high_73 : Sta Z T73.heap "java/lang/Integer$IntegerCache" "high" "I" (.int (127 : Int32)) := own_staK0 Sta_java_lang_Integer_IntegerCache_high_72 K73
  have Sta_java_lang_Long_LongCache_cache_73 : Sta Z T73.heap "java/lang/Long$LongCache" "cache" "[Ljava/lang/Long;" (.ref aL) := own_staK0 Sta_java_lang_Long_LongCache_cache_72 K73
  have Arv_b38_73 : Arv Z T73.heap b38 k38 .char (2 : Int32) [(.int ch0), (.int ch1)] (.int (0 : Int32)) := Arv_b38_72.keep K73 nin0
  have Exa_b41_73 : Exa Z T73.heap b41 "java/lang/String" := p72_0.keep K73
  have Fld_b41_coder_73 : Fld Z T73.heap b41 "java/lang/String" "coder" "B" (.int (0 : Int32)) := p72_1.keep K73 nin0
  have Fld_b41_value_73 : Fld Z T73.heap b41 "java/lang/String" "value" "[B" (.ref b72_e0) := p72_2.keep K73 nin0
  have Arv_b72_e0_73 : Arv Z T73.heap b72_e0 k72_ke0 .byte (2 : Int32) [(.int (nar .byte ch0.toInt8.toInt32)), (.int (nar .byte ch1.toInt8.toInt32))] (.int (0 : Int32)) := p72_3.keep K73 nin0
  refine GoW.sg (mkF m 43 (Sh13 q1 q2 q3 q4 b38 b41) [(.ref r73)]) (fun t k => st73 t k) ?_
  refine GoW.sg (mkF m 45 (Sh14 q1 q2 q3 q4 b38 b41 r73) []) (fun t k => XS.astore X73.here hx rfl (hb hby at_43) rfl rfl (l' := (Sh14 q1 q2 q3 q4 b38 b41 r73)) rfl k) ?_
  refine GoW.sg (mkF m 46 (Sh14 q1 q2 q3 q4 b38 b41 r73) [(.long q3)]) (fun t k => XS.lloadN X73.here hx rfl (hb hby at_45) rfl k) ?_
  obtain ⟨_, _, ⟨T74, L74, k74, n74⟩, -, X74, ⟨Lc74, hQ74, l74, y74, z74⟩, st74⟩ := Jvm.LawKit.callS X73 hx (y := (⟨"java/lang/Long", "valueOf", "(J)Ljava/lang/Long;"⟩ : MethodName)) hown (mvT hZ (ww hw 37 rfl)) (mvT hZ (ww hw 38 rfl)) (mvT hZ (ww hw 39 rfl)) (mvT hZ (ww hw 40 rfl)) (by decide) (backOf (W := 0) (rmVL l Z a0 hw [] q3 aL T73.heap n0 Zs_73 Sta_java_lang_Long_LongCache_cache_73  (BL.ext Old_73.2)) hZ (ww hw 40 rfl) (ww hw 39 rfl) (by decide) (by decide)) (g := (mkF m 46 (Sh14 q1 q2 q3 q4 b38 b41 r73) [(.long q3)])) rfl (by rw [hml]; rfl) (argsL := [(.long q3)]) (rest := []) (lenOf pd_28J29Ljava2flang2fLong3b rfl) rfl (by show 2 * 0 + _ ≤ _; exact Nat.le_of_eq rfl) (hb hby at_46) (fun _ _ => ⟨rfl, rfl, (by decide : 4 + 1 ≤ _), (by decide : 9 + 1 ≤ _)⟩)
  dsimp only [Pt.U, Pt.locs, Pt.cells, Pt.slots] at X74 l74 y74 z74 st74 hQ74
  subst l74 y74 z74
  obtain ⟨r74, rfl, N74q, K74, Ex74⟩ := hQ74
  have N74 := Fr.app N73 N74q
  have Zs_74 : n0 ≤ T74.heap.size := Nat.le_trans Zs_73 K74.1
  have Old_74 : Old Z n0 T74.heap := Old_73.keep K74 all0
  have Sta_java_lang_String_COMPACT_STRINGS_74 : Sta Z T74.heap "java/lang/String" "COMPACT_STRINGS" "Z" (.int cs) := own_staK0 Sta_java_lang_String_COMPACT_STRINGS_73 K74
  have Sta_java_lang_Integer_IntegerCache_cache_74 : Sta Z T74.heap "java/lang/Integer$IntegerCache" "cache" "[Ljava/lang/Integer;" (.ref aI) := own_staK0 Sta_java_lang_Integer_IntegerCache_cache_73 K74
  have Sta_java_lang_Integer_IntegerCache_high_74 : Sta Z T74.heap "java/lang/Integer$IntegerCache" "high" "I" (.int (127 : Int32)) := own_staK0 Sta_java_lang_Integer_IntegerCache_high_73 K74
  have Sta_java_lang_Long_LongCache_cache_74 : Sta Z T74.heap "java/lang/Long$LongCache" "cache" "[Ljava/lang/Long;" (.ref aL) := own_staK0 Sta_java_lang_Long_LongCache_cache_73 K74
  have Arv_b38_74 : Arv Z T74.heap b38 k38 .char (2 : Int32) [(.int ch0), (.int ch1)] (.int (0 : Int32)) := Arv_b38_73.keep K74 nin0
  have Exa_b41_74 : Exa Z T74.heap b41 "java/lang/String" := Exa_b41_73.keep K74
  have Fld_b41_coder_74 : Fld Z T74.heap b41 "java/lang/String" "coder" "B" (.int (0 : Int32)) := Fld_b41_coder_73.keep K74 nin0
  have Fld_b41_value_74 : Fld Z T74.heap b41 "java/lang/String" "value" "[B" (.ref b72_e0) := Fld_b41_value_73.keep K74 nin0
  have Arv_b72_e0_74 : Arv Z T74.heap b72_e0 k72_ke0 .byte (2 : Int32) [(.int (nar .byte ch0.toInt8.toInt32)), (.int (nar .byte ch1.toInt8.toInt32))] (.int (0 : Int32)) := Arv_b72_e0_73.keep K74 nin0
  have Exa_r73_74 : Exa Z T74.heap r73 "java/lang/Integer" := Ex73.keep K74
  refine GoW.sg (mkF m 49 (Sh14 q1 q2 q3 q4 b38 b41 r73) [(.ref r74)]) (fun t k => st74 t k) ?_
  refine GoW.sg (mkF m 51 (Sh15 q1 q2 q3 q4 b38 b41 r73 r74) []) (fun t k => XS.astore X74.here hx rfl (hb hby at_49) rfl rfl (l' := (Sh15 q1 q2 q3 q4 b38 b41 r73 r74)) rfl k) ?_
  refine GoW.sg (mkF m 53 (Sh15 q1 q2 q3 q4 b38 b41 r73 r74) [(.ref b41)]) (fun t k => XS.aload X74.here hx rfl (hb hby at_51) rfl rfl k) ?_
  refine GoW.sg (mkF m 54 (Sh15 q1 q2 q3 q4 b38 b41 r73 r74) [.null, (.ref b41)]) (fun t k => XS.aconstNull X74.here hx rfl (hb hby at_53) k) ?_
  refine GoW.sg (mkF m 56 (Sh15 q1 q2 q3 q4 b38 b41 r73 r74) [(.ref r73), .null, (.ref b41)]) (fun t k => XS.aload X74.here hx rfl (hb hby at_54) rfl rfl k) ?_
  obtain ⟨_, _, ⟨T75, L75, k75, n75⟩, -, X75, ⟨Lc75, hQ75, l75, y75, z75⟩, st75⟩ := Jvm.LawKit.callS X74 hx (y := (⟨"com/example/relaystack/relaystack/CommandLine", "once", "(Ljava/lang/String;Ljava/lang/Object;Ljava/lang/Object;)Ljava/lang/Object;"⟩ : MethodName)) hown (mvT hZ (ww hw 45 rfl)) (mvT hZ (ww hw 46 rfl)) (mvT hZ (ww hw 47 rfl)) (mvT hZ (ww hw 48 rfl)) (by decide) (backOf (W := 0) (rm9_12 l Z a0 hw [] b41 r73 b72_e0 k72_ke0 (nar .byte ch0.toInt8.toInt32) (nar .byte ch1.toInt8.toInt32) cs aI aL T74.heap n0  Exa_b41_74 Fld_b41_coder_74 Fld_b41_value_74 Exa_r73_74 Arv_b72_e0_74 Sta_java_lang_String_COMPACT_STRINGS_74 Sta_java_lang_Integer_IntegerCache_cache_74 Sta_java_lang_Integer_IntegerCache_high_74 Sta_java_lang_Long_LongCache_cache_74  ne_b41_b72_e0 ncs ) hZ (ww hw 48 rfl) (ww hw 47 rfl) (by decide) (by decide)) (g := (mkF m 56 (Sh15 q1 q2 q3 q4 b38 b41 r73 r74) [(.ref r73), .null, (.ref b41)])) rfl (by rw [hml]; rfl) (argsL := [(.ref b41), .null, (.ref r73)]) (rest := []) (lenOf pd_28Ljava2flang2fString3bLjava2flang2fObject3bLjava2flang2fObject3b29Ljava2flang2fObject3b rfl) rfl (by show 2 * 0 + _ ≤ _; exact Nat.le_of_eq rfl) (hb hby at_56) (fun _ _ => ⟨rfl, rfl, (by decide : 5 + 0 ≤ _), (by decide : 10 + 0 ≤ _)⟩)
  dsimp only [Pt.U, Pt.locs, Pt.cells, Pt.slots] at X75 l75 y75 z75 st75 hQ75
  subst l75 y75 z75
  obtain ⟨rfl, N75q, e75⟩ := hQ75
  have N75 := Fr.app N74 N75q
  refine GoW.sg (mkF m 59 (Sh15 q1 q2 q3 q4 b38 b41 r73 r74) [(.ref r73)]) (fun t k => st75 t k) ?_
  obtain ⟨T76, X76, e76, st76⟩ := castY X75 hx hZ hown (ww hw 49 rfl) e75 (Ins.self Exa_r73_74) (g := (mkF m 59 (Sh15 q1 q2 q3 q4 b38 b41 r73 r74) [(.ref r73)])) rfl rfl (hb hby at_59)
  refine GoW.sg (mkF m 62 (Sh15 q1 q2 q3 q4 b38 b41 r73 r74) [(.ref r73)]) (fun t k => st76 t k) ?_
  refine GoW.sg (mkF m 64 (Sh17 q1 q2 q3 q4 b38 b41 r73 r74 r73) []) (fun t k => XS.astore X76.here hx rfl (hb hby at_62) rfl rfl (l' := (Sh17 q1 q2 q3 q4 b38 b41 r73 r74 r73)) rfl k) ?_
  refine GoW.sg (mkF m 66 (Sh17 q1 q2 q3 q4 b38 b41 r73 r74 r73) [(.ref r73)]) (fun t k => XS.aload X76.here hx rfl (hb hby at_64) rfl rfl k) ?_
  refine GoW.sg (mkF m 68 (Sh17 q1 q2 q3 q4 b38 b41 r73 r74 r73) [(.ref r73), (.ref r73)]) (fun t k => XS.aload X76.here hx rfl (hb hby at_66) rfl rfl k) ?_
  refine GoW.sg (mkF m 73 (Sh17 q1 q2 q3 q4 b38 b41 r73 r74 r73) []) (fun t k => Jvm.RoadKit.acmp X76 hx rfl (cd := .eq) (x := (.ref r73)) (y := (.ref r73)) rfl rfl (pc0 := 68) (pc' := 73) (same := true) rfl (hb hby at_68) rfl (decide_eq_true rfl) (by decide) (by decide) k) ?_
  refine GoW.sg (mkF m 75 (Sh17 q1 q2 q3 q4 b38 b41 r73 r74 r73) [(.ref b41)]) (fun t k => XS.aload X76.here hx rfl (hb hby at_73) rfl rfl k) ?_
  refine GoW.sg (mkF m 76 (Sh17 q1 q2 q3 q4 b38 b41 r73 r74 r73) [.null, (.ref b41)]) (fun t k => XS.aconstNull X76.here hx rfl (hb hby at_75) k) ?_
  refine GoW.sg (mkF m 78 (Sh17 q1 q2 q3 q4 b38 b41 r73 r74 r73) [(.ref r74), .null, (.ref b41)]) (fun t k => XS.aload X76.here hx rfl (hb hby at_76) rfl rfl k) ?_
  obtain ⟨_, _, ⟨T77, L77, k77, n77⟩, -, X77, ⟨Lc77, hQ77, l77, y77, z77⟩, st77⟩ := Jvm.LawKit.callS X76 hx (y := (⟨"com/example/relaystack/relaystack/CommandLine", "once", "(Ljava/lang/String;Ljava/lang/Object;Ljava/lang/Object;)Ljava/lang/Object;"⟩ : MethodName)) hown (mvT hZ (ww hw 45 rfl)) (mvT hZ (ww hw 46 rfl)) (mvT hZ (ww hw 47 rfl)) (mvT hZ (ww hw 48 rfl)) (by decide) (backOf (W := 0) (rm9_13 l Z a0 hw [] b41 r74 b72_e0 k72_ke0 (nar .byte ch0.toInt8.toInt32) (nar .byte ch1.toInt8.toInt32) cs aI aL T74.heap n0  Exa_b41_74 Fld_b41_coder_74 Fld_b41_value_74 Ex74 Arv_b72_e0_74 Sta_java_lang_String_COMPACT_STRINGS_74 Sta_java_lang_Integer_IntegerCache_cache_74 Sta_java_lang_Integer_IntegerCache_high_74 Sta_java_lang_Long_LongCache_cache_74  ne_b41_b72_e0 ncs ) hZ (ww hw 48 rfl) (ww hw 47 rfl) (by decide) (by decide)) (g := (mkF m 78 (Sh17 q1 q2 q3 q4 b38 b41 r73 r74 r73) [(.ref r74), .null, (.ref b41)])) rfl (by rw [hml]; rfl) (argsL := [(.ref b41), .null, (.ref r74)]) (rest := []) (lenOf pd_28Ljava2flang2fString3bLjava2flang2fObject3bLjava2flang2fObject3b29Ljava2flang2fObject3b rfl) rfl (by show 2 * 0 + _ ≤ _; exact Nat.le_of_eq rfl) (hb hby at_78) (fun _ _ => ⟨rfl, e76, (by decide : 5 + 0 ≤ _), (by decide : 10 + 0 ≤ _)⟩)
  dsimp only [Pt.U, Pt.locs, Pt.cells, Pt.slots] at X77 l77 y77 z77 st77 hQ77
  subst l77 y77 z77
  obtain ⟨rfl, N77q, e77⟩ := hQ77
  have N77 := Fr.app N75 N77q
  refine GoW.sg (mkF m 81 (Sh17 q1 q2 q3 q4 b38 b41 r73 r74 r73) [(.ref r74)]) (fun t k => st77 t k) ?_
  obtain ⟨T78, X78, e78, st78⟩ := castY X77 hx hZ hown (ww hw 51 rfl) e77 (Ins.self Ex74) (g := (mkF m 81 (Sh17 q1 q2 q3 q4 b38 b41 r73 r74 r73) [(.ref r74)])) rfl rfl (hb hby at_81)
  refine GoW.sg (mkF m 84 (Sh17 q1 q2 q3 q4 b38 b41 r73 r74 r73) [(.ref r74)]) (fun t k => st78 t k) ?_
  refine GoW.sg (mkF m 86 (Sh18 q1 q2 q3 q4 b38 b41 r73 r74 r73 r74) []) (fun t k => XS.astore X78.here hx rfl (hb hby at_84) rfl rfl (l' := (Sh18 q1 q2 q3 q4 b38 b41 r73 r74 r73 r74)) rfl k) ?_
  refine GoW.sg (mkF m 88 (Sh18 q1 q2 q3 q4 b38 b41 r73 r74 r73 r74) [(.ref r74)]) (fun t k => XS.aload X78.here hx rfl (hb hby at_86) rfl rfl k) ?_
  refine GoW.sg (mkF m 90 (Sh18 q1 q2 q3 q4 b38 b41 r73 r74 r73 r74) [(.ref r74), (.ref r74)]) (fun t k => XS.aload X78.here hx rfl (hb hby at_88) rfl rfl k) ?_
  refine GoW.sg (mkF m 95 (Sh18 q1 q2 q3 q4 b38 b41 r73 r74 r73 r74) []) (fun t k => Jvm.RoadKit.acmp X78 hx rfl (cd := .eq) (x := (.ref r74)) (y := (.ref r74)) rfl rfl (pc0 := 90) (pc' := 95) (same := true) rfl (hb hby at_90) rfl (decide_eq_true rfl) (by decide) (by decide) k) ?_
  refine GoW.sg (mkF m 97 (Sh18 q1 q2 q3 q4 b38 b41 r73 r74 r73 r74) [(.int q4)]) (fun t k => XS.iload X78.here hx rfl (hb hby at_95) rfl k) ?_
  refine GoW.sg (mkF m 98 (Sh18 q1 q2 q3 q4 b38 b41 r73 r74 r73 r74) [(.int 1), (.int q4)]) (fun t k => XS.iconst X78.here hx rfl (hb hby at_97) k) ?_
  refine GoW.sg (mkF m 99 (Sh18 q1 q2 q3 q4 b38 b41 r73 r74 r73 r74) [(.int (q4 &&& (1 : Int32)))]) (fun t k => XS.iand X78.here hx rfl (hb hby at_98) rfl k) ?_
  have J107_81 : ∀ b80 : Int32, b80 = (if (q4 &&& (1 : Int32)) = (0 : Int32) then (0 : Int32) else (1 : Int32)) → GoW p e below s (ValQ (.int (1 : Int32)) n0) room_1.cells room_1.slots (T78.setTop (mkF m 107 (Sh18 q1 q2 q3 q4 b38 b41 r73 r74 r73 r74) [(.int b80)])) := by
    intro b80 hb80
    refine GoW.sg (mkF m 109 (Sh19 q1 q2 q3 q4 b38 b41 r73 r74 r73 r74 b80) []) (fun t k => XS.istore X78.here hx rfl (hb hby at_107) rfl (l' := (Sh19 q1 q2 q3 q4 b38 b41 r73 r74 r73 r74 b80)) rfl k) ?_
    refine GoW.sg (mkF m 111 (Sh19 q1 q2 q3 q4 b38 b41 r73 r74 r73 r74 b80) [(.int b80)]) (fun t k => XS.iload X78.here hx rfl (hb hby at_109) rfl k) ?_
    by_cases c83 : b80 = (0 : Int32)
    · refine GoW.sg (mkF m 118 (Sh19 q1 q2 q3 q4 b38 b41 r73 r74 r73 r74 b80) []) (fun t k => XS.ifYes X78.here hx rfl (pc0 := 111) (pc' := 118) rfl (hb hby at_111) rfl ((if0 _ _).trans (teq c83).1) (by decide) (by decide) k) ?_
      refine GoW.sg (mkF m 120 (Sh19 q1 q2 q3 q4 b38 b41 r73 r74 r73 r74 b80) [(.ref b41)]) (fun t k => XS.aload X78.here hx rfl (hb hby at_118) rfl rfl k) ?_
      refine GoW.sg (mkF m 122 (Sh20 q1 q2 q3 q4 b38 b41 r73 r74 r73 r74 b80 b41) []) (fun t k => XS.astore X78.here hx rfl (hb hby at_120) rfl rfl (l' := (Sh20 q1 q2 q3 q4 b38 b41 r73 r74 r73 r74 b80 b41)) rfl k) ?_
      refine GoW.sg (mkF m 124 (Sh20 q1 q2 q3 q4 b38 b41 r73 r74 r73 r74 b80 b41) [(.ref b41)]) (fun t k => XS.aload X78.here hx rfl (hb hby at_122) rfl rfl k) ?_
      refine GoW.sg (mkF m 125 (Sh20 q1 q2 q3 q4 b38 b41 r73 r74 r73 r74 b80 b41) [.null, (.ref b41)]) (fun t k => XS.aconstNull X78.here hx rfl (hb hby at_124) k) ?_
      refine GoW.sg (mkF m 127 (Sh20 q1 q2 q3 q4 b38 b41 r73 r74 r73 r74 b80 b41) [(.ref b41), .null, (.ref b41)]) (fun t k => XS.aload X78.here hx rfl (hb hby at_125) rfl rfl k) ?_
      obtain ⟨_, _, ⟨T84, L84, k84, n84⟩, -, X84, ⟨Lc84, hQ84, l84, y84, z84⟩, st84⟩ := Jvm.LawKit.callS X78 hx (y := (⟨"com/example/relaystack/relaystack/CommandLine", "once", "(Ljava/lang/String;Ljava/lang/Object;Ljava/lang/Object;)Ljava/lang/Object;"⟩ : MethodName)) hown (mvT hZ (ww hw 45 rfl)) (mvT hZ (ww hw 46 rfl)) (mvT hZ (ww hw 47 rfl)) (mvT hZ (ww hw 48 rfl)) (by decide) (backOf (W := 0) (rm9_14 l Z a0 hw [] b41 b72_e0 k72_ke0 (nar .byte ch0.toInt8.toInt32) (nar .byte ch1.toInt8.toInt32) cs aI aL T74.heap n0  Exa_b41_74 Fld_b41_coder_74 Fld_b41_value_74 Arv_b72_e0_74 Sta_java_lang_String_COMPACT_STRINGS_74 Sta_java_lang_Integer_IntegerCache_cache_74 Sta_java_lang_Integer_IntegerCache_high_74 Sta_java_lang_Long_LongCache_cache_74  ne_b41_b72_e0 ncs ) hZ (ww hw 48 rfl) (ww hw 47 rfl) (by decide) (by decide)) (g := (mkF m 127 (Sh20 q1 q2 q3 q4 b38 b41 r73 r74 r73 r74 b80 b41) [(.ref b41), .null, (.ref b41)])) rfl (by rw [hml]; rfl) (argsL := [(.ref b41), .null, (.ref b41)]) (rest := []) (lenOf pd_28Ljava2flang2fString3bLjava2flang2fObject3bLjava2flang2fObject3b29Ljava2flang2fObject3b rfl) rfl (by show 2 * 0 + _ ≤ _; exact Nat.le_of_eq rfl) (hb hby at_127) (fun _ _ => ⟨rfl, e78, (by decide : 5 + 0 ≤ _), (by decide : 10 + 0 ≤ _)⟩)
      dsimp only [Pt.U, Pt.locs, Pt.cells, Pt.slots] at X84 l84 y84 z84 st84 hQ84
      subst l84 y84 z84
      obtain ⟨rfl, N84q, e84⟩ := hQ84
      have N84 := Fr.app N77 N84q
      refine GoW.sg (mkF m 130 (Sh20 q1 q2 q3 q4 b38 b41 r73 r74 r73 r74 b80 b41) [(.ref b41)]) (fun t k => st84 t k) ?_
      obtain ⟨T85, X85, e85, st85⟩ := castY X84 hx hZ hown (ww hw 1 rfl) e84 (Ins.self Exa_b41_74) (g := (mkF m 130 (Sh20 q1 q2 q3 q4 b38 b41 r73 r74 r73 r74 b80 b41) [(.ref b41)])) rfl rfl (hb hby at_130)
      refine GoW.sg (mkF m 133 (Sh20 q1 q2 q3 q4 b38 b41 r73 r74 r73 r74 b80 b41) [(.ref b41)]) (fun t k => st85 t k) ?_
      refine GoW.sg (mkF m 135 (Sh21 q1 q2 q3 q4 b38 b41 r73 r74 r73 r74 b80 b41 b41) []) (fun t k => XS.astore X85.here hx rfl (hb hby at_133) rfl rfl (l' := (Sh21 q1 q2 q3 q4 b38 b41 r73 r74 r73 r74 b80 b41 b41)) rfl k) ?_
      refine GoW.sg (mkF m 137 (Sh21 q1 q2 q3 q4 b38 b41 r73 r74 r73 r74 b80 b41 b41) [(.ref b41)]) (fun t k => XS.aload X85.here hx rfl (hb hby at_135) rfl rfl k) ?_
      refine GoW.sg (mkF m 139 (Sh21 q1 q2 q3 q4 b38 b41 r73 r74 r73 r74 b80 b41 b41) [(.ref b41), (.ref b41)]) (fun t k => XS.aload X85.here hx rfl (hb hby at_137) rfl rfl k) ?_
      refine GoW.sg (mkF m 144 (Sh21 q1 q2 q3 q4 b38 b41 r73 r74 r73 r74 b80 b41 b41) []) (fun t k => Jvm.RoadKit.acmp X85 hx rfl (cd := .eq) (x := (.ref b41)) (y := (.ref b41)) rfl rfl (pc0 := 139) (pc' := 144) (same := true) rfl (hb hby at_139) rfl (decide_eq_true rfl) (by decide) (by decide) k) ?_
      refine GoW.sg (mkF m 145 (Sh21 q1 q2 q3 q4 b38 b41 r73 r74 r73 r74 b80 b41 b41) [(.int 1)]) (fun t k => XS.iconst X85.here hx rfl (hb hby at_144) k) ?_
      refine GoW.retN X85 hx (t := .boolean) Bd.returns (by simp) (hb hby at_145) Bd.notSynchronized ?_ (by decide) (by decide)
      exact ⟨rfl, N84⟩
    · refine GoW.sg (mkF m 114 (Sh19 q1 q2 q3 q4 b38 b41 r73 r74 r73 r74 b80) []) (fun t k => XS.ifNo X78.here hx rfl (hb hby at_111) rfl ((if0 _ _).trans (feq c83).1) k) ?_
      refine GoW.sg (mkF m 115 (Sh19 q1 q2 q3 q4 b38 b41 r73 r74 r73 r74 b80) [.null]) (fun t k => XS.aconstNull X78.here hx rfl (hb hby at_114) k) ?_
      refine GoW.sg (mkF m 120 (Sh19 q1 q2 q3 q4 b38 b41 r73 r74 r73 r74 b80) [.null]) (fun t k => XS.goto X78.here hx rfl (pc0 := 115) (pc' := 120) rfl (hb hby at_115) (by decide) (by decide) k) ?_
      refine GoW.sg (mkF m 122 (Sh22 q1 q2 q3 q4 b38 b41 r73 r74 r73 r74 b80) []) (fun t k => XS.astore X78.here hx rfl (hb hby at_120) rfl rfl (l' := (Sh22 q1 q2 q3 q4 b38 b41 r73 r74 r73 r74 b80)) rfl k) ?_
      refine GoW.sg (mkF m 124 (Sh22 q1 q2 q3 q4 b38 b41 r73 r74 r73 r74 b80) [(.ref b41)]) (fun t k => XS.aload X78.here hx rfl (hb hby at_122) rfl rfl k) ?_
      refine GoW.sg (mkF m 125 (Sh22 q1 q2 q3 q4 b38 b41 r73 r74 r73 r74 b80) [.null, (.ref b41)]) (fun t k => XS.aconstNull X78.here hx rfl (hb hby at_124) k) ?_
      refine GoW.sg (mkF m 127 (Sh22 q1 q2 q3 q4 b38 b41 r73 r74 r73 r74 b80) [.null, .null, (.ref b41)]) (fun t k => XS.aload X78.here hx rfl (hb hby at_125) rfl rfl k) ?_
      obtain ⟨_, _, ⟨T86, L86, k86, n86⟩, -, X86, ⟨Lc86, hQ86, l86, y86, z86⟩, st86⟩ := Jvm.LawKit.callS X78 hx (y := (⟨"com/example/relaystack/relaystack/CommandLine", "once", "(Ljava/lang/String;Ljava/lang/Object;Ljava/lang/Object;)Ljava/lang/Object;"⟩ : MethodName)) hown (mvT hZ (ww hw 45 rfl)) (mvT hZ (ww hw 46 rfl)) (mvT hZ (ww hw 47 rfl)) (mvT hZ (ww hw 48 rfl)) (by decide) (backOf (W := 0) (rm9_15 l Z a0 hw [] b41 b72_e0 k72_ke0 (nar .byte ch0.toInt8.toInt32) (nar .byte ch1.toInt8.toInt32) cs aI aL T74.heap n0  Exa_b41_74 Fld_b41_coder_74 Fld_b41_value_74 Arv_b72_e0_74 Sta_java_lang_String_COMPACT_STRINGS_74 Sta_java_lang_Integer_IntegerCache_cache_74 Sta_java_lang_Integer_IntegerCache_high_74 Sta_java_lang_Long_LongCache_cache_74  ne_b41_b72_e0 ncs ) hZ (ww hw 48 rfl) (ww hw 47 rfl) (by decide) (by decide)) (g := (mkF m 127 (Sh22 q1 q2 q3 q4 b38 b41 r73 r74 r73 r74 b80) [.null, .null, (.ref b41)])) rfl (by rw [hml]; rfl) (argsL := [(.ref b41), .null, .null]) (rest := []) (lenOf pd_28Ljava2flang2fString3bLjava2flang2fObject3bLjava2flang2fObject3b29Ljava2flang2fObject3b rfl) rfl (by show 2 * 0 + _ ≤ _; exact Nat.le_of_eq rfl) (hb hby at_127) (fun _ _ => ⟨rfl, e78, (by decide : 5 + 0 ≤ _), (by decide : 10 + 0 ≤ _)⟩)
      dsimp only [Pt.U, Pt.locs, Pt.cells, Pt.slots] at X86 l86 y86 z86 st86 hQ86
      subst l86 y86 z86
      obtain ⟨rfl, N86q, e86⟩ := hQ86
      have N86 := Fr.app N77 N86q
      refine GoW.sg (mkF m 130 (Sh22 q1 q2 q3 q4 b38 b41 r73 r74 r73 r74 b80) [.null]) (fun t k => st86 t k) ?_
      refine GoW.sg (mkF m 133 (Sh22 q1 q2 q3 q4 b38 b41 r73 r74 r73 r74 b80) [.null]) (fun t k => Stand.checkcastNull X86 hx (g := (mkF m 130 (Sh22 q1 q2 q3 q4 b38 b41 r73 r74 r73 r74 b80) [.null])) rfl rfl (hb hby at_130) t k) ?_
      refine GoW.sg (mkF m 135 (Sh24 q1 q2 q3 q4 b38 b41 r73 r74 r73 r74 b80) []) (fun t k => XS.astore X86.here hx rfl (hb hby at_133) rfl rfl (l' := (Sh24 q1 q2 q3 q4 b38 b41 r73 r74 r73 r74 b80)) rfl k) ?_
      refine GoW.sg (mkF m 137 (Sh24 q1 q2 q3 q4 b38 b41 r73 r74 r73 r74 b80) [.null]) (fun t k => XS.aload X86.here hx rfl (hb hby at_135) rfl rfl k) ?_
      refine GoW.sg (mkF m 139 (Sh24 q1 q2 q3 q4 b38 b41 r73 r74 r73 r74 b80) [.null, .null]) (fun t k => XS.aload X86.here hx rfl (hb hby at_137) rfl rfl k) ?_
      refine GoW.sg (mkF m 144 (Sh24 q1 q2 q3 q4 b38 b41 r73 r74 r73 r74 b80) []) (fun t k => Jvm.RoadKit.acmp X86 hx rfl (cd := .eq) (x := .null) (y := .null) rfl rfl (pc0 := 139) (pc' := 144) (same := true) rfl (hb hby at_139) rfl (decide_eq_true rfl) (by decide) (by decide) k) ?_
      refine GoW.sg (mkF m 145 (Sh24 q1 q2 q3 q4 b38 b41 r73 r74 r73 r74 b80) [(.int 1)]) (fun t k => XS.iconst X86.here hx rfl (hb hby at_144) k) ?_
      refine GoW.retN X86 hx (t := .boolean) Bd.returns (by simp) (hb hby at_145) Bd.notSynchronized ?_ (by decide) (by decide)
      exact ⟨rfl, N86⟩
  by_cases c82 : (q4 &&& (1 : Int32)) = (0 : Int32)
  · refine GoW.sg (mkF m 106 (Sh18 q1 q2 q3 q4 b38 b41 r73 r74 r73 r74) []) (fun t k => XS.ifYes X78.here hx rfl (pc0 := 99) (pc' := 106) rfl (hb hby at_99) rfl ((if0 _ _).trans (teq c82).1) (by decide) (by decide) k) ?_
    refine GoW.sg (mkF m 107 (Sh18 q1 q2 q3 q4 b38 b41 r73 r74 r73 r74) [(.int 0)]) (fun t k => XS.iconst X78.here hx rfl (hb hby at_106) k) ?_
    exact J107_81 _ (by rw [if_pos c82])
  · refine GoW.sg (mkF m 102 (Sh18 q1 q2 q3 q4 b38 b41 r73 r74 r73 r74) []) (fun t k => XS.ifNo X78.here hx rfl (hb hby at_99) rfl ((if0 _ _).trans (feq c82).1) k) ?_
    refine GoW.sg (mkF m 103 (Sh18 q1 q2 q3 q4 b38 b41 r73 r74 r73 r74) [(.int 1)]) (fun t k => XS.iconst X78.here hx rfl (hb hby at_102) k) ?_
    refine GoW.sg (mkF m 107 (Sh18 q1 q2 q3 q4 b38 b41 r73 r74 r73 r74) [(.int 1)]) (fun t k => XS.goto X78.here hx rfl (pc0 := 103) (pc' := 107) rfl (hb hby at_103) (by decide) (by decide) k) ?_
    exact J107_81 _ (by rw [if_neg c82])

set_option maxRecDepth 65536 in
set_option maxHeartbeats 40000000 in
theorem comes_1 {Post : Tables → Env → Array Value → State → Outcome → State → Prop} (hpost : ∀ tb e args s v u, (limb_1_1.after args s (.returned v) u = true ∧ limb_1_2.after args s (.returned v) u = true ∧ True) → FrameEnd s (.returned v) u (Jvm.fieldLocs frame_1_writes args s ++ Jvm.arrayLocs frame_1_arrays args s ++ Jvm.staticLocs frame_1_statics s) 24 128 → Post tb e args s (.returned v) u) :
    ArmFor flags0 classFile x code maxLocals ret World_1 tables_1 room_1 Calls_1 rest_1 Pre_1 Post := by
  intro l hfl _ _ p e ha hc hk s m args below hf hA hF happ hP
  obtain ⟨hcalls, hrest, hpre⟩ := hP
  obtain ⟨-, -, -, hnamed, -, -, -, hat⟩ := (Spec.applies_iff hf).mp happ
  obtain ⟨hg, hn⟩ := and_e (Cond.before_iff.mp (show (Jvm.Cond.and given_1 narrow_1).before args s = true from hpre))
  obtain ⟨ga0, gb0⟩ := and_e hg
  obtain ⟨ga1, gb1⟩ := and_e gb0
  obtain ⟨ga2, gb2⟩ := and_e gb1
  obtain ⟨ga3, gb3⟩ := and_e gb2
  obtain ⟨w0, w1, w2, w3, rfl⟩ : ∃ w0 w1 w2 w3 : Value, args = #[w0, w1, w2, w3] := by
    have hs : args.size = 4 := by simpa [Cond.value, given_1] using ga0
    obtain ⟨L⟩ := args
    match L, hs with
    | [w0, w1, w2, w3], _ => exact ⟨w0, w1, w2, w3, rfl⟩
  have hw := fun d (hd : d ∈ tables_1) => atoms_spec (ws := Jvm.Cond.code x code maxLocals ret :: tables_1) hat d (List.mem_cons_of_mem _ hd)
  have hfit : Fit s := fun {y c} hc i hi => by
    obtain ⟨ha, rfl⟩ := Array.getElem?_eq_some_iff.mp hc
    have q := List.all_eq_true.mp ((Array.all_eq_true_iff_forall_mem.mp hF) _ (Array.getElem_mem ha)) i (List.mem_range.mpr hi)
    simpa [Array.getElem?_eq_getElem hi] using q
  obtain ⟨i0, ei0⟩ := is_v ga1
  obtain rfl : w0 = (.int i0) := Option.some.inj ei0
  obtain ⟨i1, ei1⟩ := is_v ga2
  obtain rfl : w1 = (.int i1) := Option.some.inj ei1
  obtain ⟨i2, ei2⟩ := isL_v ga3
  obtain rfl : w2 = (.long i2) := Option.some.inj ei2
  obtain ⟨i3, ei3⟩ := is_v gb3
  obtain rfl : w3 = (.int i3) := Option.some.inj ei3
  obtain ⟨hsets, hown0⟩ := atoms_of _ (rest_1_c_eq ▸ (show rest_1_c.before _ s = true from hrest))
  have n5 := not_v (Cond.before_iff.mp (hsets _ (List.mem_of_getElem? (i := 2) rfl)))
  obtain ⟨cs, ecs⟩ := is_v (Cond.before_iff.mp (hsets _ (List.mem_of_getElem? (i := 1) rfl)))
  have S0 := Sta.start ecs (Or.inl (hsets _ (List.mem_of_getElem? (i := 0) rfl)))
  have ncs : ¬ (cs = (0 : Int32)) := gotF (Cond.eq_ints ecs (Term.int_eval (0))) n5
  have S2 := Sta.start (own_eqI (Cond.before_iff.mp (hsets _ (List.mem_of_getElem? (i := 12) rfl)))) (Or.inl (hsets _ (List.mem_of_getElem? (i := 10) rfl)))
  have mI := Cond.before_iff.mp (hsets _ (List.mem_of_getElem? (i := 13) rfl))
  obtain ⟨aI, evI⟩ := arr_v mI
  obtain ⟨clI, AI⟩ := Arr.start evI mI
  have S1 := Sta.start evI (Or.inr ⟨(ww hw 35 rfl), (hsets _ (List.mem_of_getElem? (i := 11) rfl))⟩)
  have BI := Box.start (fun _ => evI) AI (Cond.before_iff.mp (hsets _ (List.mem_of_getElem? (i := 15) rfl))) (Cond.before_iff.mp (hsets _ (List.mem_of_getElem? (i := 16) rfl)))
  have mL := Cond.before_iff.mp (hsets _ (List.mem_of_getElem? (i := 19) rfl))
  obtain ⟨aL, evL⟩ := arr_v mL
  obtain ⟨clL, AL⟩ := Arr.start evL mL
  have S3 := Sta.start evL (Or.inl (hsets _ (List.mem_of_getElem? (i := 18) rfl)))
  have BL := Box.start (fun _ => evL) AL (Cond.before_iff.mp (hsets _ (List.mem_of_getElem? (i := 21) rfl))) (Cond.before_iff.mp (hsets _ (List.mem_of_getElem? (i := 22) rfl)))
  obtain ⟨n, o, h1, h2, h3, v, L, rfl, ⟨hv, N⟩, hq⟩ := rm0 l s _ hw tables_1 i0 i1 i2 i3 cs aI aL s.heap s.heap.size (Nat.le_refl _) S0 S1 S2 S3 (Old.start s) ncs BI BL p e ha hc hk s m _ below hf ((Spec.applies_iff_loose hf).mp happ).1 ⟨rfl, State.Warmed39.refl s, rfl⟩ trivial
  subst hv
  refine ⟨n, _, h1, h2, h3, hpost _ _ _ _ _ _ ⟨Cond.after_iff.mpr rfl, Cond.after_iff.mpr (eq_i res_at (Term.int_eval (1)) rfl), trivial⟩ ⟨hq.1, hq.2.1, (hq.2.2.sift fun y hy => Or.inr (N y hy)).mono (by decide) (by decide)⟩⟩
theorem main_1_1 : Claimed_1_1 := comes_1 fun _ _ _ _ _ _ h hF => ⟨h.1, hF⟩
theorem main_1_2 : Claimed_1_2 := comes_1 fun _ _ _ _ _ _ h hF => ⟨h.2.1, hF⟩
end Jvm.Pilot.@@N@@
namespace Jvm.Pilot.@@N@@
open Jvm Jvm.ClassFile Sem Op Lib Jvm.Free Jvm.Stand Jvm.Pilot.@@N@@.Jvm.D
/-! MADE BY PROGRAM (witnessworld.py) out of the Statement's table words and the real class files: 27 classes; the members and pool entries that the words name. The judged class is class 1, her method 1. -/
namespace start1
open Jvm.ClassFile
def u (s : String) : CpInfo := .utf8 (stringToUtf16 s)
/-- a pool by its gaps: so many unusable entries, then the entry; so many at the end -/
def gap : Nat → List CpInfo → List CpInfo
  | 0, r => r
  | n + 1, r => .unusable :: gap n r
def poolList (es : List (Nat × CpInfo)) (last : Nat) : List CpInfo := es.foldr (fun e r => gap e.1 (e.2 :: r)) (gap last [])
def pool (es : List (Nat × CpInfo)) (last : Nat) : Array CpInfo := ⟨poolList es last⟩
def fileOf (pool : Array CpInfo) (this : Nat) (attrs : Array Attribute := #[]) (ms : Array MethodInfo := #[]) (fl : Nat := 33) (sup : Nat := 0) (ifs : Array Nat := #[]) (fds : Array FieldInfo := #[]) : ClassFile where
  minorVersion := 0
  majorVersion := 65
  constantPool := pool
  accessFlags := fl
  thisClass := this
  superClass := sup
  interfaces := ifs
  fields := fds
  methods := ms
  attributes := attrs
def plain (name : String) (sup : Option ClassId) : Class where
  name := name
  kind := .ordinary
  loader := none
  accessFlags := 33
  super := sup
  interfaces := #[]
  cf := none
  fields := #[]
  methods := #[]
  instanceTypes := #[]
  staticTypes := #[]
  resolved := #[]
  callSites := []
  init := .initialized
  statics := none
  mirror := none

def pool0 : Array CpInfo := pool [(5, u "<init>"), (0, u "()V"), (1, .class_ 10), (1, u "java/lang/Object")] 113

def k0c0 : Code := { maxStack := 0, maxLocals := 1, code := object_method_1_code, exceptionTable := #[], attributes := #[] }
def k0m0 : Method := { name := "<init>", desc := "()V", sig := { parameters := [], returnType := none }, accessFlags := 1, code := some k0c0 }
/-- java/lang/Object -/
def k0 : Class := { plain "java/lang/Object" none with
  accessFlags := 33
  interfaces := #[]
  cf := some (fileOf pool0 8 #[] #[{ accessFlags := 1, nameIndex := 5, descriptorIndex := 6, attributes := #[] }] 33 0 #[] #[])
  fields := #[]
  methods := #[k0m0]
  instanceTypes := #[]
  staticTypes := #[]
  resolved := Array.replicate 124 none
  statics := none }

def pool1 : Array CpInfo := pool [(2, .class_ 4), (1, u "java/lang/Object"), (0, u "<init>"), (0, u "()V"), (0, .class_ 8), (0, u "java/lang/String"), (0, .methodref 7 10), (0, .nameAndType 5 11), (0, u "([C)V"), (0, .methodref 13 14), (0, .class_ 15), (0, .nameAndType 16 17), (0, u "java/lang/Integer"), (0, u "valueOf"), (0, u "(I)Ljava/lang/Integer;"), (0, .methodref 19 20), (0, .class_ 21), (0, .nameAndType 16 22), (0, u "java/lang/Long"), (0, u "(J)Ljava/lang/Long;"), (0, .methodref 24 25), (0, .class_ 26), (0, .nameAndType 27 28), (0, u "com/example/relaystack/relaystack/CommandLine"), (0, u "once"), (0, u "(Ljava/lang/String;Ljava/lang/Object;Ljava/lang/Object;)Ljava/lang/Object;"), (0, .class_ 30), (0, u "com/example/relaystack/relaystack/CommandLineOncePinLaw"), (2, u "law"), (0, u "(IIJI)Z")] 5

def k1m0 : Method := { name := "<init>", desc := "()V", sig := { parameters := [], returnType := none }, accessFlags := 2, code := none }
def k1c1 : Code := { maxStack := 4, maxLocals := 14, code := code, exceptionTable := #[], attributes := #[] }
def k1m1 : Method := { name := "law", desc := "(IIJI)Z", sig := { parameters := [.int, .int, .long, .int], returnType := some .boolean }, accessFlags := 9, code := some k1c1 }
/-- com/example/relaystack/relaystack/CommandLineOncePinLaw -/
def k1 : Class := { plain "com/example/relaystack/relaystack/CommandLineOncePinLaw" (some 0) with
  accessFlags := 49
  interfaces := #[]
  cf := some (fileOf pool1 29 #[] #[{ accessFlags := 2, nameIndex := 5, descriptorIndex := 6, attributes := #[] }, { accessFlags := 9, nameIndex := 33, descriptorIndex := 34, attributes := #[] }] 49 2 #[] #[])
  fields := #[]
  methods := #[k1m0, k1m1]
  instanceTypes := #[]
  staticTypes := #[]
  resolved := Array.replicate 40 none
  statics := none }

def pool2 : Array CpInfo := pool [(1, .class_ 2), (0, u "java/io/Serializable"), (0, .class_ 4), (0, u "java/lang/Object")] 2

/-- java/io/Serializable -/
def k2 : Class := { plain "java/io/Serializable" (some 0) with
  accessFlags := 1537
  interfaces := #[]
  cf := some (fileOf pool2 1 #[] #[] 1537 3 #[] #[])
  fields := #[]
  methods := #[]
  instanceTypes := #[]
  staticTypes := #[]
  resolved := Array.replicate 7 none
  statics := none }

def pool3 : Array CpInfo := pool [(1, .class_ 2), (0, u "java/lang/Comparable"), (0, .class_ 4), (0, u "java/lang/Object")] 7

/-- java/lang/Comparable -/
def k3 : Class := { plain "java/lang/Comparable" (some 0) with
  accessFlags := 1537
  interfaces := #[]
  cf := some (fileOf pool3 1 #[] #[] 1537 3 #[] #[])
  fields := #[]
  methods := #[]
  instanceTypes := #[]
  staticTypes := #[]
  resolved := Array.replicate 12 none
  statics := none }

def pool4 : Array CpInfo := pool [(2, .class_ 4), (1, u "java/lang/CharSequence"), (42, .class_ 48), (0, u "java/lang/CharSequence$1CodePointIterator"), (10, .class_ 60), (0, u "java/lang/CharSequence$1CharIterator"), (5, .class_ 67), (0, u "java/lang/Object")] 63

/-- java/lang/CharSequence -/
def k4 : Class := { plain "java/lang/CharSequence" (some 0) with
  accessFlags := 1537
  interfaces := #[]
  cf := some (fileOf pool4 2 #[.nestMembers #[47, 59]] #[] 1537 66 #[] #[])
  fields := #[]
  methods := #[]
  instanceTypes := #[]
  staticTypes := #[]
  resolved := Array.replicate 131 none
  statics := none }

def pool5 : Array CpInfo := pool [(1, .class_ 2), (0, u "java/lang/constant/Constable"), (0, .class_ 4), (0, u "java/lang/Object")] 6

/-- java/lang/constant/Constable -/
def k5 : Class := { plain "java/lang/constant/Constable" (some 0) with
  accessFlags := 1537
  interfaces := #[]
  cf := some (fileOf pool5 1 #[] #[] 1537 3 #[] #[])
  fields := #[]
  methods := #[]
  instanceTypes := #[]
  staticTypes := #[]
  resolved := Array.replicate 11 none
  statics := none }

def pool6 : Array CpInfo := pool [(1, .class_ 2), (0, u "java/lang/constant/ConstantDesc"), (0, .class_ 4), (0, u "java/lang/Object")] 32

/-- java/lang/constant/ConstantDesc -/
def k6 : Class := { plain "java/lang/constant/ConstantDesc" (some 0) with
  accessFlags := 1537
  interfaces := #[]
  cf := some (fileOf pool6 1 #[] #[] 1537 3 #[] #[])
  fields := #[]
  methods := #[]
  instanceTypes := #[]
  staticTypes := #[]
  resolved := Array.replicate 37 none
  statics := none }

def pool7 : Array CpInfo := pool [(1, .methodref 2 3), (0, .class_ 4), (0, .nameAndType 5 6), (0, u "java/lang/Object"), (0, u "<init>"), (0, u "()V"), (2, .fieldref 10 11), (0, .class_ 12), (0, .nameAndType 13 14), (0, u "java/lang/String"), (0, u "value"), (0, u "[B"), (0, .fieldref 10 16), (0, .nameAndType 17 18), (0, u "coder"), (0, u "B"), (2, u "hash"), (0, u "I"), (2, u "hashIsZero"), (0, u "Z"), (0, .methodref 10 28), (0, .nameAndType 5 29), (0, u "([CIILjava/lang/Void;)V"), (8, .fieldref 10 39), (0, .nameAndType 40 26), (0, u "COMPACT_STRINGS"), (1, .class_ 44), (1, u "java/lang/StringUTF16"), (0, u "compress"), (1, .methodref 42 48), (0, .nameAndType 49 50), (0, u "coderFromArrayLen"), (0, u "([BI)B"), (126, .methodref 42 178), (0, .nameAndType 45 179), (0, u "([CII)[B"), (395, .class_ 576), (0, u "java/lang/CharSequence"), (22, u "CASE_INSENSITIVE_ORDER"), (0, u "Ljava/util/Comparator;"), (409, u "([C)V"), (90, u "serialPersistentFields"), (0, u "[Ljava/io/ObjectStreamField;"), (0, .class_ 1104), (0, u "java/lang/String$CaseInsensitiveComparator"), (1, .class_ 1107), (0, u "java/io/Serializable"), (0, .class_ 1109), (0, u "java/lang/Comparable"), (0, .class_ 1111), (0, u "java/lang/constant/Constable"), (0, .class_ 1113), (0, u "java/lang/constant/ConstantDesc"), (2, u "serialVersionUID"), (0, u "J"), (3, u "REPL"), (0, u "C"), (2, u "LATIN1"), (1, u "UTF16")] 323

def k7m0 : Method := { name := "<init>", desc := "()V", sig := { parameters := [], returnType := none }, accessFlags := 1, code := none }
def k7c1 : Code := { maxStack := 5, maxLocals := 2, code := jdk_42_method_3_code, exceptionTable := #[], attributes := #[] }
def k7m1 : Method := { name := "<init>", desc := "([C)V", sig := { parameters := [(.array .char)], returnType := none }, accessFlags := 1, code := some k7c1 }
def k7c2 : Code := { maxStack := 4, maxLocals := 6, code := jdk_42_method_149_code, exceptionTable := #[], attributes := #[] }
def k7m2 : Method := { name := "<init>", desc := "([CIILjava/lang/Void;)V", sig := { parameters := [(.array .char), .int, .int, (.object "java/lang/Void")], returnType := none }, accessFlags := 2, code := some k7c2 }
/-- java/lang/String -/
def k7 : Class := { plain "java/lang/String" (some 0) with
  accessFlags := 49
  interfaces := #[2, 3, 4, 5, 6]
  cf := some (fileOf pool7 10 #[.nestMembers #[1103]] #[{ accessFlags := 1, nameIndex := 5, descriptorIndex := 6, attributes := #[] }, { accessFlags := 1, nameIndex := 5, descriptorIndex := 1010, attributes := #[] }, { accessFlags := 2, nameIndex := 5, descriptorIndex := 29, attributes := #[] }] 49 2 #[1106, 1108, 575, 1110, 1112] #[{ accessFlags := 18, nameIndex := 13, descriptorIndex := 14, attributes := #[] }, { accessFlags := 18, nameIndex := 17, descriptorIndex := 18, attributes := #[] }, { accessFlags := 2, nameIndex := 21, descriptorIndex := 22, attributes := #[] }, { accessFlags := 2, nameIndex := 25, descriptorIndex := 26, attributes := #[] }, { accessFlags := 26, nameIndex := 1116, descriptorIndex := 1117, attributes := #[] }, { accessFlags := 24, nameIndex := 40, descriptorIndex := 26, attributes := #[] }, { accessFlags := 26, nameIndex := 1101, descriptorIndex := 1102, attributes := #[] }, { accessFlags := 26, nameIndex := 1121, descriptorIndex := 1122, attributes := #[] }, { accessFlags := 25, nameIndex := 599, descriptorIndex := 600, attributes := #[] }, { accessFlags := 24, nameIndex := 1125, descriptorIndex := 18, attributes := #[] }, { accessFlags := 24, nameIndex := 1127, descriptorIndex := 18, attributes := #[] }])
  fields := #[{ name := "value", type := (.array .byte), accessFlags := 18, slot := 0, constantValue := 0 }, { name := "coder", type := .byte, accessFlags := 18, slot := 1, constantValue := 0 }, { name := "hash", type := .int, accessFlags := 2, slot := 2, constantValue := 0 }, { name := "hashIsZero", type := .boolean, accessFlags := 2, slot := 3, constantValue := 0 }, { name := "serialVersionUID", type := .long, accessFlags := 26, slot := 0, constantValue := 0 }, { name := "COMPACT_STRINGS", type := .boolean, accessFlags := 24, slot := 1, constantValue := 0 }, { name := "serialPersistentFields", type := (.array (.object "java/io/ObjectStreamField")), accessFlags := 26, slot := 2, constantValue := 0 }, { name := "REPL", type := .char, accessFlags := 26, slot := 3, constantValue := 0 }, { name := "CASE_INSENSITIVE_ORDER", type := (.object "java/util/Comparator"), accessFlags := 25, slot := 4, constantValue := 0 }, { name := "LATIN1", type := .byte, accessFlags := 24, slot := 5, constantValue := 0 }, { name := "UTF16", type := .byte, accessFlags := 24, slot := 6, constantValue := 0 }]
  methods := #[k7m0, k7m1, k7m2]
  instanceTypes := #[(.array .byte), .byte, .int, .boolean]
  staticTypes := #[.long, .boolean, (.array (.object "java/io/ObjectStreamField")), .char, (.object "java/util/Comparator"), .byte, .byte]
  resolved := Array.replicate 1451 none
  statics := some 0 }

def pool8 : Array CpInfo := pool [(6, .class_ 8), (1, u "java/lang/Object"), (0, u "<init>"), (0, u "()V"), (1, .class_ 14), (1, u "java/lang/StringUTF16"), (31, u "$assertionsDisabled"), (0, u "Z"), (13, u "HI_BYTE_SHIFT"), (0, u "I"), (2, u "LO_BYTE_SHIFT"), (49, .methodref 12 116), (0, .nameAndType 117 118), (0, u "compress"), (0, u "([CI[BII)I"), (3, u "([CII)[B"), (138, u "coderFromArrayLen"), (0, u "([BI)B"), (106, .class_ 371), (1, u "java/lang/StringUTF16$LinesSpliterator"), (58, u "MAX_LENGTH"), (196, .class_ 628), (0, u "java/lang/StringUTF16$CodePointsSpliterator"), (0, .class_ 630), (0, u "java/lang/StringUTF16$CharsSpliterator")] 4

def k8m0 : Method := { name := "<init>", desc := "()V", sig := { parameters := [], returnType := none }, accessFlags := 0, code := none }
def k8c1 : Code := { maxStack := 2, maxLocals := 2, code := jdk_52_method_15_code, exceptionTable := #[], attributes := #[] }
def k8m1 : Method := { name := "coderFromArrayLen", desc := "([BI)B", sig := { parameters := [(.array .byte), .int], returnType := some .byte }, accessFlags := 8, code := some k8c1 }
def k8c2 : Code := { maxStack := 5, maxLocals := 6, code := jdk_52_method_16_code, exceptionTable := #[], attributes := #[] }
def k8m2 : Method := { name := "compress", desc := "([CII)[B", sig := { parameters := [(.array .char), .int, .int], returnType := some (.array .byte) }, accessFlags := 9, code := some k8c2 }
def k8c3 : Code := { maxStack := 3, maxLocals := 7, code := jdk_52_method_21_code, exceptionTable := #[], attributes := #[] }
def k8m3 : Method := { name := "compress", desc := "([CI[BII)I", sig := { parameters := [(.array .char), .int, (.array .byte), .int, .int], returnType := some .int }, accessFlags := 9, code := some k8c3 }
/-- java/lang/StringUTF16 -/
def k8 : Class := { plain "java/lang/StringUTF16" (some 0) with
  accessFlags := 48
  interfaces := #[]
  cf := some (fileOf pool8 12 #[.nestMembers #[627, 629, 369]] #[{ accessFlags := 0, nameIndex := 9, descriptorIndex := 10, attributes := #[] }, { accessFlags := 8, nameIndex := 261, descriptorIndex := 262, attributes := #[] }, { accessFlags := 9, nameIndex := 117, descriptorIndex := 122, attributes := #[] }, { accessFlags := 9, nameIndex := 117, descriptorIndex := 118, attributes := #[] }] 48 6 #[] #[{ accessFlags := 26, nameIndex := 61, descriptorIndex := 62, attributes := #[] }, { accessFlags := 26, nameIndex := 65, descriptorIndex := 62, attributes := #[] }, { accessFlags := 24, nameIndex := 430, descriptorIndex := 62, attributes := #[] }, { accessFlags := 4120, nameIndex := 46, descriptorIndex := 47, attributes := #[] }])
  fields := #[{ name := "HI_BYTE_SHIFT", type := .int, accessFlags := 26, slot := 0, constantValue := 0 }, { name := "LO_BYTE_SHIFT", type := .int, accessFlags := 26, slot := 1, constantValue := 0 }, { name := "MAX_LENGTH", type := .int, accessFlags := 24, slot := 2, constantValue := 0 }, { name := "$assertionsDisabled", type := .boolean, accessFlags := 4120, slot := 3, constantValue := 0 }]
  methods := #[k8m0, k8m1, k8m2, k8m3]
  instanceTypes := #[]
  staticTypes := #[.int, .int, .int, .boolean]
  resolved := Array.replicate 635 none
  statics := none }

def pool9 : Array CpInfo := pool [(1, .methodref 2 3), (0, .class_ 4), (0, .nameAndType 5 6), (0, u "java/lang/Object"), (0, u "<init>"), (0, u "()V"), (1, .class_ 10), (1, u "java/lang/Number"), (2, .class_ 14), (0, u "java/io/Serializable"), (0, u "serialVersionUID"), (0, u "J")] 20

def k9c0 : Code := { maxStack := 1, maxLocals := 1, code := jdk_18_method_1_code, exceptionTable := #[], attributes := #[] }
def k9m0 : Method := { name := "<init>", desc := "()V", sig := { parameters := [], returnType := none }, accessFlags := 1, code := some k9c0 }
/-- java/lang/Number -/
def k9 : Class := { plain "java/lang/Number" (some 0) with
  accessFlags := 1057
  interfaces := #[2]
  cf := some (fileOf pool9 8 #[] #[{ accessFlags := 1, nameIndex := 5, descriptorIndex := 6, attributes := #[] }] 1057 2 #[13] #[{ accessFlags := 26, nameIndex := 15, descriptorIndex := 16, attributes := #[] }])
  fields := #[{ name := "serialVersionUID", type := .long, accessFlags := 26, slot := 0, constantValue := 0 }]
  methods := #[k9m0]
  instanceTypes := #[]
  staticTypes := #[.long]
  resolved := Array.replicate 37 none
  statics := none }

def pool10 : Array CpInfo := pool [(1, .class_ 2), (0, u "java/lang/Integer"), (16, u "digits"), (0, u "[C"), (46, u "<init>"), (17, u "DigitOnes"), (0, u "[B"), (2, u "DigitTens"), (10, .nameAndType 67 101), (0, u "()V"), (85, u "valueOf"), (0, u "(I)Ljava/lang/Integer;"), (0, .class_ 190), (0, u "java/lang/Integer$IntegerCache"), (0, .fieldref 189 192), (0, .nameAndType 193 194), (0, u "high"), (0, u "I"), (0, .fieldref 189 196), (0, .nameAndType 197 198), (0, u "cache"), (0, u "[Ljava/lang/Integer;"), (0, .methodref 1 200), (0, .nameAndType 67 201), (0, u "(I)V"), (0, .methodref 203 100), (0, .class_ 204), (0, u "java/lang/Number"), (0, .fieldref 1 206), (0, .nameAndType 207 194), (0, u "value"), (94, u "TYPE"), (0, u "Ljava/lang/Class;"), (0, .class_ 305), (0, u "java/lang/Comparable"), (0, .class_ 307), (0, u "java/lang/constant/Constable"), (0, .class_ 309), (0, u "java/lang/constant/ConstantDesc"), (0, u "MIN_VALUE"), (1, u "MAX_VALUE"), (3, u "SIZE"), (1, u "BYTES"), (1, u "serialVersionUID"), (0, u "J")] 131

def k10c0 : Code := { maxStack := 3, maxLocals := 1, code := jdk_33_method_22_code, exceptionTable := #[], attributes := #[] }
def k10m0 : Method := { name := "valueOf", desc := "(I)Ljava/lang/Integer;", sig := { parameters := [.int], returnType := some (.object "java/lang/Integer") }, accessFlags := 9, code := some k10c0 }
def k10c1 : Code := { maxStack := 2, maxLocals := 2, code := jdk_33_method_23_code, exceptionTable := #[], attributes := #[] }
def k10m1 : Method := { name := "<init>", desc := "(I)V", sig := { parameters := [.int], returnType := none }, accessFlags := 1, code := some k10c1 }
/-- java/lang/Integer -/
def k10 : Class := { plain "java/lang/Integer" (some 9) with
  accessFlags := 49
  interfaces := #[3, 5, 6]
  cf := some (fileOf pool10 1 #[.nestMembers #[189]] #[{ accessFlags := 9, nameIndex := 187, descriptorIndex := 188, attributes := #[] }, { accessFlags := 1, nameIndex := 67, descriptorIndex := 201, attributes := #[] }] 49 203 #[304, 306, 308] #[{ accessFlags := 25, nameIndex := 310, descriptorIndex := 194, attributes := #[] }, { accessFlags := 25, nameIndex := 312, descriptorIndex := 194, attributes := #[] }, { accessFlags := 25, nameIndex := 302, descriptorIndex := 303, attributes := #[] }, { accessFlags := 24, nameIndex := 19, descriptorIndex := 20, attributes := #[] }, { accessFlags := 24, nameIndex := 89, descriptorIndex := 86, attributes := #[] }, { accessFlags := 24, nameIndex := 85, descriptorIndex := 86, attributes := #[] }, { accessFlags := 18, nameIndex := 207, descriptorIndex := 194, attributes := #[] }, { accessFlags := 25, nameIndex := 316, descriptorIndex := 194, attributes := #[] }, { accessFlags := 25, nameIndex := 318, descriptorIndex := 194, attributes := #[] }, { accessFlags := 26, nameIndex := 320, descriptorIndex := 321, attributes := #[] }])
  fields := #[{ name := "MIN_VALUE", type := .int, accessFlags := 25, slot := 0, constantValue := 0 }, { name := "MAX_VALUE", type := .int, accessFlags := 25, slot := 1, constantValue := 0 }, { name := "TYPE", type := (.object "java/lang/Class"), accessFlags := 25, slot := 2, constantValue := 0 }, { name := "digits", type := (.array .char), accessFlags := 24, slot := 3, constantValue := 0 }, { name := "DigitTens", type := (.array .byte), accessFlags := 24, slot := 4, constantValue := 0 }, { name := "DigitOnes", type := (.array .byte), accessFlags := 24, slot := 5, constantValue := 0 }, { name := "value", type := .int, accessFlags := 18, slot := 0, constantValue := 0 }, { name := "SIZE", type := .int, accessFlags := 25, slot := 6, constantValue := 0 }, { name := "BYTES", type := .int, accessFlags := 25, slot := 7, constantValue := 0 }, { name := "serialVersionUID", type := .long, accessFlags := 26, slot := 8, constantValue := 0 }]
  methods := #[k10m0, k10m1]
  instanceTypes := #[.int]
  staticTypes := #[.int, .int, (.object "java/lang/Class"), (.array .char), (.array .byte), (.array .byte), .int, .int, .long]
  resolved := Array.replicate 453 none
  statics := none }

def pool11 : Array CpInfo := pool [(2, .class_ 4), (1, u "java/lang/Object"), (0, u "<init>"), (0, u "()V"), (0, .class_ 8), (0, u "java/lang/Integer"), (7, .class_ 18), (1, u "java/lang/Integer$IntegerCache"), (0, u "$assertionsDisabled"), (0, u "Z"), (26, u "high"), (0, u "I"), (8, u "archivedCache"), (0, u "[Ljava/lang/Integer;"), (12, u "cache"), (0, u "low")] 27

def k11m0 : Method := { name := "<init>", desc := "()V", sig := { parameters := [], returnType := none }, accessFlags := 2, code := none }
/-- java/lang/Integer$IntegerCache -/
def k11 : Class := { plain "java/lang/Integer$IntegerCache" (some 0) with
  accessFlags := 48
  interfaces := #[]
  cf := some (fileOf pool11 16 #[.nestHost 7] #[{ accessFlags := 2, nameIndex := 5, descriptorIndex := 6, attributes := #[] }] 48 2 #[] #[{ accessFlags := 24, nameIndex := 72, descriptorIndex := 48, attributes := #[] }, { accessFlags := 24, nameIndex := 47, descriptorIndex := 48, attributes := #[] }, { accessFlags := 24, nameIndex := 71, descriptorIndex := 58, attributes := #[] }, { accessFlags := 8, nameIndex := 57, descriptorIndex := 58, attributes := #[] }, { accessFlags := 4120, nameIndex := 19, descriptorIndex := 20, attributes := #[] }])
  fields := #[{ name := "low", type := .int, accessFlags := 24, slot := 0, constantValue := 0 }, { name := "high", type := .int, accessFlags := 24, slot := 1, constantValue := 0 }, { name := "cache", type := (.array (.object "java/lang/Integer")), accessFlags := 24, slot := 2, constantValue := 0 }, { name := "archivedCache", type := (.array (.object "java/lang/Integer")), accessFlags := 8, slot := 3, constantValue := 0 }, { name := "$assertionsDisabled", type := .boolean, accessFlags := 4120, slot := 4, constantValue := 0 }]
  methods := #[k11m0]
  instanceTypes := #[]
  staticTypes := #[.int, .int, (.array (.object "java/lang/Integer")), (.array (.object "java/lang/Integer")), .boolean]
  resolved := Array.replicate 100 none
  statics := some 1 }

def pool12 : Array CpInfo := pool [(1, .class_ 2), (0, u "java/lang/Long"), (55, .nameAndType 59 60), (0, u "<init>"), (0, u "()V"), (24, u "valueOf"), (143, u "(J)Ljava/lang/Long;"), (0, .long 18446744073709551488), (1, .long 127), (1, .fieldref 235 236), (0, .class_ 237), (0, .nameAndType 238 239), (0, u "java/lang/Long$LongCache"), (0, u "cache"), (0, u "[Ljava/lang/Long;"), (0, .methodref 1 241), (0, .nameAndType 59 242), (0, u "(J)V"), (27, .methodref 271 58), (0, .class_ 272), (0, u "java/lang/Number"), (0, .fieldref 1 274), (0, .nameAndType 275 276), (0, u "value"), (0, u "J"), (84, u "TYPE"), (0, u "Ljava/lang/Class;"), (0, .class_ 364), (0, u "java/lang/Comparable"), (0, .class_ 366), (0, u "java/lang/constant/Constable"), (0, .class_ 368), (0, u "java/lang/constant/ConstantDesc"), (0, u "MIN_VALUE"), (1, u "MAX_VALUE"), (4, u "SIZE"), (0, u "I"), (1, u "BYTES"), (1, u "serialVersionUID")] 142

def k12c0 : Code := { maxStack := 4, maxLocals := 3, code := jdk_35_method_24_code, exceptionTable := #[], attributes := #[] }
def k12m0 : Method := { name := "valueOf", desc := "(J)Ljava/lang/Long;", sig := { parameters := [.long], returnType := some (.object "java/lang/Long") }, accessFlags := 9, code := some k12c0 }
def k12c1 : Code := { maxStack := 3, maxLocals := 3, code := jdk_35_method_26_code, exceptionTable := #[], attributes := #[] }
def k12m1 : Method := { name := "<init>", desc := "(J)V", sig := { parameters := [.long], returnType := none }, accessFlags := 1, code := some k12c1 }
/-- java/lang/Long -/
def k12 : Class := { plain "java/lang/Long" (some 9) with
  accessFlags := 49
  interfaces := #[3, 5, 6]
  cf := some (fileOf pool12 1 #[.nestMembers #[235]] #[{ accessFlags := 9, nameIndex := 85, descriptorIndex := 229, attributes := #[] }, { accessFlags := 1, nameIndex := 59, descriptorIndex := 242, attributes := #[] }] 49 271 #[363, 365, 367] #[{ accessFlags := 25, nameIndex := 369, descriptorIndex := 276, attributes := #[] }, { accessFlags := 25, nameIndex := 371, descriptorIndex := 276, attributes := #[] }, { accessFlags := 25, nameIndex := 361, descriptorIndex := 362, attributes := #[] }, { accessFlags := 18, nameIndex := 275, descriptorIndex := 276, attributes := #[] }, { accessFlags := 25, nameIndex := 376, descriptorIndex := 377, attributes := #[] }, { accessFlags := 25, nameIndex := 379, descriptorIndex := 377, attributes := #[] }, { accessFlags := 26, nameIndex := 381, descriptorIndex := 276, attributes := #[] }])
  fields := #[{ name := "MIN_VALUE", type := .long, accessFlags := 25, slot := 0, constantValue := 0 }, { name := "MAX_VALUE", type := .long, accessFlags := 25, slot := 1, constantValue := 0 }, { name := "TYPE", type := (.object "java/lang/Class"), accessFlags := 25, slot := 2, constantValue := 0 }, { name := "value", type := .long, accessFlags := 18, slot := 0, constantValue := 0 }, { name := "SIZE", type := .int, accessFlags := 25, slot := 3, constantValue := 0 }, { name := "BYTES", type := .int, accessFlags := 25, slot := 4, constantValue := 0 }, { name := "serialVersionUID", type := .long, accessFlags := 26, slot := 5, constantValue := 0 }]
  methods := #[k12m0, k12m1]
  instanceTypes := #[.long]
  staticTypes := #[.long, .long, (.object "java/lang/Class"), .int, .int, .long]
  resolved := Array.replicate 524 none
  statics := none }

def pool13 : Array CpInfo := pool [(2, .class_ 4), (1, u "java/lang/Object"), (0, u "<init>"), (0, u "()V"), (0, .class_ 8), (0, u "java/lang/Long"), (7, .class_ 18), (1, u "java/lang/Long$LongCache"), (0, u "$assertionsDisabled"), (0, u "Z"), (8, u "archivedCache"), (0, u "[Ljava/lang/Long;"), (7, u "cache")] 24

def k13m0 : Method := { name := "<init>", desc := "()V", sig := { parameters := [], returnType := none }, accessFlags := 2, code := none }
/-- java/lang/Long$LongCache -/
def k13 : Class := { plain "java/lang/Long$LongCache" (some 0) with
  accessFlags := 48
  interfaces := #[]
  cf := some (fileOf pool13 16 #[.nestHost 7] #[{ accessFlags := 2, nameIndex := 5, descriptorIndex := 6, attributes := #[] }] 48 2 #[] #[{ accessFlags := 24, nameIndex := 38, descriptorIndex := 30, attributes := #[] }, { accessFlags := 8, nameIndex := 29, descriptorIndex := 30, attributes := #[] }, { accessFlags := 4120, nameIndex := 19, descriptorIndex := 20, attributes := #[] }])
  fields := #[{ name := "cache", type := (.array (.object "java/lang/Long")), accessFlags := 24, slot := 0, constantValue := 0 }, { name := "archivedCache", type := (.array (.object "java/lang/Long")), accessFlags := 8, slot := 1, constantValue := 0 }, { name := "$assertionsDisabled", type := .boolean, accessFlags := 4120, slot := 2, constantValue := 0 }]
  methods := #[k13m0]
  instanceTypes := #[]
  staticTypes := #[(.array (.object "java/lang/Long")), (.array (.object "java/lang/Long")), .boolean]
  resolved := Array.replicate 63 none
  statics := some 2 }

def pool14 : Array CpInfo := pool [(2, .class_ 4), (1, u "java/lang/Object"), (0, u "<init>"), (0, u "()V"), (22, .class_ 30), (0, u "com/example/relaystack/relaystack/CommandLine$Option"), (18, .class_ 50), (0, u "com/example/relaystack/relaystack/CommandLine"), (0, u "FORMS"), (0, u "Ljava/lang/String;"), (12, u "once"), (0, u "(Ljava/lang/String;Ljava/lang/Object;Ljava/lang/Object;)Ljava/lang/Object;")] 20

def k14m0 : Method := { name := "<init>", desc := "()V", sig := { parameters := [], returnType := none }, accessFlags := 2, code := none }
def k14c1 : Code := { maxStack := 3, maxLocals := 3, code := prog_7_method_3_code, exceptionTable := #[], attributes := #[] }
def k14m1 : Method := { name := "once", desc := "(Ljava/lang/String;Ljava/lang/Object;Ljava/lang/Object;)Ljava/lang/Object;", sig := { parameters := [(.object "java/lang/String"), (.object "java/lang/Object"), (.object "java/lang/Object")], returnType := some (.object "java/lang/Object") }, accessFlags := 8, code := some k14c1 }
/-- com/example/relaystack/relaystack/CommandLine -/
def k14 : Class := { plain "com/example/relaystack/relaystack/CommandLine" (some 0) with
  accessFlags := 48
  interfaces := #[]
  cf := some (fileOf pool14 49 #[.nestMembers #[29]] #[{ accessFlags := 2, nameIndex := 5, descriptorIndex := 6, attributes := #[] }, { accessFlags := 8, nameIndex := 65, descriptorIndex := 66, attributes := #[] }] 48 2 #[] #[{ accessFlags := 24, nameIndex := 51, descriptorIndex := 52, attributes := #[] }])
  fields := #[{ name := "FORMS", type := (.object "java/lang/String"), accessFlags := 24, slot := 0, constantValue := 0 }]
  methods := #[k14m0, k14m1]
  instanceTypes := #[]
  staticTypes := #[(.object "java/lang/String")]
  resolved := Array.replicate 87 none
  statics := none }

def pool15 : Array CpInfo := pool [(4, .class_ 6), (1, u "java/lang/Object"), (0, u "<init>"), (0, u "()V"), (5, .class_ 16), (1, u "java/lang/StringLatin1"), (104, u "$assertionsDisabled"), (0, u "Z"), (98, .class_ 223), (1, u "java/lang/StringLatin1$LinesSpliterator"), (166, .class_ 391), (0, u "java/lang/StringLatin1$CharsSpliterator")] 3

def k15m0 : Method := { name := "<init>", desc := "()V", sig := { parameters := [], returnType := none }, accessFlags := 0, code := none }
/-- java/lang/StringLatin1 -/
def k15 : Class := { plain "java/lang/StringLatin1" (some 0) with
  accessFlags := 48
  interfaces := #[]
  cf := some (fileOf pool15 14 #[.nestMembers #[390, 221]] #[{ accessFlags := 0, nameIndex := 7, descriptorIndex := 8, attributes := #[] }] 48 4 #[] #[{ accessFlags := 4120, nameIndex := 121, descriptorIndex := 122, attributes := #[] }])
  fields := #[{ name := "$assertionsDisabled", type := .boolean, accessFlags := 4120, slot := 0, constantValue := 0 }]
  methods := #[k15m0]
  instanceTypes := #[]
  staticTypes := #[.boolean]
  resolved := Array.replicate 395 none
  statics := none }

def pool16 : Array CpInfo := pool [(2, .class_ 4), (1, u "java/lang/Object"), (0, u "<init>"), (0, u "()V"), (17, .class_ 26), (1, u "jdk/internal/util/Preconditions"), (28, .class_ 56), (0, u "jdk/internal/util/Preconditions$4"), (57, .class_ 115), (0, u "jdk/internal/util/Preconditions$1"), (7, u "SIOOBE_FORMATTER"), (0, u "Ljava/util/function/BiFunction;"), (0, .class_ 126), (0, u "jdk/internal/util/Preconditions$2"), (3, u "AIOOBE_FORMATTER"), (0, .class_ 132), (0, u "jdk/internal/util/Preconditions$3"), (3, u "IOOBE_FORMATTER")] 57

def k16m0 : Method := { name := "<init>", desc := "()V", sig := { parameters := [], returnType := none }, accessFlags := 1, code := none }
/-- jdk/internal/util/Preconditions -/
def k16 : Class := { plain "jdk/internal/util/Preconditions" (some 0) with
  accessFlags := 33
  interfaces := #[]
  cf := some (fileOf pool16 24 #[.nestMembers #[55, 131, 125, 114]] #[{ accessFlags := 1, nameIndex := 5, descriptorIndex := 6, attributes := #[] }] 33 2 #[] #[{ accessFlags := 25, nameIndex := 123, descriptorIndex := 124, attributes := #[] }, { accessFlags := 25, nameIndex := 130, descriptorIndex := 124, attributes := #[] }, { accessFlags := 25, nameIndex := 136, descriptorIndex := 124, attributes := #[] }])
  fields := #[{ name := "SIOOBE_FORMATTER", type := (.object "java/util/function/BiFunction"), accessFlags := 25, slot := 0, constantValue := 0 }, { name := "AIOOBE_FORMATTER", type := (.object "java/util/function/BiFunction"), accessFlags := 25, slot := 1, constantValue := 0 }, { name := "IOOBE_FORMATTER", type := (.object "java/util/function/BiFunction"), accessFlags := 25, slot := 2, constantValue := 0 }]
  methods := #[k16m0]
  instanceTypes := #[]
  staticTypes := #[(.object "java/util/function/BiFunction"), (.object "java/util/function/BiFunction"), (.object "java/util/function/BiFunction")]
  resolved := Array.replicate 194 none
  statics := some 3 }

def pool17 : Array CpInfo := pool [(9, u "<init>"), (6, .class_ 18), (1, u "java/lang/Object"), (0, u "()V"), (1, .class_ 23), (1, u "jdk/internal/util/ArraysSupport"), (0, u "LOG2_ARRAY_LONG_INDEX_SCALE"), (0, u "I"), (2, u "U"), (0, u "Ljdk/internal/misc/Unsafe;"), (8, u "BIG_ENDIAN"), (0, u "Z"), (8, u "LOG2_BYTE_BIT_SIZE"), (4, u "LOG2_ARRAY_INT_INDEX_SCALE"), (54, u "JLA"), (0, u "Ljdk/internal/access/JavaLangAccess;"), (11, u "LOG2_ARRAY_BOOLEAN_INDEX_SCALE"), (9, u "LOG2_ARRAY_BYTE_INDEX_SCALE"), (5, u "LOG2_ARRAY_CHAR_INDEX_SCALE"), (5, u "LOG2_ARRAY_SHORT_INDEX_SCALE"), (18, u "LOG2_ARRAY_FLOAT_INDEX_SCALE"), (24, u "LOG2_ARRAY_DOUBLE_INDEX_SCALE"), (89, u "T_BOOLEAN"), (2, u "T_CHAR"), (1, u "T_FLOAT"), (1, u "T_DOUBLE"), (1, u "T_BYTE"), (1, u "T_SHORT"), (1, u "T_INT"), (1, u "T_LONG"), (1, u "SOFT_MAX_ARRAY_LENGTH")] 83

def k17m0 : Method := { name := "<init>", desc := "()V", sig := { parameters := [], returnType := none }, accessFlags := 2, code := none }
/-- jdk/internal/util/ArraysSupport -/
def k17 : Class := { plain "jdk/internal/util/ArraysSupport" (some 0) with
  accessFlags := 33
  interfaces := #[]
  cf := some (fileOf pool17 21 #[] #[{ accessFlags := 2, nameIndex := 9, descriptorIndex := 19, attributes := #[] }] 33 16 #[] #[{ accessFlags := 24, nameIndex := 28, descriptorIndex := 29, attributes := #[] }, { accessFlags := 26, nameIndex := 38, descriptorIndex := 39, attributes := #[] }, { accessFlags := 25, nameIndex := 121, descriptorIndex := 25, attributes := #[] }, { accessFlags := 25, nameIndex := 131, descriptorIndex := 25, attributes := #[] }, { accessFlags := 25, nameIndex := 137, descriptorIndex := 25, attributes := #[] }, { accessFlags := 25, nameIndex := 143, descriptorIndex := 25, attributes := #[] }, { accessFlags := 25, nameIndex := 53, descriptorIndex := 25, attributes := #[] }, { accessFlags := 25, nameIndex := 24, descriptorIndex := 25, attributes := #[] }, { accessFlags := 25, nameIndex := 162, descriptorIndex := 25, attributes := #[] }, { accessFlags := 25, nameIndex := 187, descriptorIndex := 25, attributes := #[] }, { accessFlags := 26, nameIndex := 48, descriptorIndex := 25, attributes := #[] }, { accessFlags := 25, nameIndex := 277, descriptorIndex := 25, attributes := #[] }, { accessFlags := 25, nameIndex := 280, descriptorIndex := 25, attributes := #[] }, { accessFlags := 25, nameIndex := 282, descriptorIndex := 25, attributes := #[] }, { accessFlags := 25, nameIndex := 284, descriptorIndex := 25, attributes := #[] }, { accessFlags := 25, nameIndex := 286, descriptorIndex := 25, attributes := #[] }, { accessFlags := 25, nameIndex := 288, descriptorIndex := 25, attributes := #[] }, { accessFlags := 25, nameIndex := 290, descriptorIndex := 25, attributes := #[] }, { accessFlags := 25, nameIndex := 292, descriptorIndex := 25, attributes := #[] }, { accessFlags := 26, nameIndex := 108, descriptorIndex := 109, attributes := #[] }, { accessFlags := 25, nameIndex := 294, descriptorIndex := 25, attributes := #[] }])
  fields := #[{ name := "U", type := (.object "jdk/internal/misc/Unsafe"), accessFlags := 24, slot := 0, constantValue := 0 }, { name := "BIG_ENDIAN", type := .boolean, accessFlags := 26, slot := 1, constantValue := 0 }, { name := "LOG2_ARRAY_BOOLEAN_INDEX_SCALE", type := .int, accessFlags := 25, slot := 2, constantValue := 0 }, { name := "LOG2_ARRAY_BYTE_INDEX_SCALE", type := .int, accessFlags := 25, slot := 3, constantValue := 0 }, { name := "LOG2_ARRAY_CHAR_INDEX_SCALE", type := .int, accessFlags := 25, slot := 4, constantValue := 0 }, { name := "LOG2_ARRAY_SHORT_INDEX_SCALE", type := .int, accessFlags := 25, slot := 5, constantValue := 0 }, { name := "LOG2_ARRAY_INT_INDEX_SCALE", type := .int, accessFlags := 25, slot := 6, constantValue := 0 }, { name := "LOG2_ARRAY_LONG_INDEX_SCALE", type := .int, accessFlags := 25, slot := 7, constantValue := 0 }, { name := "LOG2_ARRAY_FLOAT_INDEX_SCALE", type := .int, accessFlags := 25, slot := 8, constantValue := 0 }, { name := "LOG2_ARRAY_DOUBLE_INDEX_SCALE", type := .int, accessFlags := 25, slot := 9, constantValue := 0 }, { name := "LOG2_BYTE_BIT_SIZE", type := .int, accessFlags := 26, slot := 10, constantValue := 0 }, { name := "T_BOOLEAN", type := .int, accessFlags := 25, slot := 11, constantValue := 0 }, { name := "T_CHAR", type := .int, accessFlags := 25, slot := 12, constantValue := 0 }, { name := "T_FLOAT", type := .int, accessFlags := 25, slot := 13, constantValue := 0 }, { name := "T_DOUBLE", type := .int, accessFlags := 25, slot := 14, constantValue := 0 }, { name := "T_BYTE", type := .int, accessFlags := 25, slot := 15, constantValue := 0 }, { name := "T_SHORT", type := .int, accessFlags := 25, slot := 16, constantValue := 0 }, { name := "T_INT", type := .int, accessFlags := 25, slot := 17, constantValue := 0 }, { name := "T_LONG", type := .int, accessFlags := 25, slot := 18, constantValue := 0 }, { name := "JLA", type := (.object "jdk/internal/access/JavaLangAccess"), accessFlags := 26, slot := 19, constantValue := 0 }, { name := "SOFT_MAX_ARRAY_LENGTH", type := .int, accessFlags := 25, slot := 20, constantValue := 0 }]
  methods := #[k17m0]
  instanceTypes := #[]
  staticTypes := #[(.object "jdk/internal/misc/Unsafe"), .boolean, .int, .int, .int, .int, .int, .int, .int, .int, .int, .int, .int, .int, .int, .int, .int, .int, .int, (.object "jdk/internal/access/JavaLangAccess"), .int]
  resolved := Array.replicate 378 none
  statics := none }

def pool18 : Array CpInfo := pool [(1, u "java/lang/Cloneable"), (0, .class_ 1), (0, u "java/lang/Object"), (0, .class_ 3)] 3

/-- java/lang/Cloneable -/
def k18 : Class := { plain "java/lang/Cloneable" (some 0) with
  accessFlags := 1537
  interfaces := #[]
  cf := some (fileOf pool18 2 #[] #[] 1537 4 #[] #[])
  fields := #[]
  methods := #[]
  instanceTypes := #[]
  staticTypes := #[]
  resolved := Array.replicate 8 none
  statics := none }

/-- the primitive byte -/
def k19 : Class := { plain "byte" none with kind := .primitive 'B', accessFlags := 0x411 }
/-- [B -/
def k20 : Class := { plain "[B" (some 0) with kind := .array 19 .byte, interfaces := #[18, 2], accessFlags := 1041 }

/-- the primitive char -/
def k21 : Class := { plain "char" none with kind := .primitive 'C', accessFlags := 0x411 }
/-- [C -/
def k22 : Class := { plain "[C" (some 0) with kind := .array 21 .char, interfaces := #[18, 2], accessFlags := 1041 }

/-- the primitive int -/
def k23 : Class := { plain "int" none with kind := .primitive 'I', accessFlags := 0x411 }
/-- [I -/
def k24 : Class := { plain "[I" (some 0) with kind := .array 23 .int, interfaces := #[18, 2], accessFlags := 1041 }

/-- [Ljava/lang/Integer; -/
def k25 : Class := { plain "[Ljava/lang/Integer;" (some 0) with kind := .array 10 (.object "java/lang/Integer"), interfaces := #[18, 2], accessFlags := 1041 }

/-- [Ljava/lang/Long; -/
def k26 : Class := { plain "[Ljava/lang/Long;" (some 0) with kind := .array 12 (.object "java/lang/Long"), interfaces := #[18, 2], accessFlags := 1041 }

def heap : Heap := #[{ cls := 7, slots := #[.long 0, .int 1, .null, .int 0, .null, .int 0, .int 0], vm := .statics 7 },
  { cls := 11, slots := #[.int 0, .int 127, .ref 4, .null, .int 0], vm := .statics 11 },
  { cls := 13, slots := #[.ref 5, .null, .int 0], vm := .statics 13 },
  { cls := 16, slots := #[.null, .null, .null], vm := .statics 16 },
  { cls := 25, slots := #[.ref 6, .ref 7, .ref 8, .ref 9, .ref 10, .ref 11, .ref 12, .ref 13, .ref 14, .ref 15, .ref 16, .ref 17, .ref 18, .ref 19, .ref 20, .ref 21, .ref 22, .ref 23, .ref 24, .ref 25, .ref 26, .ref 27, .ref 28, .ref 29, .ref 30, .ref 31, .ref 32, .ref 33, .ref 34, .ref 35, .ref 36, .ref 37, .ref 38, .ref 39, .ref 40, .ref 41, .ref 42, .ref 43, .ref 44, .ref 45, .ref 46, .ref 47, .ref 48, .ref 49, .ref 50, .ref 51, .ref 52, .ref 53, .ref 54, .ref 55, .ref 56, .ref 57, .ref 58, .ref 59, .ref 60, .ref 61, .ref 62, .ref 63, .ref 64, .ref 65, .ref 66, .ref 67, .ref 68, .ref 69, .ref 70, .ref 71, .ref 72, .ref 73, .ref 74, .ref 75, .ref 76, .ref 77, .ref 78, .ref 79, .ref 80, .ref 81, .ref 82, .ref 83, .ref 84, .ref 85, .ref 86, .ref 87, .ref 88, .ref 89, .ref 90, .ref 91, .ref 92, .ref 93, .ref 94, .ref 95, .ref 96, .ref 97, .ref 98, .ref 99, .ref 100, .ref 101, .ref 102, .ref 103, .ref 104, .ref 105, .ref 106, .ref 107, .ref 108, .ref 109, .ref 110, .ref 111, .ref 112, .ref 113, .ref 114, .ref 115, .ref 116, .ref 117, .ref 118, .ref 119, .ref 120, .ref 121, .ref 122, .ref 123, .ref 124, .ref 125, .ref 126, .ref 127, .ref 128, .ref 129, .ref 130, .ref 131, .ref 132, .ref 133, .ref 134, .ref 135, .ref 136, .ref 137, .ref 138, .ref 139, .ref 140, .ref 141, .ref 142, .ref 143, .ref 144, .ref 145, .ref 146, .ref 147, .ref 148, .ref 149, .ref 150, .ref 151, .ref 152, .ref 153, .ref 154, .ref 155, .ref 156, .ref 157, .ref 158, .ref 159, .ref 160, .ref 161, .ref 162, .ref 163, .ref 164, .ref 165, .ref 166, .ref 167, .ref 168, .ref 169, .ref 170, .ref 171, .ref 172, .ref 173, .ref 174, .ref 175, .ref 176, .ref 177, .ref 178, .ref 179, .ref 180, .ref 181, .ref 182, .ref 183, .ref 184, .ref 185, .ref 186, .ref 187, .ref 188, .ref 189, .ref 190, .ref 191, .ref 192, .ref 193, .ref 194, .ref 195, .ref 196, .ref 197, .ref 198, .ref 199, .ref 200, .ref 201, .ref 202, .ref 203, .ref 204, .ref 205, .ref 206, .ref 207, .ref 208, .ref 209, .ref 210, .ref 211, .ref 212, .ref 213, .ref 214, .ref 215, .ref 216, .ref 217, .ref 218, .ref 219, .ref 220, .ref 221, .ref 222, .ref 223, .ref 224, .ref 225, .ref 226, .ref 227, .ref 228, .ref 229, .ref 230, .ref 231, .ref 232, .ref 233, .ref 234, .ref 235, .ref 236, .ref 237, .ref 238, .ref 239, .ref 240, .ref 241, .ref 242, .ref 243, .ref 244, .ref 245, .ref 246, .ref 247, .ref 248, .ref 249, .ref 250, .ref 251, .ref 252, .ref 253, .ref 254, .ref 255, .ref 256, .ref 257, .ref 258, .ref 259, .ref 260, .ref 261], vm := .none },
  { cls := 26, slots := #[.ref 262, .ref 263, .ref 264, .ref 265, .ref 266, .ref 267, .ref 268, .ref 269, .ref 270, .ref 271, .ref 272, .ref 273, .ref 274, .ref 275, .ref 276, .ref 277, .ref 278, .ref 279, .ref 280, .ref 281, .ref 282, .ref 283, .ref 284, .ref 285, .ref 286, .ref 287, .ref 288, .ref 289, .ref 290, .ref 291, .ref 292, .ref 293, .ref 294, .ref 295, .ref 296, .ref 297, .ref 298, .ref 299, .ref 300, .ref 301, .ref 302, .ref 303, .ref 304, .ref 305, .ref 306, .ref 307, .ref 308, .ref 309, .ref 310, .ref 311, .ref 312, .ref 313, .ref 314, .ref 315, .ref 316, .ref 317, .ref 318, .ref 319, .ref 320, .ref 321, .ref 322, .ref 323, .ref 324, .ref 325, .ref 326, .ref 327, .ref 328, .ref 329, .ref 330, .ref 331, .ref 332, .ref 333, .ref 334, .ref 335, .ref 336, .ref 337, .ref 338, .ref 339, .ref 340, .ref 341, .ref 342, .ref 343, .ref 344, .ref 345, .ref 346, .ref 347, .ref 348, .ref 349, .ref 350, .ref 351, .ref 352, .ref 353, .ref 354, .ref 355, .ref 356, .ref 357, .ref 358, .ref 359, .ref 360, .ref 361, .ref 362, .ref 363, .ref 364, .ref 365, .ref 366, .ref 367, .ref 368, .ref 369, .ref 370, .ref 371, .ref 372, .ref 373, .ref 374, .ref 375, .ref 376, .ref 377, .ref 378, .ref 379, .ref 380, .ref 381, .ref 382, .ref 383, .ref 384, .ref 385, .ref 386, .ref 387, .ref 388, .ref 389, .ref 390, .ref 391, .ref 392, .ref 393, .ref 394, .ref 395, .ref 396, .ref 397, .ref 398, .ref 399, .ref 400, .ref 401, .ref 402, .ref 403, .ref 404, .ref 405, .ref 406, .ref 407, .ref 408, .ref 409, .ref 410, .ref 411, .ref 412, .ref 413, .ref 414, .ref 415, .ref 416, .ref 417, .ref 418, .ref 419, .ref 420, .ref 421, .ref 422, .ref 423, .ref 424, .ref 425, .ref 426, .ref 427, .ref 428, .ref 429, .ref 430, .ref 431, .ref 432, .ref 433, .ref 434, .ref 435, .ref 436, .ref 437, .ref 438, .ref 439, .ref 440, .ref 441, .ref 442, .ref 443, .ref 444, .ref 445, .ref 446, .ref 447, .ref 448, .ref 449, .ref 450, .ref 451, .ref 452, .ref 453, .ref 454, .ref 455, .ref 456, .ref 457, .ref 458, .ref 459, .ref 460, .ref 461, .ref 462, .ref 463, .ref 464, .ref 465, .ref 466, .ref 467, .ref 468, .ref 469, .ref 470, .ref 471, .ref 472, .ref 473, .ref 474, .ref 475, .ref 476, .ref 477, .ref 478, .ref 479, .ref 480, .ref 481, .ref 482, .ref 483, .ref 484, .ref 485, .ref 486, .ref 487, .ref 488, .ref 489, .ref 490, .ref 491, .ref 492, .ref 493, .ref 494, .ref 495, .ref 496, .ref 497, .ref 498, .ref 499, .ref 500, .ref 501, .ref 502, .ref 503, .ref 504, .ref 505, .ref 506, .ref 507, .ref 508, .ref 509, .ref 510, .ref 511, .ref 512, .ref 513, .ref 514, .ref 515, .ref 516, .ref 517], vm := .none },
  { cls := 10, slots := #[.int (-128)], vm := .none },
  { cls := 10, slots := #[.int (-127)], vm := .none },
  { cls := 10, slots := #[.int (-126)], vm := .none },
  { cls := 10, slots := #[.int (-125)], vm := .none },
  { cls := 10, slots := #[.int (-124)], vm := .none },
  { cls := 10, slots := #[.int (-123)], vm := .none },
  { cls := 10, slots := #[.int (-122)], vm := .none },
  { cls := 10, slots := #[.int (-121)], vm := .none },
  { cls := 10, slots := #[.int (-120)], vm := .none },
  { cls := 10, slots := #[.int (-119)], vm := .none },
  { cls := 10, slots := #[.int (-118)], vm := .none },
  { cls := 10, slots := #[.int (-117)], vm := .none },
  { cls := 10, slots := #[.int (-116)], vm := .none },
  { cls := 10, slots := #[.int (-115)], vm := .none },
  { cls := 10, slots := #[.int (-114)], vm := .none },
  { cls := 10, slots := #[.int (-113)], vm := .none },
  { cls := 10, slots := #[.int (-112)], vm := .none },
  { cls := 10, slots := #[.int (-111)], vm := .none },
  { cls := 10, slots := #[.int (-110)], vm := .none },
  { cls := 10, slots := #[.int (-109)], vm := .none },
  { cls := 10, slots := #[.int (-108)], vm := .none },
  { cls := 10, slots := #[.int (-107)], vm := .none },
  { cls := 10, slots := #[.int (-106)], vm := .none },
  { cls := 10, slots := #[.int (-105)], vm := .none },
  { cls := 10, slots := #[.int (-104)], vm := .none },
  { cls := 10, slots := #[.int (-103)], vm := .none },
  { cls := 10, slots := #[.int (-102)], vm := .none },
  { cls := 10, slots := #[.int (-101)], vm := .none },
  { cls := 10, slots := #[.int (-100)], vm := .none },
  { cls := 10, slots := #[.int (-99)], vm := .none },
  { cls := 10, slots := #[.int (-98)], vm := .none },
  { cls := 10, slots := #[.int (-97)], vm := .none },
  { cls := 10, slots := #[.int (-96)], vm := .none },
  { cls := 10, slots := #[.int (-95)], vm := .none },
  { cls := 10, slots := #[.int (-94)], vm := .none },
  { cls := 10, slots := #[.int (-93)], vm := .none },
  { cls := 10, slots := #[.int (-92)], vm := .none },
  { cls := 10, slots := #[.int (-91)], vm := .none },
  { cls := 10, slots := #[.int (-90)], vm := .none },
  { cls := 10, slots := #[.int (-89)], vm := .none },
  { cls := 10, slots := #[.int (-88)], vm := .none },
  { cls := 10, slots := #[.int (-87)], vm := .none },
  { cls := 10, slots := #[.int (-86)], vm := .none },
  { cls := 10, slots := #[.int (-85)], vm := .none },
  { cls := 10, slots := #[.int (-84)], vm := .none },
  { cls := 10, slots := #[.int (-83)], vm := .none },
  { cls := 10, slots := #[.int (-82)], vm := .none },
  { cls := 10, slots := #[.int (-81)], vm := .none },
  { cls := 10, slots := #[.int (-80)], vm := .none },
  { cls := 10, slots := #[.int (-79)], vm := .none },
  { cls := 10, slots := #[.int (-78)], vm := .none },
  { cls := 10, slots := #[.int (-77)], vm := .none },
  { cls := 10, slots := #[.int (-76)], vm := .none },
  { cls := 10, slots := #[.int (-75)], vm := .none },
  { cls := 10, slots := #[.int (-74)], vm := .none },
  { cls := 10, slots := #[.int (-73)], vm := .none },
  { cls := 10, slots := #[.int (-72)], vm := .none },
  { cls := 10, slots := #[.int (-71)], vm := .none },
  { cls := 10, slots := #[.int (-70)], vm := .none },
  { cls := 10, slots := #[.int (-69)], vm := .none },
  { cls := 10, slots := #[.int (-68)], vm := .none },
  { cls := 10, slots := #[.int (-67)], vm := .none },
  { cls := 10, slots := #[.int (-66)], vm := .none },
  { cls := 10, slots := #[.int (-65)], vm := .none },
  { cls := 10, slots := #[.int (-64)], vm := .none },
  { cls := 10, slots := #[.int (-63)], vm := .none },
  { cls := 10, slots := #[.int (-62)], vm := .none },
  { cls := 10, slots := #[.int (-61)], vm := .none },
  { cls := 10, slots := #[.int (-60)], vm := .none },
  { cls := 10, slots := #[.int (-59)], vm := .none },
  { cls := 10, slots := #[.int (-58)], vm := .none },
  { cls := 10, slots := #[.int (-57)], vm := .none },
  { cls := 10, slots := #[.int (-56)], vm := .none },
  { cls := 10, slots := #[.int (-55)], vm := .none },
  { cls := 10, slots := #[.int (-54)], vm := .none },
  { cls := 10, slots := #[.int (-53)], vm := .none },
  { cls := 10, slots := #[.int (-52)], vm := .none },
  { cls := 10, slots := #[.int (-51)], vm := .none },
  { cls := 10, slots := #[.int (-50)], vm := .none },
  { cls := 10, slots := #[.int (-49)], vm := .none },
  { cls := 10, slots := #[.int (-48)], vm := .none },
  { cls := 10, slots := #[.int (-47)], vm := .none },
  { cls := 10, slots := #[.int (-46)], vm := .none },
  { cls := 10, slots := #[.int (-45)], vm := .none },
  { cls := 10, slots := #[.int (-44)], vm := .none },
  { cls := 10, slots := #[.int (-43)], vm := .none },
  { cls := 10, slots := #[.int (-42)], vm := .none },
  { cls := 10, slots := #[.int (-41)], vm := .none },
  { cls := 10, slots := #[.int (-40)], vm := .none },
  { cls := 10, slots := #[.int (-39)], vm := .none },
  { cls := 10, slots := #[.int (-38)], vm := .none },
  { cls := 10, slots := #[.int (-37)], vm := .none },
  { cls := 10, slots := #[.int (-36)], vm := .none },
  { cls := 10, slots := #[.int (-35)], vm := .none },
  { cls := 10, slots := #[.int (-34)], vm := .none },
  { cls := 10, slots := #[.int (-33)], vm := .none },
  { cls := 10, slots := #[.int (-32)], vm := .none },
  { cls := 10, slots := #[.int (-31)], vm := .none },
  { cls := 10, slots := #[.int (-30)], vm := .none },
  { cls := 10, slots := #[.int (-29)], vm := .none },
  { cls := 10, slots := #[.int (-28)], vm := .none },
  { cls := 10, slots := #[.int (-27)], vm := .none },
  { cls := 10, slots := #[.int (-26)], vm := .none },
  { cls := 10, slots := #[.int (-25)], vm := .none },
  { cls := 10, slots := #[.int (-24)], vm := .none },
  { cls := 10, slots := #[.int (-23)], vm := .none },
  { cls := 10, slots := #[.int (-22)], vm := .none },
  { cls := 10, slots := #[.int (-21)], vm := .none },
  { cls := 10, slots := #[.int (-20)], vm := .none },
  { cls := 10, slots := #[.int (-19)], vm := .none },
  { cls := 10, slots := #[.int (-18)], vm := .none },
  { cls := 10, slots := #[.int (-17)], vm := .none },
  { cls := 10, slots := #[.int (-16)], vm := .none },
  { cls := 10, slots := #[.int (-15)], vm := .none },
  { cls := 10, slots := #[.int (-14)], vm := .none },
  { cls := 10, slots := #[.int (-13)], vm := .none },
  { cls := 10, slots := #[.int (-12)], vm := .none },
  { cls := 10, slots := #[.int (-11)], vm := .none },
  { cls := 10, slots := #[.int (-10)], vm := .none },
  { cls := 10, slots := #[.int (-9)], vm := .none },
  { cls := 10, slots := #[.int (-8)], vm := .none },
  { cls := 10, slots := #[.int (-7)], vm := .none },
  { cls := 10, slots := #[.int (-6)], vm := .none },
  { cls := 10, slots := #[.int (-5)], vm := .none },
  { cls := 10, slots := #[.int (-4)], vm := .none },
  { cls := 10, slots := #[.int (-3)], vm := .none },
  { cls := 10, slots := #[.int (-2)], vm := .none },
  { cls := 10, slots := #[.int (-1)], vm := .none },
  { cls := 10, slots := #[.int (0)], vm := .none },
  { cls := 10, slots := #[.int (1)], vm := .none },
  { cls := 10, slots := #[.int (2)], vm := .none },
  { cls := 10, slots := #[.int (3)], vm := .none },
  { cls := 10, slots := #[.int (4)], vm := .none },
  { cls := 10, slots := #[.int (5)], vm := .none },
  { cls := 10, slots := #[.int (6)], vm := .none },
  { cls := 10, slots := #[.int (7)], vm := .none },
  { cls := 10, slots := #[.int (8)], vm := .none },
  { cls := 10, slots := #[.int (9)], vm := .none },
  { cls := 10, slots := #[.int (10)], vm := .none },
  { cls := 10, slots := #[.int (11)], vm := .none },
  { cls := 10, slots := #[.int (12)], vm := .none },
  { cls := 10, slots := #[.int (13)], vm := .none },
  { cls := 10, slots := #[.int (14)], vm := .none },
  { cls := 10, slots := #[.int (15)], vm := .none },
  { cls := 10, slots := #[.int (16)], vm := .none },
  { cls := 10, slots := #[.int (17)], vm := .none },
  { cls := 10, slots := #[.int (18)], vm := .none },
  { cls := 10, slots := #[.int (19)], vm := .none },
  { cls := 10, slots := #[.int (20)], vm := .none },
  { cls := 10, slots := #[.int (21)], vm := .none },
  { cls := 10, slots := #[.int (22)], vm := .none },
  { cls := 10, slots := #[.int (23)], vm := .none },
  { cls := 10, slots := #[.int (24)], vm := .none },
  { cls := 10, slots := #[.int (25)], vm := .none },
  { cls := 10, slots := #[.int (26)], vm := .none },
  { cls := 10, slots := #[.int (27)], vm := .none },
  { cls := 10, slots := #[.int (28)], vm := .none },
  { cls := 10, slots := #[.int (29)], vm := .none },
  { cls := 10, slots := #[.int (30)], vm := .none },
  { cls := 10, slots := #[.int (31)], vm := .none },
  { cls := 10, slots := #[.int (32)], vm := .none },
  { cls := 10, slots := #[.int (33)], vm := .none },
  { cls := 10, slots := #[.int (34)], vm := .none },
  { cls := 10, slots := #[.int (35)], vm := .none },
  { cls := 10, slots := #[.int (36)], vm := .none },
  { cls := 10, slots := #[.int (37)], vm := .none },
  { cls := 10, slots := #[.int (38)], vm := .none },
  { cls := 10, slots := #[.int (39)], vm := .none },
  { cls := 10, slots := #[.int (40)], vm := .none },
  { cls := 10, slots := #[.int (41)], vm := .none },
  { cls := 10, slots := #[.int (42)], vm := .none },
  { cls := 10, slots := #[.int (43)], vm := .none },
  { cls := 10, slots := #[.int (44)], vm := .none },
  { cls := 10, slots := #[.int (45)], vm := .none },
  { cls := 10, slots := #[.int (46)], vm := .none },
  { cls := 10, slots := #[.int (47)], vm := .none },
  { cls := 10, slots := #[.int (48)], vm := .none },
  { cls := 10, slots := #[.int (49)], vm := .none },
  { cls := 10, slots := #[.int (50)], vm := .none },
  { cls := 10, slots := #[.int (51)], vm := .none },
  { cls := 10, slots := #[.int (52)], vm := .none },
  { cls := 10, slots := #[.int (53)], vm := .none },
  { cls := 10, slots := #[.int (54)], vm := .none },
  { cls := 10, slots := #[.int (55)], vm := .none },
  { cls := 10, slots := #[.int (56)], vm := .none },
  { cls := 10, slots := #[.int (57)], vm := .none },
  { cls := 10, slots := #[.int (58)], vm := .none },
  { cls := 10, slots := #[.int (59)], vm := .none },
  { cls := 10, slots := #[.int (60)], vm := .none },
  { cls := 10, slots := #[.int (61)], vm := .none },
  { cls := 10, slots := #[.int (62)], vm := .none },
  { cls := 10, slots := #[.int (63)], vm := .none },
  { cls := 10, slots := #[.int (64)], vm := .none },
  { cls := 10, slots := #[.int (65)], vm := .none },
  { cls := 10, slots := #[.int (66)], vm := .none },
  { cls := 10, slots := #[.int (67)], vm := .none },
  { cls := 10, slots := #[.int (68)], vm := .none },
  { cls := 10, slots := #[.int (69)], vm := .none },
  { cls := 10, slots := #[.int (70)], vm := .none },
  { cls := 10, slots := #[.int (71)], vm := .none },
  { cls := 10, slots := #[.int (72)], vm := .none },
  { cls := 10, slots := #[.int (73)], vm := .none },
  { cls := 10, slots := #[.int (74)], vm := .none },
  { cls := 10, slots := #[.int (75)], vm := .none },
  { cls := 10, slots := #[.int (76)], vm := .none },
  { cls := 10, slots := #[.int (77)], vm := .none },
  { cls := 10, slots := #[.int (78)], vm := .none },
  { cls := 10, slots := #[.int (79)], vm := .none },
  { cls := 10, slots := #[.int (80)], vm := .none },
  { cls := 10, slots := #[.int (81)], vm := .none },
  { cls := 10, slots := #[.int (82)], vm := .none },
  { cls := 10, slots := #[.int (83)], vm := .none },
  { cls := 10, slots := #[.int (84)], vm := .none },
  { cls := 10, slots := #[.int (85)], vm := .none },
  { cls := 10, slots := #[.int (86)], vm := .none },
  { cls := 10, slots := #[.int (87)], vm := .none },
  { cls := 10, slots := #[.int (88)], vm := .none },
  { cls := 10, slots := #[.int (89)], vm := .none },
  { cls := 10, slots := #[.int (90)], vm := .none },
  { cls := 10, slots := #[.int (91)], vm := .none },
  { cls := 10, slots := #[.int (92)], vm := .none },
  { cls := 10, slots := #[.int (93)], vm := .none },
  { cls := 10, slots := #[.int (94)], vm := .none },
  { cls := 10, slots := #[.int (95)], vm := .none },
  { cls := 10, slots := #[.int (96)], vm := .none },
  { cls := 10, slots := #[.int (97)], vm := .none },
  { cls := 10, slots := #[.int (98)], vm := .none },
  { cls := 10, slots := #[.int (99)], vm := .none },
  { cls := 10, slots := #[.int (100)], vm := .none },
  { cls := 10, slots := #[.int (101)], vm := .none },
  { cls := 10, slots := #[.int (102)], vm := .none },
  { cls := 10, slots := #[.int (103)], vm := .none },
  { cls := 10, slots := #[.int (104)], vm := .none },
  { cls := 10, slots := #[.int (105)], vm := .none },
  { cls := 10, slots := #[.int (106)], vm := .none },
  { cls := 10, slots := #[.int (107)], vm := .none },
  { cls := 10, slots := #[.int (108)], vm := .none },
  { cls := 10, slots := #[.int (109)], vm := .none },
  { cls := 10, slots := #[.int (110)], vm := .none },
  { cls := 10, slots := #[.int (111)], vm := .none },
  { cls := 10, slots := #[.int (112)], vm := .none },
  { cls := 10, slots := #[.int (113)], vm := .none },
  { cls := 10, slots := #[.int (114)], vm := .none },
  { cls := 10, slots := #[.int (115)], vm := .none },
  { cls := 10, slots := #[.int (116)], vm := .none },
  { cls := 10, slots := #[.int (117)], vm := .none },
  { cls := 10, slots := #[.int (118)], vm := .none },
  { cls := 10, slots := #[.int (119)], vm := .none },
  { cls := 10, slots := #[.int (120)], vm := .none },
  { cls := 10, slots := #[.int (121)], vm := .none },
  { cls := 10, slots := #[.int (122)], vm := .none },
  { cls := 10, slots := #[.int (123)], vm := .none },
  { cls := 10, slots := #[.int (124)], vm := .none },
  { cls := 10, slots := #[.int (125)], vm := .none },
  { cls := 10, slots := #[.int (126)], vm := .none },
  { cls := 10, slots := #[.int (127)], vm := .none },
  { cls := 12, slots := #[.long (-128)], vm := .none },
  { cls := 12, slots := #[.long (-127)], vm := .none },
  { cls := 12, slots := #[.long (-126)], vm := .none },
  { cls := 12, slots := #[.long (-125)], vm := .none },
  { cls := 12, slots := #[.long (-124)], vm := .none },
  { cls := 12, slots := #[.long (-123)], vm := .none },
  { cls := 12, slots := #[.long (-122)], vm := .none },
  { cls := 12, slots := #[.long (-121)], vm := .none },
  { cls := 12, slots := #[.long (-120)], vm := .none },
  { cls := 12, slots := #[.long (-119)], vm := .none },
  { cls := 12, slots := #[.long (-118)], vm := .none },
  { cls := 12, slots := #[.long (-117)], vm := .none },
  { cls := 12, slots := #[.long (-116)], vm := .none },
  { cls := 12, slots := #[.long (-115)], vm := .none },
  { cls := 12, slots := #[.long (-114)], vm := .none },
  { cls := 12, slots := #[.long (-113)], vm := .none },
  { cls := 12, slots := #[.long (-112)], vm := .none },
  { cls := 12, slots := #[.long (-111)], vm := .none },
  { cls := 12, slots := #[.long (-110)], vm := .none },
  { cls := 12, slots := #[.long (-109)], vm := .none },
  { cls := 12, slots := #[.long (-108)], vm := .none },
  { cls := 12, slots := #[.long (-107)], vm := .none },
  { cls := 12, slots := #[.long (-106)], vm := .none },
  { cls := 12, slots := #[.long (-105)], vm := .none },
  { cls := 12, slots := #[.long (-104)], vm := .none },
  { cls := 12, slots := #[.long (-103)], vm := .none },
  { cls := 12, slots := #[.long (-102)], vm := .none },
  { cls := 12, slots := #[.long (-101)], vm := .none },
  { cls := 12, slots := #[.long (-100)], vm := .none },
  { cls := 12, slots := #[.long (-99)], vm := .none },
  { cls := 12, slots := #[.long (-98)], vm := .none },
  { cls := 12, slots := #[.long (-97)], vm := .none },
  { cls := 12, slots := #[.long (-96)], vm := .none },
  { cls := 12, slots := #[.long (-95)], vm := .none },
  { cls := 12, slots := #[.long (-94)], vm := .none },
  { cls := 12, slots := #[.long (-93)], vm := .none },
  { cls := 12, slots := #[.long (-92)], vm := .none },
  { cls := 12, slots := #[.long (-91)], vm := .none },
  { cls := 12, slots := #[.long (-90)], vm := .none },
  { cls := 12, slots := #[.long (-89)], vm := .none },
  { cls := 12, slots := #[.long (-88)], vm := .none },
  { cls := 12, slots := #[.long (-87)], vm := .none },
  { cls := 12, slots := #[.long (-86)], vm := .none },
  { cls := 12, slots := #[.long (-85)], vm := .none },
  { cls := 12, slots := #[.long (-84)], vm := .none },
  { cls := 12, slots := #[.long (-83)], vm := .none },
  { cls := 12, slots := #[.long (-82)], vm := .none },
  { cls := 12, slots := #[.long (-81)], vm := .none },
  { cls := 12, slots := #[.long (-80)], vm := .none },
  { cls := 12, slots := #[.long (-79)], vm := .none },
  { cls := 12, slots := #[.long (-78)], vm := .none },
  { cls := 12, slots := #[.long (-77)], vm := .none },
  { cls := 12, slots := #[.long (-76)], vm := .none },
  { cls := 12, slots := #[.long (-75)], vm := .none },
  { cls := 12, slots := #[.long (-74)], vm := .none },
  { cls := 12, slots := #[.long (-73)], vm := .none },
  { cls := 12, slots := #[.long (-72)], vm := .none },
  { cls := 12, slots := #[.long (-71)], vm := .none },
  { cls := 12, slots := #[.long (-70)], vm := .none },
  { cls := 12, slots := #[.long (-69)], vm := .none },
  { cls := 12, slots := #[.long (-68)], vm := .none },
  { cls := 12, slots := #[.long (-67)], vm := .none },
  { cls := 12, slots := #[.long (-66)], vm := .none },
  { cls := 12, slots := #[.long (-65)], vm := .none },
  { cls := 12, slots := #[.long (-64)], vm := .none },
  { cls := 12, slots := #[.long (-63)], vm := .none },
  { cls := 12, slots := #[.long (-62)], vm := .none },
  { cls := 12, slots := #[.long (-61)], vm := .none },
  { cls := 12, slots := #[.long (-60)], vm := .none },
  { cls := 12, slots := #[.long (-59)], vm := .none },
  { cls := 12, slots := #[.long (-58)], vm := .none },
  { cls := 12, slots := #[.long (-57)], vm := .none },
  { cls := 12, slots := #[.long (-56)], vm := .none },
  { cls := 12, slots := #[.long (-55)], vm := .none },
  { cls := 12, slots := #[.long (-54)], vm := .none },
  { cls := 12, slots := #[.long (-53)], vm := .none },
  { cls := 12, slots := #[.long (-52)], vm := .none },
  { cls := 12, slots := #[.long (-51)], vm := .none },
  { cls := 12, slots := #[.long (-50)], vm := .none },
  { cls := 12, slots := #[.long (-49)], vm := .none },
  { cls := 12, slots := #[.long (-48)], vm := .none },
  { cls := 12, slots := #[.long (-47)], vm := .none },
  { cls := 12, slots := #[.long (-46)], vm := .none },
  { cls := 12, slots := #[.long (-45)], vm := .none },
  { cls := 12, slots := #[.long (-44)], vm := .none },
  { cls := 12, slots := #[.long (-43)], vm := .none },
  { cls := 12, slots := #[.long (-42)], vm := .none },
  { cls := 12, slots := #[.long (-41)], vm := .none },
  { cls := 12, slots := #[.long (-40)], vm := .none },
  { cls := 12, slots := #[.long (-39)], vm := .none },
  { cls := 12, slots := #[.long (-38)], vm := .none },
  { cls := 12, slots := #[.long (-37)], vm := .none },
  { cls := 12, slots := #[.long (-36)], vm := .none },
  { cls := 12, slots := #[.long (-35)], vm := .none },
  { cls := 12, slots := #[.long (-34)], vm := .none },
  { cls := 12, slots := #[.long (-33)], vm := .none },
  { cls := 12, slots := #[.long (-32)], vm := .none },
  { cls := 12, slots := #[.long (-31)], vm := .none },
  { cls := 12, slots := #[.long (-30)], vm := .none },
  { cls := 12, slots := #[.long (-29)], vm := .none },
  { cls := 12, slots := #[.long (-28)], vm := .none },
  { cls := 12, slots := #[.long (-27)], vm := .none },
  { cls := 12, slots := #[.long (-26)], vm := .none },
  { cls := 12, slots := #[.long (-25)], vm := .none },
  { cls := 12, slots := #[.long (-24)], vm := .none },
  { cls := 12, slots := #[.long (-23)], vm := .none },
  { cls := 12, slots := #[.long (-22)], vm := .none },
  { cls := 12, slots := #[.long (-21)], vm := .none },
  { cls := 12, slots := #[.long (-20)], vm := .none },
  { cls := 12, slots := #[.long (-19)], vm := .none },
  { cls := 12, slots := #[.long (-18)], vm := .none },
  { cls := 12, slots := #[.long (-17)], vm := .none },
  { cls := 12, slots := #[.long (-16)], vm := .none },
  { cls := 12, slots := #[.long (-15)], vm := .none },
  { cls := 12, slots := #[.long (-14)], vm := .none },
  { cls := 12, slots := #[.long (-13)], vm := .none },
  { cls := 12, slots := #[.long (-12)], vm := .none },
  { cls := 12, slots := #[.long (-11)], vm := .none },
  { cls := 12, slots := #[.long (-10)], vm := .none },
  { cls := 12, slots := #[.long (-9)], vm := .none },
  { cls := 12, slots := #[.long (-8)], vm := .none },
  { cls := 12, slots := #[.long (-7)], vm := .none },
  { cls := 12, slots := #[.long (-6)], vm := .none },
  { cls := 12, slots := #[.long (-5)], vm := .none },
  { cls := 12, slots := #[.long (-4)], vm := .none },
  { cls := 12, slots := #[.long (-3)], vm := .none },
  { cls := 12, slots := #[.long (-2)], vm := .none },
  { cls := 12, slots := #[.long (-1)], vm := .none },
  { cls := 12, slots := #[.long (0)], vm := .none },
  { cls := 12, slots := #[.long (1)], vm := .none },
  { cls := 12, slots := #[.long (2)], vm := .none },
  { cls := 12, slots := #[.long (3)], vm := .none },
  { cls := 12, slots := #[.long (4)], vm := .none },
  { cls := 12, slots := #[.long (5)], vm := .none },
  { cls := 12, slots := #[.long (6)], vm := .none },
  { cls := 12, slots := #[.long (7)], vm := .none },
  { cls := 12, slots := #[.long (8)], vm := .none },
  { cls := 12, slots := #[.long (9)], vm := .none },
  { cls := 12, slots := #[.long (10)], vm := .none },
  { cls := 12, slots := #[.long (11)], vm := .none },
  { cls := 12, slots := #[.long (12)], vm := .none },
  { cls := 12, slots := #[.long (13)], vm := .none },
  { cls := 12, slots := #[.long (14)], vm := .none },
  { cls := 12, slots := #[.long (15)], vm := .none },
  { cls := 12, slots := #[.long (16)], vm := .none },
  { cls := 12, slots := #[.long (17)], vm := .none },
  { cls := 12, slots := #[.long (18)], vm := .none },
  { cls := 12, slots := #[.long (19)], vm := .none },
  { cls := 12, slots := #[.long (20)], vm := .none },
  { cls := 12, slots := #[.long (21)], vm := .none },
  { cls := 12, slots := #[.long (22)], vm := .none },
  { cls := 12, slots := #[.long (23)], vm := .none },
  { cls := 12, slots := #[.long (24)], vm := .none },
  { cls := 12, slots := #[.long (25)], vm := .none },
  { cls := 12, slots := #[.long (26)], vm := .none },
  { cls := 12, slots := #[.long (27)], vm := .none },
  { cls := 12, slots := #[.long (28)], vm := .none },
  { cls := 12, slots := #[.long (29)], vm := .none },
  { cls := 12, slots := #[.long (30)], vm := .none },
  { cls := 12, slots := #[.long (31)], vm := .none },
  { cls := 12, slots := #[.long (32)], vm := .none },
  { cls := 12, slots := #[.long (33)], vm := .none },
  { cls := 12, slots := #[.long (34)], vm := .none },
  { cls := 12, slots := #[.long (35)], vm := .none },
  { cls := 12, slots := #[.long (36)], vm := .none },
  { cls := 12, slots := #[.long (37)], vm := .none },
  { cls := 12, slots := #[.long (38)], vm := .none },
  { cls := 12, slots := #[.long (39)], vm := .none },
  { cls := 12, slots := #[.long (40)], vm := .none },
  { cls := 12, slots := #[.long (41)], vm := .none },
  { cls := 12, slots := #[.long (42)], vm := .none },
  { cls := 12, slots := #[.long (43)], vm := .none },
  { cls := 12, slots := #[.long (44)], vm := .none },
  { cls := 12, slots := #[.long (45)], vm := .none },
  { cls := 12, slots := #[.long (46)], vm := .none },
  { cls := 12, slots := #[.long (47)], vm := .none },
  { cls := 12, slots := #[.long (48)], vm := .none },
  { cls := 12, slots := #[.long (49)], vm := .none },
  { cls := 12, slots := #[.long (50)], vm := .none },
  { cls := 12, slots := #[.long (51)], vm := .none },
  { cls := 12, slots := #[.long (52)], vm := .none },
  { cls := 12, slots := #[.long (53)], vm := .none },
  { cls := 12, slots := #[.long (54)], vm := .none },
  { cls := 12, slots := #[.long (55)], vm := .none },
  { cls := 12, slots := #[.long (56)], vm := .none },
  { cls := 12, slots := #[.long (57)], vm := .none },
  { cls := 12, slots := #[.long (58)], vm := .none },
  { cls := 12, slots := #[.long (59)], vm := .none },
  { cls := 12, slots := #[.long (60)], vm := .none },
  { cls := 12, slots := #[.long (61)], vm := .none },
  { cls := 12, slots := #[.long (62)], vm := .none },
  { cls := 12, slots := #[.long (63)], vm := .none },
  { cls := 12, slots := #[.long (64)], vm := .none },
  { cls := 12, slots := #[.long (65)], vm := .none },
  { cls := 12, slots := #[.long (66)], vm := .none },
  { cls := 12, slots := #[.long (67)], vm := .none },
  { cls := 12, slots := #[.long (68)], vm := .none },
  { cls := 12, slots := #[.long (69)], vm := .none },
  { cls := 12, slots := #[.long (70)], vm := .none },
  { cls := 12, slots := #[.long (71)], vm := .none },
  { cls := 12, slots := #[.long (72)], vm := .none },
  { cls := 12, slots := #[.long (73)], vm := .none },
  { cls := 12, slots := #[.long (74)], vm := .none },
  { cls := 12, slots := #[.long (75)], vm := .none },
  { cls := 12, slots := #[.long (76)], vm := .none },
  { cls := 12, slots := #[.long (77)], vm := .none },
  { cls := 12, slots := #[.long (78)], vm := .none },
  { cls := 12, slots := #[.long (79)], vm := .none },
  { cls := 12, slots := #[.long (80)], vm := .none },
  { cls := 12, slots := #[.long (81)], vm := .none },
  { cls := 12, slots := #[.long (82)], vm := .none },
  { cls := 12, slots := #[.long (83)], vm := .none },
  { cls := 12, slots := #[.long (84)], vm := .none },
  { cls := 12, slots := #[.long (85)], vm := .none },
  { cls := 12, slots := #[.long (86)], vm := .none },
  { cls := 12, slots := #[.long (87)], vm := .none },
  { cls := 12, slots := #[.long (88)], vm := .none },
  { cls := 12, slots := #[.long (89)], vm := .none },
  { cls := 12, slots := #[.long (90)], vm := .none },
  { cls := 12, slots := #[.long (91)], vm := .none },
  { cls := 12, slots := #[.long (92)], vm := .none },
  { cls := 12, slots := #[.long (93)], vm := .none },
  { cls := 12, slots := #[.long (94)], vm := .none },
  { cls := 12, slots := #[.long (95)], vm := .none },
  { cls := 12, slots := #[.long (96)], vm := .none },
  { cls := 12, slots := #[.long (97)], vm := .none },
  { cls := 12, slots := #[.long (98)], vm := .none },
  { cls := 12, slots := #[.long (99)], vm := .none },
  { cls := 12, slots := #[.long (100)], vm := .none },
  { cls := 12, slots := #[.long (101)], vm := .none },
  { cls := 12, slots := #[.long (102)], vm := .none },
  { cls := 12, slots := #[.long (103)], vm := .none },
  { cls := 12, slots := #[.long (104)], vm := .none },
  { cls := 12, slots := #[.long (105)], vm := .none },
  { cls := 12, slots := #[.long (106)], vm := .none },
  { cls := 12, slots := #[.long (107)], vm := .none },
  { cls := 12, slots := #[.long (108)], vm := .none },
  { cls := 12, slots := #[.long (109)], vm := .none },
  { cls := 12, slots := #[.long (110)], vm := .none },
  { cls := 12, slots := #[.long (111)], vm := .none },
  { cls := 12, slots := #[.long (112)], vm := .none },
  { cls := 12, slots := #[.long (113)], vm := .none },
  { cls := 12, slots := #[.long (114)], vm := .none },
  { cls := 12, slots := #[.long (115)], vm := .none },
  { cls := 12, slots := #[.long (116)], vm := .none },
  { cls := 12, slots := #[.long (117)], vm := .none },
  { cls := 12, slots := #[.long (118)], vm := .none },
  { cls := 12, slots := #[.long (119)], vm := .none },
  { cls := 12, slots := #[.long (120)], vm := .none },
  { cls := 12, slots := #[.long (121)], vm := .none },
  { cls := 12, slots := #[.long (122)], vm := .none },
  { cls := 12, slots := #[.long (123)], vm := .none },
  { cls := 12, slots := #[.long (124)], vm := .none },
  { cls := 12, slots := #[.long (125)], vm := .none },
  { cls := 12, slots := #[.long (126)], vm := .none },
  { cls := 12, slots := #[.long (127)], vm := .none }]
def classes : Array Class := #[k0, k1, k2, k3, k4, k5, k6, k7, k8, k9, k10, k11, k12, k13, k14, k15, k16, k17, k18, k19, k20, k21, k22, k23, k24, k25, k26]
def interned : List (Array UInt16 × Addr) := []
def slotsUsed : Nat := 1042
def theMethod : MethodId := ⟨1, 1⟩
def args0 : Array Value := #[.int 5, .int 77, .long 88, .int 1]
def aboutOver (below : List Frame) : State where
  vm := { classes := classes, interned := interned.toArray }
  heap := heap
  slotsUsed := slotsUsed
  threads := #[{ frames := .invoking theMethod args0 :: below }]
def below0 : List Frame := [.native { method := ⟨0, 0⟩, args := #[] }]
def about1 : State := aboutOver below0
def p0 : Program := .bare "" "" ""
def e0 : Env := launch0.env 0 0 0
theorem w_frames : about1.frames = Frame.invoking theMethod args0 :: below0 := rfl
set_option maxRecDepth 65536 in
theorem w_args : argsFit about1.vm theMethod args0 = true := by decide +kernel
set_option maxRecDepth 65536 in
theorem w_heap : heapFits about1 = true := by decide +kernel
set_option maxRecDepth 65536 in
theorem w_runnable : about1.curStatus? = some .runnable := by decide +kernel
set_option maxRecDepth 65536 in
theorem w_alone : about1.alone = true := by decide +kernel
set_option maxRecDepth 65536 in
theorem w_named : about1.methodNamed? x = some theMethod := by decide +kernel
set_option maxRecDepth 65536 in
theorem w_hears : about1.hears theMethod below0 = true := by decide +kernel
set_option maxRecDepth 65536 in
theorem w_ripe : about1.ripe theMethod args0 below0 = true := by decide +kernel
theorem w_running : about1.status = .running := rfl
set_option maxRecDepth 65536 in
theorem w_room : about1.hasRoom e0.platform room_1 = true :=
  launch0.hasRoom_least _ room_1 (by decide +kernel) (by decide +kernel) (by decide +kernel) (by decide +kernel) (by decide +kernel) (by decide +kernel)
theorem allAtoms_all (ts : List Jvm.Cond) (a : Array Jvm.Value) (st : Jvm.State) : (allAtoms ts).before a st = ts.all (fun c => c.before a st) := by
  induction ts with
  | nil => rfl
  | cons c t ih =>
    show (Jvm.Cond.and c (allAtoms t)).before a st = _
    rw [Jvm.Cond.before_and, ih, List.all_cons]
def words1 : List Jvm.Cond := Jvm.Cond.code x code maxLocals ret :: tables_1
/-- a 'code' word, met by the world's own term for the bytes: nothing is compared byte by byte -/
theorem code_word {y : MethodName} {bytes : ByteArray} {mx : Nat} {rt : Option FieldType} {a : Array Value} {s : State} {m : MethodId} {meth : Method} {c : Code} (h1 : s.methodNamed? y = some m) (h2 : s.vm.method? m = some meth) (h3 : meth.code = some c) (h4 : c.code = bytes)
    (h5 : (c.maxLocals == mx && c.exceptionTable.isEmpty && decide (c.maxStack ≤ mostOperands) && decide (meth.sig.returnType = rt) && !meth.locks && decide (parseMethodDescriptor y.desc = some meth.sig)) = true) : (Jvm.Cond.code y bytes mx rt).before a s = true := by
  simp only [Bool.and_eq_true, beq_iff_eq, Bool.not_eq_true', decide_eq_true_eq] at h5
  obtain ⟨⟨⟨⟨⟨g1, g2⟩, g3⟩, g4⟩, g5⟩, g6⟩ := h5
  simp [Cond.before, Cond.holds, Cond.value, h1, h2, h3, h4, g1, g2, g3, g4, g5, g6]
def isCode : Jvm.Cond → Bool
  | .code _ _ _ _ => true
  | _ => false
theorem all_split {L : List Jvm.Cond} {P : Jvm.Cond → Bool} (h1 : L.all (fun c => isCode c || P c) = true) (h2 : ∀ c ∈ L.filter isCode, P c = true) : L.all P = true := by
  refine List.all_eq_true.mpr fun c hc => ?_
  have h := List.all_eq_true.mp h1 c hc
  rcases Bool.eq_false_or_eq_true (isCode c) with hi | hi
  · exact h2 c (List.mem_filter.mpr ⟨hc, hi⟩)
  · simpa [hi] using h
set_option maxRecDepth 65536 in
theorem w_c0 : (Jvm.Cond.code x code maxLocals ret).before args0 about1 = true := code_word (m := ⟨1, 1⟩) (meth := k1m1) (c := k1c1) (by decide +kernel) rfl rfl rfl (by decide +kernel)
set_option maxRecDepth 65536 in
theorem w_c1 : (Jvm.Cond.code ({ cls := "java/lang/String", name := "<init>", desc := "([C)V" } : Jvm.MethodName) jdk_42_method_3_code (2 : Nat) (Option.none : Option Jvm.ClassFile.FieldType)).before args0 about1 = true := code_word (m := ⟨7, 1⟩) (meth := k7m1) (c := k7c1) (by decide +kernel) rfl rfl rfl (by decide +kernel)
set_option maxRecDepth 65536 in
theorem w_c2 : (Jvm.Cond.code ({ cls := "java/lang/String", name := "<init>", desc := "([CIILjava/lang/Void;)V" } : Jvm.MethodName) jdk_42_method_149_code (6 : Nat) (Option.none : Option Jvm.ClassFile.FieldType)).before args0 about1 = true := code_word (m := ⟨7, 2⟩) (meth := k7m2) (c := k7c2) (by decide +kernel) rfl rfl rfl (by decide +kernel)
set_option maxRecDepth 65536 in
theorem w_c3 : (Jvm.Cond.code ({ cls := "java/lang/Object", name := "<init>", desc := "()V" } : Jvm.MethodName) object_method_1_code (1 : Nat) (Option.none : Option Jvm.ClassFile.FieldType)).before args0 about1 = true := code_word (m := ⟨0, 0⟩) (meth := k0m0) (c := k0c0) (by decide +kernel) rfl rfl rfl (by decide +kernel)
set_option maxRecDepth 65536 in
theorem w_c4 : (Jvm.Cond.code ({ cls := "java/lang/StringUTF16", name := "compress", desc := "([CII)[B" } : Jvm.MethodName) jdk_52_method_16_code (6 : Nat) (Option.some (Jvm.ClassFile.FieldType.array Jvm.ClassFile.FieldType.byte))).before args0 about1 = true := code_word (m := ⟨8, 2⟩) (meth := k8m2) (c := k8c2) (by decide +kernel) rfl rfl rfl (by decide +kernel)
set_option maxRecDepth 65536 in
theorem w_c5 : (Jvm.Cond.code ({ cls := "java/lang/StringUTF16", name := "compress", desc := "([CI[BII)I" } : Jvm.MethodName) jdk_52_method_21_code (7 : Nat) (Option.some Jvm.ClassFile.FieldType.int)).before args0 about1 = true := code_word (m := ⟨8, 3⟩) (meth := k8m3) (c := k8c3) (by decide +kernel) rfl rfl rfl (by decide +kernel)
set_option maxRecDepth 65536 in
theorem w_c6 : (Jvm.Cond.code ({ cls := "java/lang/StringUTF16", name := "coderFromArrayLen", desc := "([BI)B" } : Jvm.MethodName) jdk_52_method_15_code (2 : Nat) (Option.some Jvm.ClassFile.FieldType.byte)).before args0 about1 = true := code_word (m := ⟨8, 1⟩) (meth := k8m1) (c := k8c1) (by decide +kernel) rfl rfl rfl (by decide +kernel)
set_option maxRecDepth 65536 in
theorem w_c7 : (Jvm.Cond.code ({ cls := "java/lang/Integer", name := "valueOf", desc := "(I)Ljava/lang/Integer;" } : Jvm.MethodName) jdk_33_method_22_code (1 : Nat) (Option.some (Jvm.ClassFile.FieldType.object "java/lang/Integer"))).before args0 about1 = true := code_word (m := ⟨10, 0⟩) (meth := k10m0) (c := k10c0) (by decide +kernel) rfl rfl rfl (by decide +kernel)
set_option maxRecDepth 65536 in
theorem w_c8 : (Jvm.Cond.code ({ cls := "java/lang/Long", name := "valueOf", desc := "(J)Ljava/lang/Long;" } : Jvm.MethodName) jdk_35_method_24_code (3 : Nat) (Option.some (Jvm.ClassFile.FieldType.object "java/lang/Long"))).before args0 about1 = true := code_word (m := ⟨12, 0⟩) (meth := k12m0) (c := k12c0) (by decide +kernel) rfl rfl rfl (by decide +kernel)
set_option maxRecDepth 65536 in
theorem w_c9 : (Jvm.Cond.code ({ cls := "com/example/relaystack/relaystack/CommandLine", name := "once", desc := "(Ljava/lang/String;Ljava/lang/Object;Ljava/lang/Object;)Ljava/lang/Object;" } : Jvm.MethodName) prog_7_method_3_code (3 : Nat) (Option.some (Jvm.ClassFile.FieldType.object "java/lang/Object"))).before args0 about1 = true := code_word (m := ⟨14, 1⟩) (meth := k14m1) (c := k14c1) (by decide +kernel) rfl rfl rfl (by decide +kernel)
set_option maxRecDepth 65536 in
theorem w_c10 : (Jvm.Cond.code ({ cls := "java/lang/Integer", name := "<init>", desc := "(I)V" } : Jvm.MethodName) jdk_33_method_23_code (2 : Nat) (Option.none : Option Jvm.ClassFile.FieldType)).before args0 about1 = true := code_word (m := ⟨10, 1⟩) (meth := k10m1) (c := k10c1) (by decide +kernel) rfl rfl rfl (by decide +kernel)
set_option maxRecDepth 65536 in
theorem w_c11 : (Jvm.Cond.code ({ cls := "java/lang/Number", name := "<init>", desc := "()V" } : Jvm.MethodName) jdk_18_method_1_code (1 : Nat) (Option.none : Option Jvm.ClassFile.FieldType)).before args0 about1 = true := code_word (m := ⟨9, 0⟩) (meth := k9m0) (c := k9c0) (by decide +kernel) rfl rfl rfl (by decide +kernel)
set_option maxRecDepth 65536 in
theorem w_c12 : (Jvm.Cond.code ({ cls := "java/lang/Long", name := "<init>", desc := "(J)V" } : Jvm.MethodName) jdk_35_method_26_code (3 : Nat) (Option.none : Option Jvm.ClassFile.FieldType)).before args0 about1 = true := code_word (m := ⟨12, 1⟩) (meth := k12m1) (c := k12c1) (by decide +kernel) rfl rfl rfl (by decide +kernel)
def codes1 : List Jvm.Cond := [Jvm.Cond.code x code maxLocals ret, Jvm.Cond.code ({ cls := "java/lang/String", name := "<init>", desc := "([C)V" } : Jvm.MethodName) jdk_42_method_3_code (2 : Nat) (Option.none : Option Jvm.ClassFile.FieldType), Jvm.Cond.code ({ cls := "java/lang/String", name := "<init>", desc := "([CIILjava/lang/Void;)V" } : Jvm.MethodName) jdk_42_method_149_code (6 : Nat) (Option.none : Option Jvm.ClassFile.FieldType), Jvm.Cond.code ({ cls := "java/lang/Object", name := "<init>", desc := "()V" } : Jvm.MethodName) object_method_1_code (1 : Nat) (Option.none : Option Jvm.ClassFile.FieldType), Jvm.Cond.code ({ cls := "java/lang/StringUTF16", name := "compress", desc := "([CII)[B" } : Jvm.MethodName) jdk_52_method_16_code (6 : Nat) (Option.some (Jvm.ClassFile.FieldType.array Jvm.ClassFile.FieldType.byte)), Jvm.Cond.code ({ cls := "java/lang/StringUTF16", name := "compress", desc := "([CI[BII)I" } : Jvm.MethodName) jdk_52_method_21_code (7 : Nat) (Option.some Jvm.ClassFile.FieldType.int), Jvm.Cond.code ({ cls := "java/lang/StringUTF16", name := "coderFromArrayLen", desc := "([BI)B" } : Jvm.MethodName) jdk_52_method_15_code (2 : Nat) (Option.some Jvm.ClassFile.FieldType.byte), Jvm.Cond.code ({ cls := "java/lang/Integer", name := "valueOf", desc := "(I)Ljava/lang/Integer;" } : Jvm.MethodName) jdk_33_method_22_code (1 : Nat) (Option.some (Jvm.ClassFile.FieldType.object "java/lang/Integer")), Jvm.Cond.code ({ cls := "java/lang/Long", name := "valueOf", desc := "(J)Ljava/lang/Long;" } : Jvm.MethodName) jdk_35_method_24_code (3 : Nat) (Option.some (Jvm.ClassFile.FieldType.object "java/lang/Long")), Jvm.Cond.code ({ cls := "com/example/relaystack/relaystack/CommandLine", name := "once", desc := "(Ljava/lang/String;Ljava/lang/Object;Ljava/lang/Object;)Ljava/lang/Object;" } : Jvm.MethodName) prog_7_method_3_code (3 : Nat) (Option.some (Jvm.ClassFile.FieldType.object "java/lang/Object")), Jvm.Cond.code ({ cls := "java/lang/Integer", name := "<init>", desc := "(I)V" } : Jvm.MethodName) jdk_33_method_23_code (2 : Nat) (Option.none : Option Jvm.ClassFile.FieldType), Jvm.Cond.code ({ cls := "java/lang/Number", name := "<init>", desc := "()V" } : Jvm.MethodName) jdk_18_method_1_code (1 : Nat) (Option.none : Option Jvm.ClassFile.FieldType), Jvm.Cond.code ({ cls := "java/lang/Long", name := "<init>", desc := "(J)V" } : Jvm.MethodName) jdk_35_method_26_code (3 : Nat) (Option.none : Option Jvm.ClassFile.FieldType)]
set_option maxRecDepth 65536 in
theorem codes_eq : words1.filter isCode = codes1 := rfl
theorem w_codes : ∀ c ∈ words1.filter isCode, c.before args0 about1 = true := by
  rw [codes_eq]
  intro c hc
  simp only [codes1, List.mem_cons, List.not_mem_nil, or_false] at hc
  rcases hc with rfl | rfl | rfl | rfl | rfl | rfl | rfl | rfl | rfl | rfl | rfl | rfl | rfl
  · exact w_c0
  · exact w_c1
  · exact w_c2
  · exact w_c3
  · exact w_c4
  · exact w_c5
  · exact w_c6
  · exact w_c7
  · exact w_c8
  · exact w_c9
  · exact w_c10
  · exact w_c11
  · exact w_c12
set_option maxRecDepth 65536 in
theorem w_t1 : (words1.take 24).all (fun c => isCode c || c.before args0 about1) = true := by decide +kernel
set_option maxRecDepth 65536 in
theorem w_t2 : ((words1.drop 24).take 24).all (fun c => isCode c || c.before args0 about1) = true := by decide +kernel
set_option maxRecDepth 65536 in
theorem w_t3 : (((words1.drop 24).drop 24).take 24).all (fun c => isCode c || c.before args0 about1) = true := by decide +kernel
set_option maxRecDepth 65536 in
theorem w_t4 : (((words1.drop 24).drop 24).drop 24).all (fun c => isCode c || c.before args0 about1) = true := by decide +kernel
theorem w_tables : (allAtoms (Jvm.Cond.code x code maxLocals ret :: tables_1)).before args0 about1 = true := by
  rw [allAtoms_all]
  show words1.all (fun c => c.before args0 about1) = true
  refine all_split ?_ w_codes
  rw [← List.take_append_drop 24 words1, List.all_append, w_t1, ← List.take_append_drop 24 (words1.drop 24), List.all_append, w_t2, ← List.take_append_drop 24 ((words1.drop 24).drop 24), List.all_append, w_t3, w_t4]
  rfl
set_option maxRecDepth 65536 in
theorem w_rest : rest_1_c.before args0 about1 = true := by decide +kernel
set_option maxRecDepth 65536 in
theorem w_case : (Jvm.Cond.and given_1 narrow_1).before args0 about1 = true := by decide +kernel
theorem w_applies : (headSpec (Jvm.Cond.code x code maxLocals ret :: tables_1) room_1).applies x e0.platform about1 = true :=
  (Spec.applies_iff w_frames).mpr ⟨w_running, w_runnable, w_alone, w_named, w_hears, w_ripe, w_room, w_tables⟩
theorem atStart : AtStart classFile x code maxLocals ret World_1 tables_1 room_1 Calls_1 rest_1 Pre_1 launch0 p0 e0 about1 theMethod args0 below0 :=
  ⟨lists_1, trivial, launch0.admits_env _ _ _, launch0.least_env, fairChoices_fair.cas, fairChoices_fair.clock, w_frames, w_args, w_heap, w_applies, trivial, w_rest, w_case⟩
end start1
theorem witness_1 : WitnessClaimed_1 := ⟨start1.p0, start1.e0, start1.about1, start1.theMethod, start1.args0, start1.below0, start1.atStart⟩
end Jvm.Pilot.@@N@@
