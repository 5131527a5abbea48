import JvmDerived
import JvmDerived.Pilot.@@N@@Statement
import JvmDerived.Pilot.@@N@@Code
set_option linter.unusedVariables false
set_option linter.unusedSimpArgs false
namespace Jvm.RoadKit
open Sem ClassFile Op Lib Jvm.Stand Jvm.Free Jvm.LawKit
def GoW (p : Program) (e : Env) (below : List Frame) (s : State) (Q : Option Value → Heap → List Loc → Prop) (k n : Nat) (u : State) : Prop :=
  ∃ s₂ o, Steps p.tables e below u s₂ ∧ s₂.status = .running ∧ Ended s₂ below o ∧ ∃ v L, o = .returned v ∧ Q v s₂.heap L ∧ FrameEnd s o s₂ L k n
def PureQ (r : Value) (h0 : Heap) (n0 : Nat) (v : Option Value) (h : Heap) (L : List Loc) : Prop := v = some r ∧ Fr n0 L ∧ h = h0
def ValQ (r : Value) (n0 : Nat) (v : Option Value) (h : Heap) (L : List Loc) : Prop := v = some r ∧ Fr n0 L
section New
variable {p : Program} {l : Launch} {e : Env} {R : Room} {s : State} {m : MethodId} {args : Array Value} {below : List Frame} {meth : Method} {c : Code} {T : State} {locs : List Loc} {cells slots : Nat} {Q : Option Value → Heap → List Loc → Prop} {k n : Nat} {u v : State}
theorem GoW.mk (h : GoW p e below s Q k n u) : ∃ s₂ o, Steps p.tables e below u s₂ ∧ s₂.status = .running ∧ Ended s₂ below o ∧ ∃ v L, o = .returned v ∧ Q v s₂.heap L ∧ FrameEnd s o s₂ L k n := h
theorem GoW.st (h : ∀ t, Steps p.tables e below u t → Steps p.tables e below v t) (q : GoW p e below s Q k n u) : GoW p e below s Q k n v := by
  obtain ⟨s₂, o, h1, h2⟩ := q; exact ⟨s₂, o, h _ h1, h2⟩
theorem GoW.sg {T' : State} (g' : JFrame) (h : ∀ t, Steps p.tables e below (T'.setTop g') t → Steps p.tables e below v t) (q : GoW p e below s Q k n (T'.setTop g')) : GoW p e below s Q k n v := GoW.st h q
theorem retI (X : Stand p l e R s m args below meth c T locs cells slots) (hx : p.tables.exec = Jvm.exec) {pc : Nat} {Ls : Array Slot} {z : Int32} {rest : List Value} (hret : meth.sig.returnType = some .int) (hd : decode c.code pc = .ok (.ireturn, 1)) {fs : List Frame}
    (hl : ∀ (f : JFrame) (acts : List Action), f.method = m → f.locked = none → f.entered = [] → (doReturn e (T.setTop f) acts (some (.int z))).1 = T.setFrames fs) : Steps p.tables e below (T.setTop (mkF m pc Ls (.int z :: rest))) (T.setFrames fs) := by
  have hm' : T.vm.method? m = some meth := X.method'
  have hn : narrow .int (.int z) = .int z := rfl
  show Steps p.tables e below (T.setTop { method := m, pc := pc, locals := Ls, stack := _ :: rest, locked := none }) _
  jvm_step X.here [X.here.top, hx, hd, hm', hret, hn]
  first | (intro acts; rw [hl _ acts rfl rfl rfl]) | rw [hl _ _ rfl rfl rfl]
  exact Steps.refl _
theorem GoW.retN (X : Stand p l e R s m args below meth c T locs cells slots) (hx : p.tables.exec = Jvm.exec) {pc : Nat} {Ls : Array Slot} {z : Int32} {t : FieldType} {rest : List Value} (hret : meth.sig.returnType = some t) (ht : t = .boolean ∨ t = .byte ∨ t = .char ∨ t = .short)
    (hd : decode c.code pc = .ok (.ireturn, 1)) (hlk : meth.locks = false) (hq : Q (some (.int (nar t z))) T.heap locs) (hk : cells ≤ k) (hn : slots ≤ n) : GoW p e below s Q k n (T.setTop (mkF m pc Ls (.int z :: rest))) := by
  obtain ⟨fs, hr, hrun, hended, hW, hsame⟩ := X.leave (v := some (.int (nar t z))) (fun h => by rw [hret] at h; cases h) hlk
  exact ⟨_, _, Jvm.RoadKit.retN X hx hret ht hd hr, hrun, hended, _, _, rfl, hq, ⟨_, rfl⟩, hW, hsame.mono hk hn⟩
theorem GoW.retI (X : Stand p l e R s m args below meth c T locs cells slots) (hx : p.tables.exec = Jvm.exec) {pc : Nat} {Ls : Array Slot} {z : Int32} {rest : List Value} (hret : meth.sig.returnType = some .int)
    (hd : decode c.code pc = .ok (.ireturn, 1)) (hlk : meth.locks = false) (hq : Q (some (.int z)) T.heap locs) (hk : cells ≤ k) (hn : slots ≤ n) : GoW p e below s Q k n (T.setTop (mkF m pc Ls (.int z :: rest))) := by
  obtain ⟨fs, hr, hrun, hended, hW, hsame⟩ := X.leave (v := some (.int z)) (fun h => by rw [hret] at h; cases h) hlk
  exact ⟨_, _, Jvm.RoadKit.retI X hx hret hd hr, hrun, hended, _, _, rfl, hq, ⟨_, rfl⟩, hW, hsame.mono hk hn⟩
theorem GoW.retL (X : Stand p l e R s m args below meth c T locs cells slots) (hx : p.tables.exec = Jvm.exec) {pc : Nat} {Ls : Array Slot} {z : Int64} {rest : List Value} (hret : meth.sig.returnType = some .long)
    (hd : decode c.code pc = .ok (.lreturn, 1)) (hlk : meth.locks = false) (hq : Q (some (.long z)) T.heap locs) (hk : cells ≤ k) (hn : slots ≤ n) : GoW p e below s Q k n (T.setTop (mkF m pc Ls (.long z :: rest))) := by
  obtain ⟨fs, hr, hrun, hended, hW, hsame⟩ := X.leave (v := some (.long z)) (fun h => by rw [hret] at h; cases h) hlk
  exact ⟨_, _, retOut X hx hret rfl (Or.inr (Or.inl ⟨rfl, rfl, z, rfl⟩)) hd hr, hrun, hended, _, _, rfl, hq, ⟨_, rfl⟩, hW, hsame.mono hk hn⟩
theorem GoW.retA (X : Stand p l e R s m args below meth c T locs cells slots) (hx : p.tables.exec = Jvm.exec) {pc : Nat} {Ls : Array Slot} {w : Value} {t : FieldType} {rest : List Value} (hret : meth.sig.returnType = some t) (hw : w.isRef = true) (ht : t.isReference = true)
    (hn' : narrow t w = w) (hd : decode c.code pc = .ok (.areturn, 1)) (hlk : meth.locks = false) (hq : Q (some w) T.heap locs) (hk : cells ≤ k) (hn : slots ≤ n) : GoW p e below s Q k n (T.setTop (mkF m pc Ls (w :: rest))) := by
  obtain ⟨fs, hr, hrun, hended, hW, hsame⟩ := X.leave (v := some w) (fun h => by rw [hret] at h; cases h) hlk
  exact ⟨_, _, retOut X hx hret hn' (Or.inr (Or.inr (Or.inr (Or.inr ⟨rfl, ht, hw⟩)))) hd hr, hrun, hended, _, _, rfl, hq, ⟨_, rfl⟩, hW, hsame.mono hk hn⟩
theorem GoW.retV (X : Stand p l e R s m args below meth c T locs cells slots) (hx : p.tables.exec = Jvm.exec) {pc : Nat} {Ls : Array Slot} (hret : meth.sig.returnType = none)
    (hd : decode c.code pc = .ok (.return_, 1)) (hlk : meth.locks = false) (hq : Q none T.heap locs) (hk : cells ≤ k) (hn : slots ≤ n) : GoW p e below s Q k n (T.setTop (mkF m pc Ls [])) := by
  obtain ⟨fs, hr, hrun, hended, hW, hsame⟩ := X.leave (v := none) (fun _ => rfl) hlk
  exact ⟨_, _, X.returnOut hx hret hd hr, hrun, hended, _, _, rfl, hq, ⟨_, rfl⟩, hW, hsame.mono hk hn⟩
theorem hq_ {T : State} {h : Heap} {a : Addr} {c : Cell} (e : T.heap = h) (q : h[a]? = some c) : T.heap[a]? = some c := by rw [e]; exact q
theorem own_b53 (x : Int32) : B53 x.toInt64 := by
  have h := rng32 x
  unfold B53; rw [Int32.toInt_toInt64]; omega
theorem own_eqI {args : Array Value} {first s : State} {o : Option Outcome} {idx : List Nat} {t : Term} {i : Int32} (h : (Jvm.Cond.eq t (.int i)).value args first o s idx = some true) : t.eval args first o idx s = some (.int i) := by
  obtain ⟨x, y, hx, hy, k1, k2⟩ := cmp_v (Or.inl h)
  rw [Term.int_eval] at hy
  cases hy
  obtain ⟨z, rfl⟩ := k2
  have q := gotT (Cond.eq_ints hx (Term.int_eval i)) h
  rw [hx, q]
theorem own_ne {args : Array Value} {first s : State} {o : Option Outcome} {idx : List Nat} {t u : Term} {C n d : String} {i j : Int32} {a b : Addr} (h1 : (Jvm.Cond.eq (.field t C n d) (.int i)).value args first o s idx = some true) (h2 : (Jvm.Cond.eq (.field u C n d) (.int j)).value args first o s idx = some true)
    (ha : t.eval args first o idx s = some (.ref a)) (hb : u.eval args first o idx s = some (.ref b)) (hij : i ≠ j) : a ≠ b := fun e => by
  subst e
  have q1 := own_eqI h1
  have q2 := own_eqI h2
  rw [fld_at ha] at q1
  rw [fld_at hb, q1] at q2
  exact hij (by cases q2; rfl)
theorem own_staK0 {Z : State} {h h' : Heap} {C n d : String} {v : Value} (F : Sta Z h C n d v) (K : Keep h h' []) : Sta Z h' C n d v := by
  obtain ⟨cf, i, k, f, st, cell, h1, h2, h3, h4, h5, r⟩ := F; exact ⟨cf, i, k, f, st, cell, h1, h2, h3, h4, K.2.1 _ _ h5 nin0, r⟩
theorem own_staK1 {Z : State} {h h' : Heap} {C n d K0 : String} {v : Value} {a : Addr} (F : Sta Z h C n d v) (K : Keep h h' [a]) (E : Exa Z h a K0) : Sta Z h' C n d v := by
  obtain ⟨cf, i, k, f, st, cell, h1, h2, h3, h4, h5, h6, r⟩ := F
  refine ⟨cf, i, k, f, st, cell, h1, h2, h3, h4, K.2.1 _ _ h5 (ninS (fun q => ?_) nin0), h6, r⟩
  subst q
  obtain ⟨cell2, k2, g1, -, -, g2, -⟩ := E
  cases h5.symm.trans g1
  rw [h6] at g2; cases g2
theorem GoW.retD (X : Stand p l e R s m args below meth c T locs cells slots) (hx : p.tables.exec = Jvm.exec) {pc : Nat} {Ls : Array Slot} {z : UInt64} {rest : List Value} (hret : meth.sig.returnType = some .double)
    (hd : decode c.code pc = .ok (.dreturn, 1)) (hlk : meth.locks = false) (hq : Q (some (.double z)) T.heap locs) (hk : cells ≤ k) (hn : slots ≤ n) : GoW p e below s Q k n (T.setTop (mkF m pc Ls (.double z :: rest))) := by
  obtain ⟨fs, hr, hrun, hended, hW, hsame⟩ := X.leave (v := some (.double z)) (fun h => by rw [hret] at h; cases h) hlk
  exact ⟨_, _, retOut X hx hret rfl (Or.inr (Or.inr (Or.inl ⟨rfl, rfl, z, rfl⟩))) hd hr, hrun, hended, _, _, rfl, hq, ⟨_, rfl⟩, hW, hsame.mono hk hn⟩
theorem own_pop2L {tb : Tables} [Ours tb] {e : Env} {below : List Frame} {T target : State} {m : MethodId} {c : Code} {g : JFrame} (h : At T m c below) (hx : tb.exec = Jvm.exec) (hg : g.method = m) {x : Int64} {rest : List Value} (hd : decode c.code g.pc = .ok (.pop2, 1)) (hs : g.stack = .long x :: rest)
    (hr : Steps tb e below (T.setTop { g with pc := g.pc + 1, stack := rest }) target) : Steps tb e below (T.setTop g) target := by
  subst hg
  jvm_step h [h.top, hx, hd, hs, Value.category]
  exact hr
end New
end Jvm.RoadKit
namespace Jvm.Pilot.@@N@@
open Jvm Jvm.ClassFile Sem Op Lib Jvm.Free Jvm.Stand Jvm.LawKit Jvm.RoadKit Bundle Jvm.Pilot.@@N@@.Jvm.D
theorem ww {Z : State} {a0 : Array Value} (hw : ∀ d ∈ tables_1, d.before a0 Z = true) (i : Nat) {d : Jvm.Cond} (h : tables_1[i]? = some d) : d.before a0 Z = true := hw _ (List.mem_of_getElem? h)
theorem pn_com_example_spindle_spindle_SpinRuleSpinNanosPinLaw : plainName "com/example/spindle/spindle/SpinRuleSpinNanosPinLaw" = true := by first | (simp [plainName, overriddenIn]; done) | decide +kernel
abbrev Sh0 (p0 : Int64) (p1 : Int64) (p2 : Int32) : Array Slot := #[.val (.long p0), .second, .val (.long p1), .second, .val (.int p2), .unset, .unset, .unset, .unset, .unset, .unset, .unset, .unset, .unset, .unset, .unset, .unset, .unset, .unset, .unset]
abbrev Sh1 (p0 : Int64) (p1 : Int64) (p2 : Int32) (p3 : Int32) : Array Slot := #[.val (.long p0), .second, .val (.long p1), .second, .val (.int p2), .val (.int p3), .unset, .unset, .unset, .unset, .unset, .unset, .unset, .unset, .unset, .unset, .unset, .unset, .unset, .unset]
abbrev Sh2 (p0 : Int64) (p1 : Int64) (p2 : Int32) (p3 : Int32) (p4 : Int32) : Array Slot := #[.val (.long p0), .second, .val (.long p1), .second, .val (.int p2), .val (.int p3), .val (.int p4), .unset, .unset, .unset, .unset, .unset, .unset, .unset, .unset, .unset, .unset, .unset, .unset, .unset]
abbrev Sh3 (p0 : Int64) (p1 : Int64) (p2 : Int32) (p3 : Int32) (p4 : Int32) (p5 : Int32) : Array Slot := #[.val (.long p0), .second, .val (.long p1), .second, .val (.int p2), .val (.int p3), .val (.int p4), .val (.int p5), .unset, .unset, .unset, .unset, .unset, .unset, .unset, .unset, .unset, .unset, .unset, .unset]
abbrev Sh4 (p0 : Int64) (p1 : Int64) (p2 : Int32) (p3 : Int32) (p4 : Int32) (p5 : Int32) (p6 : Int64) : Array Slot := #[.val (.long p0), .second, .val (.long p1), .second, .val (.int p2), .val (.int p3), .val (.int p4), .val (.int p5), .val (.long p6), .second, .unset, .unset, .unset, .unset, .unset, .unset, .unset, .unset, .unset, .unset]
theorem pn_com_example_spindle_spindle_SpinRule : plainName "com/example/spindle/spindle/SpinRule" = true := by first | (simp [plainName, overriddenIn]; done) | decide +kernel
theorem d1_0 : decode prog_40_method_1_code 0 = .ok (.aload_n 0, 1) := by decide +kernel
theorem d1_1 : decode prog_40_method_1_code 1 = .ok (.invokespecial 1, 3) := by decide +kernel
theorem d1_4 : decode prog_40_method_1_code 4 = .ok (.aload_n 0, 1) := by decide +kernel
theorem d1_5 : decode prog_40_method_1_code 5 = .ok (.dconst 1, 1) := by decide +kernel
theorem d1_6 : decode prog_40_method_1_code 6 = .ok (.putfield 7, 3) := by decide +kernel
theorem d1_9 : decode prog_40_method_1_code 9 = .ok (.return_, 1) := by decide +kernel
theorem pd_2829V : parseMethodDescriptor "()V" = some ⟨[], none⟩ := by decide +kernel
abbrev Sh5 (p0 : Int64) (p1 : Int64) (p2 : Int32) (p3 : Int32) (p4 : Int32) (p5 : Int32) (p6 : Int64) (p7 : Addr) : Array Slot := #[.val (.long p0), .second, .val (.long p1), .second, .val (.int p2), .val (.int p3), .val (.int p4), .val (.int p5), .val (.long p6), .second, .val (.ref p7), .unset, .unset, .unset, .unset, .unset, .unset, .unset, .unset, .unset]
abbrev Sh6 (p0 : Int64) (p1 : Int64) (p2 : Int32) (p3 : Int32) (p4 : Int32) (p5 : Int32) (p6 : Int64) (p7 : Addr) (p8 : Int32) : Array Slot := #[.val (.long p0), .second, .val (.long p1), .second, .val (.int p2), .val (.int p3), .val (.int p4), .val (.int p5), .val (.long p6), .second, .val (.ref p7), .val (.int p8), .unset, .unset, .unset, .unset, .unset, .unset, .unset, .unset]
abbrev Sh7 (p0 : Addr) (p1 : Int64) : Array Slot := #[.val (.ref p0), .val (.long p1), .second]
theorem d3_0 : decode prog_40_method_3_code 0 = .ok (.aload_n 0, 1) := by decide +kernel
theorem d3_1 : decode prog_40_method_3_code 1 = .ok (.aload_n 0, 1) := by decide +kernel
theorem d3_2 : decode prog_40_method_3_code 2 = .ok (.getfield 13, 3) := by decide +kernel
theorem d3_5 : decode prog_40_method_3_code 5 = .ok (.putfield 17, 3) := by decide +kernel
theorem d3_8 : decode prog_40_method_3_code 8 = .ok (.aload_n 0, 1) := by decide +kernel
theorem d3_9 : decode prog_40_method_3_code 9 = .ok (.iconst 0, 1) := by decide +kernel
theorem d3_10 : decode prog_40_method_3_code 10 = .ok (.putfield 13, 3) := by decide +kernel
theorem d3_13 : decode prog_40_method_3_code 13 = .ok (.lload_n 1, 1) := by decide +kernel
theorem d3_14 : decode prog_40_method_3_code 14 = .ok (.ldc2_w 20, 3) := by decide +kernel
theorem d3_17 : decode prog_40_method_3_code 17 = .ok (.lcmp, 1) := by decide +kernel
theorem d3_18 : decode prog_40_method_3_code 18 = .ok (.ifCond .gt 5, 3) := by decide +kernel
theorem d3_23 : decode prog_40_method_3_code 23 = .ok (.aload_n 0, 1) := by decide +kernel
theorem d3_24 : decode prog_40_method_3_code 24 = .ok (.getfield 17, 3) := by decide +kernel
theorem d3_27 : decode prog_40_method_3_code 27 = .ok (.ifCond .eq 20, 3) := by decide +kernel
theorem d3_47 : decode prog_40_method_3_code 47 = .ok (.lconst 0, 1) := by decide +kernel
theorem d3_48 : decode prog_40_method_3_code 48 = .ok (.lreturn, 1) := by decide +kernel
theorem pd_28J29J : parseMethodDescriptor "(J)J" = some ⟨[.long], some .long⟩ := by decide +kernel
abbrev Sh8 (p0 : Int64) (p1 : Int64) (p2 : Int32) (p3 : Int32) (p4 : Int32) (p5 : Int32) (p6 : Int64) (p7 : Addr) (p8 : Int32) (p9 : Int64) : Array Slot := #[.val (.long p0), .second, .val (.long p1), .second, .val (.int p2), .val (.int p3), .val (.int p4), .val (.int p5), .val (.long p6), .second, .val (.ref p7), .val (.int p8), .val (.long p9), .second, .unset, .unset, .unset, .unset, .unset, .unset]
abbrev Sh9 (p0 : Int64) (p1 : Int64) (p2 : Int32) (p3 : Int32) (p4 : Int32) (p5 : Int32) (p6 : Int64) (p7 : Addr) (p8 : Int32) (p9 : Int64) (p10 : Int64) : Array Slot := #[.val (.long p0), .second, .val (.long p1), .second, .val (.int p2), .val (.int p3), .val (.int p4), .val (.int p5), .val (.long p6), .second, .val (.ref p7), .val (.int p8), .val (.long p9), .second, .val (.long p10), .second, .unset, .unset, .unset, .unset]
theorem d4_0 : decode prog_40_method_4_code 0 = .ok (.lload_n 1, 1) := by decide +kernel
theorem d4_1 : decode prog_40_method_4_code 1 = .ok (.lconst 0, 1) := by decide +kernel
theorem d4_2 : decode prog_40_method_4_code 2 = .ok (.lcmp, 1) := by decide +kernel
theorem d4_3 : decode prog_40_method_4_code 3 = .ok (.ifCond .gt 10, 3) := by decide +kernel
theorem d4_6 : decode prog_40_method_4_code 6 = .ok (.aload_n 0, 1) := by decide +kernel
theorem d4_7 : decode prog_40_method_4_code 7 = .ok (.getfield 17, 3) := by decide +kernel
theorem d4_10 : decode prog_40_method_4_code 10 = .ok (.ifCond .eq 7, 3) := by decide +kernel
theorem d4_17 : decode prog_40_method_4_code 17 = .ok (.iconst 0, 1) := by decide +kernel
theorem d4_18 : decode prog_40_method_4_code 18 = .ok (.ireturn, 1) := by decide +kernel
theorem pd_28J29Z : parseMethodDescriptor "(J)Z" = some ⟨[.long], some .boolean⟩ := by decide +kernel
abbrev Sh10 (p0 : Int64) (p1 : Int64) (p2 : Int32) (p3 : Int32) (p4 : Int32) (p5 : Int32) (p6 : Int64) (p7 : Addr) (p8 : Int32) (p9 : Int64) (p10 : Int64) (p11 : Int64) : Array Slot := #[.val (.long p0), .second, .val (.long p1), .second, .val (.int p2), .val (.int p3), .val (.int p4), .val (.int p5), .val (.long p6), .second, .val (.ref p7), .val (.int p8), .val (.long p9), .second, .val (.long p10), .second, .val (.long p11), .second, .unset, .unset]
abbrev Sh11 (p0 : Int64) (p1 : Int64) (p2 : Int32) (p3 : Int32) (p4 : Int32) (p5 : Int32) (p6 : Int64) (p7 : Addr) (p8 : Int32) (p9 : Int64) (p10 : Int64) (p11 : Int64) (p12 : Int64) : Array Slot := #[.val (.long p0), .second, .val (.long p1), .second, .val (.int p2), .val (.int p3), .val (.int p4), .val (.int p5), .val (.long p6), .second, .val (.ref p7), .val (.int p8), .val (.long p9), .second, .val (.long p10), .second, .val (.long p11), .second, .val (.long p12), .second]
theorem d3_21 : decode prog_40_method_3_code 21 = .ok (.lload_n 1, 1) := by decide +kernel
theorem d3_22 : decode prog_40_method_3_code 22 = .ok (.lreturn, 1) := by decide +kernel
theorem d5_0 : decode prog_40_method_2_code 0 = .ok (.aload_n 0, 1) := by decide +kernel
theorem d5_1 : decode prog_40_method_2_code 1 = .ok (.iconst 1, 1) := by decide +kernel
theorem d5_2 : decode prog_40_method_2_code 2 = .ok (.putfield 13, 3) := by decide +kernel
theorem d5_5 : decode prog_40_method_2_code 5 = .ok (.return_, 1) := by decide +kernel
theorem d3_30 : decode prog_40_method_3_code 30 = .ok (.aload_n 0, 1) := by decide +kernel
theorem d3_31 : decode prog_40_method_3_code 31 = .ok (.getfield 7, 3) := by decide +kernel
theorem d3_34 : decode prog_40_method_3_code 34 = .ok (.ldc2_w 22, 3) := by decide +kernel
theorem d3_37 : decode prog_40_method_3_code 37 = .ok (.dcmp .l, 1) := by decide +kernel
theorem d3_38 : decode prog_40_method_3_code 38 = .ok (.ifCond .lt 9, 3) := by decide +kernel
theorem d3_41 : decode prog_40_method_3_code 41 = .ok (.ldc2_w 20, 3) := by decide +kernel
theorem d3_44 : decode prog_40_method_3_code 44 = .ok (.goto 4, 3) := by decide +kernel
theorem d4_13 : decode prog_40_method_4_code 13 = .ok (.iconst 1, 1) := by decide +kernel
theorem d4_14 : decode prog_40_method_4_code 14 = .ok (.goto 4, 3) := by decide +kernel
theorem d6_0 : decode method_2_code 0 = .ok (.aload_n 0, 1) := by decide +kernel
theorem d6_1 : decode method_2_code 1 = .ok (.iconst 0, 1) := by decide +kernel
theorem d6_2 : decode method_2_code 2 = .ok (.iconst 0, 1) := by decide +kernel
theorem d6_3 : decode method_2_code 3 = .ok (.ldc2_w 7, 3) := by decide +kernel
abbrev Sh12 (p0 : Addr) (p1 : Int32) (p2 : Int32) (p3 : Int64) : Array Slot := #[.val (.ref p0), .val (.int p1), .val (.int p2), .val (.long p3), .second, .unset]
theorem d7_0 : decode prog_40_method_5_code 0 = .ok (.aload_n 0, 1) := by decide +kernel
theorem d7_1 : decode prog_40_method_5_code 1 = .ok (.getfield 17, 3) := by decide +kernel
theorem d7_4 : decode prog_40_method_5_code 4 = .ok (.ifCond .eq 15, 3) := by decide +kernel
theorem d7_7 : decode prog_40_method_5_code 7 = .ok (.iload_n 1, 1) := by decide +kernel
theorem d7_8 : decode prog_40_method_5_code 8 = .ok (.ifCond .ne 12, 3) := by decide +kernel
theorem d7_11 : decode prog_40_method_5_code 11 = .ok (.lload_n 3, 1) := by decide +kernel
theorem d7_12 : decode prog_40_method_5_code 12 = .ok (.ldc2_w 20, 3) := by decide +kernel
theorem d7_15 : decode prog_40_method_5_code 15 = .ok (.lcmp, 1) := by decide +kernel
theorem d7_16 : decode prog_40_method_5_code 16 = .ok (.ifCond .ge 4, 3) := by decide +kernel
theorem d7_20 : decode prog_40_method_5_code 20 = .ok (.iload_n 1, 1) := by decide +kernel
theorem d7_21 : decode prog_40_method_5_code 21 = .ok (.ifCond .eq 19, 3) := by decide +kernel
theorem d7_40 : decode prog_40_method_5_code 40 = .ok (.iconst 0, 1) := by decide +kernel
theorem d7_41 : decode prog_40_method_5_code 41 = .ok (.istore 5, 2) := by decide +kernel
abbrev Sh13 (p0 : Addr) (p1 : Int32) (p2 : Int32) (p3 : Int64) (p4 : Int32) : Array Slot := #[.val (.ref p0), .val (.int p1), .val (.int p2), .val (.long p3), .second, .val (.int p4)]
theorem d7_43 : decode prog_40_method_5_code 43 = .ok (.aload_n 0, 1) := by decide +kernel
theorem d7_44 : decode prog_40_method_5_code 44 = .ok (.dup, 1) := by decide +kernel
theorem d7_45 : decode prog_40_method_5_code 45 = .ok (.getfield 7, 3) := by decide +kernel
theorem d7_48 : decode prog_40_method_5_code 48 = .ok (.iload 5, 2) := by decide +kernel
theorem d7_50 : decode prog_40_method_5_code 50 = .ok (.ifCond .eq 7, 3) := by decide +kernel
theorem d7_57 : decode prog_40_method_5_code 57 = .ok (.iconst 0, 1) := by decide +kernel
theorem d7_58 : decode prog_40_method_5_code 58 = .ok (.i2d, 1) := by decide +kernel
theorem d7_59 : decode prog_40_method_5_code 59 = .ok (.aload_n 0, 1) := by decide +kernel
theorem d7_60 : decode prog_40_method_5_code 60 = .ok (.getfield 7, 3) := by decide +kernel
theorem d7_63 : decode prog_40_method_5_code 63 = .ok (.dsub, 1) := by decide +kernel
theorem d7_64 : decode prog_40_method_5_code 64 = .ok (.ldc2_w 24, 3) := by decide +kernel
theorem d7_67 : decode prog_40_method_5_code 67 = .ok (.dmul, 1) := by decide +kernel
theorem d7_68 : decode prog_40_method_5_code 68 = .ok (.dadd, 1) := by decide +kernel
theorem d7_69 : decode prog_40_method_5_code 69 = .ok (.putfield 7, 3) := by decide +kernel
theorem d7_72 : decode prog_40_method_5_code 72 = .ok (.return_, 1) := by decide +kernel
theorem pd_28ZZJ29V : parseMethodDescriptor "(ZZJ)V" = some ⟨[.boolean, .boolean, .long], none⟩ := by decide +kernel
theorem d6_6 : decode method_2_code 6 = .ok (.invokevirtual 9, 3) := by decide +kernel
theorem d6_9 : decode method_2_code 9 = .ok (.aload_n 0, 1) := by decide +kernel
theorem d6_10 : decode method_2_code 10 = .ok (.iconst 0, 1) := by decide +kernel
theorem d6_11 : decode method_2_code 11 = .ok (.iconst 0, 1) := by decide +kernel
theorem d6_12 : decode method_2_code 12 = .ok (.ldc2_w 7, 3) := by decide +kernel
theorem d6_15 : decode method_2_code 15 = .ok (.invokevirtual 9, 3) := by decide +kernel
theorem d6_18 : decode method_2_code 18 = .ok (.aload_n 0, 1) := by decide +kernel
theorem d6_19 : decode method_2_code 19 = .ok (.iconst 0, 1) := by decide +kernel
theorem d6_20 : decode method_2_code 20 = .ok (.iconst 0, 1) := by decide +kernel
theorem d6_21 : decode method_2_code 21 = .ok (.ldc2_w 7, 3) := by decide +kernel
theorem d6_24 : decode method_2_code 24 = .ok (.invokevirtual 9, 3) := by decide +kernel
theorem d6_27 : decode method_2_code 27 = .ok (.aload_n 0, 1) := by decide +kernel
theorem d6_28 : decode method_2_code 28 = .ok (.iconst 0, 1) := by decide +kernel
theorem d6_29 : decode method_2_code 29 = .ok (.iconst 0, 1) := by decide +kernel
theorem d6_30 : decode method_2_code 30 = .ok (.ldc2_w 7, 3) := by decide +kernel
theorem d6_33 : decode method_2_code 33 = .ok (.invokevirtual 9, 3) := by decide +kernel
theorem d6_36 : decode method_2_code 36 = .ok (.aload_n 0, 1) := by decide +kernel
theorem d6_37 : decode method_2_code 37 = .ok (.iconst 0, 1) := by decide +kernel
theorem d6_38 : decode method_2_code 38 = .ok (.iconst 0, 1) := by decide +kernel
theorem d6_39 : decode method_2_code 39 = .ok (.ldc2_w 7, 3) := by decide +kernel
theorem d6_42 : decode method_2_code 42 = .ok (.invokevirtual 9, 3) := by decide +kernel
theorem d6_45 : decode method_2_code 45 = .ok (.aload_n 0, 1) := by decide +kernel
theorem d6_46 : decode method_2_code 46 = .ok (.iconst 0, 1) := by decide +kernel
theorem d6_47 : decode method_2_code 47 = .ok (.iconst 0, 1) := by decide +kernel
theorem d6_48 : decode method_2_code 48 = .ok (.ldc2_w 7, 3) := by decide +kernel
theorem d6_51 : decode method_2_code 51 = .ok (.invokevirtual 9, 3) := by decide +kernel
theorem d6_54 : decode method_2_code 54 = .ok (.aload_n 0, 1) := by decide +kernel
theorem d6_55 : decode method_2_code 55 = .ok (.iconst 0, 1) := by decide +kernel
theorem d6_56 : decode method_2_code 56 = .ok (.iconst 0, 1) := by decide +kernel
theorem d6_57 : decode method_2_code 57 = .ok (.ldc2_w 7, 3) := by decide +kernel
theorem d6_60 : decode method_2_code 60 = .ok (.invokevirtual 9, 3) := by decide +kernel
theorem d6_63 : decode method_2_code 63 = .ok (.aload_n 0, 1) := by decide +kernel
theorem d6_64 : decode method_2_code 64 = .ok (.iconst 0, 1) := by decide +kernel
theorem d6_65 : decode method_2_code 65 = .ok (.iconst 0, 1) := by decide +kernel
theorem d6_66 : decode method_2_code 66 = .ok (.ldc2_w 7, 3) := by decide +kernel
theorem d6_69 : decode method_2_code 69 = .ok (.invokevirtual 9, 3) := by decide +kernel
theorem d6_72 : decode method_2_code 72 = .ok (.aload_n 0, 1) := by decide +kernel
theorem d6_73 : decode method_2_code 73 = .ok (.iconst 0, 1) := by decide +kernel
theorem d6_74 : decode method_2_code 74 = .ok (.iconst 0, 1) := by decide +kernel
theorem d6_75 : decode method_2_code 75 = .ok (.ldc2_w 7, 3) := by decide +kernel
theorem d6_78 : decode method_2_code 78 = .ok (.invokevirtual 9, 3) := by decide +kernel
theorem d6_81 : decode method_2_code 81 = .ok (.aload_n 0, 1) := by decide +kernel
theorem d6_82 : decode method_2_code 82 = .ok (.iconst 0, 1) := by decide +kernel
theorem d6_83 : decode method_2_code 83 = .ok (.iconst 0, 1) := by decide +kernel
theorem d6_84 : decode method_2_code 84 = .ok (.ldc2_w 7, 3) := by decide +kernel
theorem d6_87 : decode method_2_code 87 = .ok (.invokevirtual 9, 3) := by decide +kernel
theorem d6_90 : decode method_2_code 90 = .ok (.return_, 1) := by decide +kernel
theorem pd_28Lcom2fexample2fspindle2fspindle2fSpinRule3b29V : parseMethodDescriptor "(Lcom/example/spindle/spindle/SpinRule;)V" = some ⟨[(.object "com/example/spindle/spindle/SpinRule")], none⟩ := by decide +kernel
theorem d7_24 : decode prog_40_method_5_code 24 = .ok (.iload_n 2, 1) := by decide +kernel
theorem d7_25 : decode prog_40_method_5_code 25 = .ok (.ifCond .eq 15, 3) := by decide +kernel
theorem own_and3 (q : Int32) : (q &&& (3 : Int32)) = (0 : Int32) ∨ (q &&& (3 : Int32)) = (1 : Int32) ∨ (q &&& (3 : Int32)) = (2 : Int32) ∨ (q &&& (3 : Int32)) = (3 : Int32) := by
  have h := c_mask q 3 2 (by decide) (by decide)
  have e : (q &&& 3).toInt = 0 ∨ (q &&& 3).toInt = 1 ∨ (q &&& 3).toInt = 2 ∨ (q &&& 3).toInt = 3 := by omega
  rcases e with e | e | e | e
  · exact Or.inl (Int32.toInt_inj.mp e)
  · exact Or.inr (Or.inl (Int32.toInt_inj.mp e))
  · exact Or.inr (Or.inr (Or.inl (Int32.toInt_inj.mp e)))
  · exact Or.inr (Or.inr (Or.inr (Int32.toInt_inj.mp e)))
theorem own_01 {b : Int32} {p : Prop} [Decidable p] (h : b = if p then (0 : Int32) else (1 : Int32)) : b = 0 ∨ b = 1 := by
  rw [h]; split
  · exact Or.inl rfl
  · exact Or.inr rfl
def Q1_1 (Z : State) (a1 : Addr) (h0 : Heap) (n0 : Nat) (v : Option Value) (h : Heap) (L : List Loc) : Prop := v = none ∧ Fr n0 L ∧ (Keep h0 h [a1]) ∧ (Exa Z h a1 "com/example/spindle/spindle/SpinRule") ∧ (Fld Z h a1 "com/example/spindle/spindle/SpinRule" "answeredShare" "D" (.double (4607182418800017408 : UInt64))) ∧ (Fld Z h a1 "com/example/spindle/spindle/SpinRule" "handedOn" "Z" (.int (0 : Int32))) ∧ (Fld Z h a1 "com/example/spindle/spindle/SpinRule" "awaitsAnswer" "Z" (.int (0 : Int32)))
theorem ef1_rm1_1 (m : MethodId) (a1 : Addr) : entryFrame m #[(.ref a1)] 1 = (mkF m 0 #[.val (.ref a1)] []) := by first | (simp [entryFrame, mkF, argsToLocals, Value.category, maxLocals]; done) | rfl
set_option maxRecDepth 65536 in
set_option maxHeartbeats 40000000 in
theorem rm1_1 (l : Launch) (Z : State) (a0 : Array Value) (hw : ∀ d ∈ tables_1, d.before a0 Z = true) (ws : List Jvm.Cond) (a1 : Addr)  (h0 : Heap) (n0 : Nat) (P0 : Exa Z h0 a1 "com/example/spindle/spindle/SpinRule") (P1 : Fld Z h0 a1 "com/example/spindle/spindle/SpinRule" "answeredShare" "D" (.double (0 : UInt64))) (P2 : Fld Z h0 a1 "com/example/spindle/spindle/SpinRule" "handedOn" "Z" (.int (0 : Int32))) (P3 : Fld Z h0 a1 "com/example/spindle/spindle/SpinRule" "awaitsAnswer" "Z" (.int (0 : Int32))) (g_a1 : n0 ≤ a1)    :
    MetFree l (⟨"com/example/spindle/spindle/SpinRule", "<init>", "()V"⟩ : MethodName) (head1 (Jvm.Cond.code (⟨"com/example/spindle/spindle/SpinRule", "<init>", "()V"⟩ : MethodName) prog_40_method_1_code 1 none :: ws) ({ frames := 1, cells := 0, slots := 0, locals := 12 } : Room)) (fun a U => a = #[(.ref a1)] ∧ Z.Warmed39 U.vm ∧ U.heap = h0) (fun _ _ _ _ _ => True) (fun _ U o U' => ∃ v L, o = .returned v ∧ (Q1_1 Z a1 h0 n0) v U'.heap L ∧ FrameEnd U o U' L 0 0) := by
  refine MetFree.of_bodySF (plainFor_of_name pn_com_example_spindle_spindle_SpinRule) hisR ?_
  intro p e s m args below meth c s₁ Bd hml0 hP hK
  obtain ⟨rfl, hZ, hh⟩ := hP
  have hx := Bd.exec
  have hby := Bd.bytes
  have hml : c.maxLocals = 1 := hml0
  have hown : s.vm.findClass "com/example/spindle/spindle/SpinRule" = some m.cls := findClass_of_methodNamed Bd.named
  have hnm := (name_of_methodNamed Bd.named Bd.method).1
  have X0 : Stand p l e ({ frames := 1, cells := 0, slots := 0, locals := 12 } : Room) s m #[(.ref a1)] below meth c s₁ [] 0 0 := Stand.of_body Bd
  have e0 : s₁.heap = h0 := by rw [← hh, Bd.state]; rfl
  have N0 := Fr.nil n0
  refine GoW.mk ?_
  refine GoW.st (fun t k => castTop (ef1_rm1_1 m a1) k) ?_
  show GoW p e below s (Q1_1 Z a1 h0 n0) 0 0 (s₁.setTop (mkF m 0 #[.val (.ref a1)] []))
  refine GoW.sg (mkF m 1 #[.val (.ref a1)] [(.ref a1)]) (fun t k => XS.aloadN X0.here hx rfl (hb hby d1_0) rfl rfl k) ?_
  obtain ⟨T17, X17, e17, st17⟩ := initO X0 hx hZ hown (ww hw 6 rfl) (ww hw 7 rfl) (ww hw 8 rfl) e0 (g := (mkF m 1 #[.val (.ref a1)] [(.ref a1)])) rfl (by rw [hml]; rfl) rfl (hb hby d1_1) (by decide) (W := 0) (by show 2 * 0 + _ ≤ _; exact Nat.le_of_eq rfl) (by decide)
  refine GoW.sg (mkF m 4 #[.val (.ref a1)] []) (fun t k => st17 t k) ?_
  refine GoW.sg (mkF m 5 #[.val (.ref a1)] [(.ref a1)]) (fun t k => XS.aloadN X17.here hx rfl (hb hby d1_4) rfl rfl k) ?_
  refine GoW.sg (mkF m 6 #[.val (.ref a1)] [(.double 4607182418800017408), (.ref a1)]) (fun t k => XS.dconst1 X17.here hx rfl (hb hby d1_5) (by decide +kernel : FP.dconst1 = (4607182418800017408 : UInt64)) k) ?_
  obtain ⟨T18, h18, X18, e18, W18, st18⟩ := putF X17 hx hZ hown (host := "") (Or.inl (ww hw 9 rfl)) Via.refl e17 P1 P0 (Or.inl (ww hw 10 rfl)) (ww hw 1 rfl) (ty := .double) (by decide) rfl rfl (g := (mkF m 6 #[.val (.ref a1)] [(.double 4607182418800017408), (.ref a1)])) rfl rfl (hb hby d1_6)
  have N18 := Fr.snoc X18 N0 g_a1
  have Exa_a1_18 : Exa Z h18 a1 "com/example/spindle/spindle/SpinRule" := P0.wr W18
  have Fld_a1_handedOn_18 : Fld Z h18 a1 "com/example/spindle/spindle/SpinRule" "handedOn" "Z" (.int (0 : Int32)) := P2.other W18 (Or.inr (slot_ne (t := .boolean) (t' := .double) (Or.inl (ww hw 17 rfl)) (Or.inl (ww hw 10 rfl)) (by decide) (by decide) (by decide)))
  have Fld_a1_awaitsAnswer_18 : Fld Z h18 a1 "com/example/spindle/spindle/SpinRule" "awaitsAnswer" "Z" (.int (0 : Int32)) := P3.other W18 (Or.inr (slot_ne (t := .boolean) (t' := .double) (Or.inl (ww hw 19 rfl)) (Or.inl (ww hw 10 rfl)) (by decide) (by decide) (by decide)))
  have Keep_18 : Keep h0 h18 [a1] := (Keep.refl h0 [a1]).wr W18 (Or.inl (List.mem_of_getElem? (i := 0) rfl))
  have Fld_a1_answeredShare_18 : Fld Z h18 a1 "com/example/spindle/spindle/SpinRule" "answeredShare" "D" (.double (4607182418800017408 : UInt64)) := P1.same W18
  refine GoW.sg (mkF m 9 #[.val (.ref a1)] []) (fun t k => st18 t k) ?_
  refine GoW.retV X18 hx Bd.returns (hb hby d1_9) Bd.notSynchronized ?_ (by decide) (by decide)
  rw [e18]
  exact ⟨rfl, N18, Keep_18, Exa_a1_18, Fld_a1_answeredShare_18, Fld_a1_handedOn_18, Fld_a1_awaitsAnswer_18⟩
def Q3_2 (Z : State) (a1 : Addr) (x2 : Int64) (h0 : Heap) (n0 : Nat) (v : Option Value) (h : Heap) (L : List Loc) : Prop := v = some (.long (0 : Int64)) ∧ Fr n0 L ∧ (Keep h0 h [a1]) ∧ (Exa Z h a1 "com/example/spindle/spindle/SpinRule") ∧ (Fld Z h a1 "com/example/spindle/spindle/SpinRule" "answeredShare" "D" (.double (4607182418800017408 : UInt64))) ∧ (Fld Z h a1 "com/example/spindle/spindle/SpinRule" "handedOn" "Z" (.int (0 : Int32))) ∧ (Fld Z h a1 "com/example/spindle/spindle/SpinRule" "awaitsAnswer" "Z" (.int (0 : Int32)))
theorem ef3_rm3_2 (m : MethodId) (a1 : Addr) (x2 : Int64) : entryFrame m #[(.ref a1), (.long x2)] 3 = (mkF m 0 #[.val (.ref a1), .val (.long x2), .second] []) := by first | (simp [entryFrame, mkF, argsToLocals, Value.category, maxLocals]; done) | rfl
set_option maxRecDepth 65536 in
set_option maxHeartbeats 40000000 in
theorem rm3_2 (l : Launch) (Z : State) (a0 : Array Value) (hw : ∀ d ∈ tables_1, d.before a0 Z = true) (ws : List Jvm.Cond) (a1 : Addr) (x2 : Int64)  (h0 : Heap) (n0 : Nat) (P0 : Exa Z h0 a1 "com/example/spindle/spindle/SpinRule") (P1 : Fld Z h0 a1 "com/example/spindle/spindle/SpinRule" "answeredShare" "D" (.double (4607182418800017408 : UInt64))) (P2 : Fld Z h0 a1 "com/example/spindle/spindle/SpinRule" "handedOn" "Z" (.int (0 : Int32))) (P3 : Fld Z h0 a1 "com/example/spindle/spindle/SpinRule" "awaitsAnswer" "Z" (.int (0 : Int32))) (g_a1 : n0 ≤ a1)  (u0 : (20000 : Int64) < x2)  :
    MetFree l (⟨"com/example/spindle/spindle/SpinRule", "spinNanos", "(J)J"⟩ : MethodName) (head1 (Jvm.Cond.code (⟨"com/example/spindle/spindle/SpinRule", "spinNanos", "(J)J"⟩ : MethodName) prog_40_method_3_code 3 (some .long) :: ws) ({ frames := 0, cells := 0, slots := 0, locals := 0 } : Room)) (fun a U => a = #[(.ref a1), (.long x2)] ∧ Z.Warmed39 U.vm ∧ U.heap = h0) (fun _ _ _ _ _ => True) (fun _ U o U' => ∃ v L, o = .returned v ∧ (Q3_2 Z a1 x2 h0 n0) v U'.heap L ∧ FrameEnd U o U' L 0 0) := by
  refine MetFree.of_bodySF (plainFor_of_name pn_com_example_spindle_spindle_SpinRule) hisR ?_
  intro p e s m args below meth c s₁ Bd hml0 hP hK
  obtain ⟨rfl, hZ, hh⟩ := hP
  have hx := Bd.exec
  have hby := Bd.bytes
  have hml : c.maxLocals = 3 := hml0
  have hown : s.vm.findClass "com/example/spindle/spindle/SpinRule" = some m.cls := findClass_of_methodNamed Bd.named
  have hnm := (name_of_methodNamed Bd.named Bd.method).1
  have X0 : Stand p l e ({ frames := 0, cells := 0, slots := 0, locals := 0 } : Room) s m #[(.ref a1), (.long x2)] below meth c s₁ [] 0 0 := Stand.of_body Bd
  have e0 : s₁.heap = h0 := by rw [← hh, Bd.state]; rfl
  have N0 := Fr.nil n0
  refine GoW.mk ?_
  refine GoW.st (fun t k => castTop (ef3_rm3_2 m a1 x2) k) ?_
  show GoW p e below s (Q3_2 Z a1 x2 h0 n0) 0 0 (s₁.setTop (mkF m 0 (Sh7 a1 x2) []))
  refine GoW.sg (mkF m 1 (Sh7 a1 x2) [(.ref a1)]) (fun t k => XS.aloadN X0.here hx rfl (hb hby d3_0) rfl rfl k) ?_
  refine GoW.sg (mkF m 2 (Sh7 a1 x2) [(.ref a1), (.ref a1)]) (fun t k => XS.aloadN X0.here hx rfl (hb hby d3_1) rfl rfl k) ?_
  obtain ⟨T25, X25, e25, st25⟩ := getF X0 hx hZ hown (host := "") (Or.inl (ww hw 16 rfl)) Via.refl e0 P2 (g := (mkF m 2 (Sh7 a1 x2) [(.ref a1), (.ref a1)])) rfl rfl (hb hby d3_2)
  refine GoW.sg (mkF m 5 (Sh7 a1 x2) [(.int 0), (.ref a1)]) (fun t k => st25 t k) ?_
  obtain ⟨T26, h26, X26, e26, W26, st26⟩ := putF X25 hx hZ hown (host := "") (Or.inl (ww hw 18 rfl)) Via.refl e25 P3 P0 (Or.inl (ww hw 19 rfl)) (ww hw 1 rfl) (ty := .boolean) (by decide) rfl rfl (g := (mkF m 5 (Sh7 a1 x2) [(.int 0), (.ref a1)])) rfl rfl (hb hby d3_5)
  have N26 := Fr.snoc X26 N0 g_a1
  have Exa_a1_26 : Exa Z h26 a1 "com/example/spindle/spindle/SpinRule" := P0.wr W26
  have Fld_a1_answeredShare_26 : Fld Z h26 a1 "com/example/spindle/spindle/SpinRule" "answeredShare" "D" (.double (4607182418800017408 : UInt64)) := P1.other W26 (Or.inr (slot_ne (t := .double) (t' := .boolean) (Or.inl (ww hw 10 rfl)) (Or.inl (ww hw 19 rfl)) (by decide) (by decide) (by decide)))
  have Fld_a1_handedOn_26 : Fld Z h26 a1 "com/example/spindle/spindle/SpinRule" "handedOn" "Z" (.int (0 : Int32)) := P2.other W26 (Or.inr (slot_ne (t := .boolean) (t' := .boolean) (Or.inl (ww hw 17 rfl)) (Or.inl (ww hw 19 rfl)) (by decide) (by decide) (by decide)))
  have Keep_26 : Keep h0 h26 [a1] := (Keep.refl h0 [a1]).wr W26 (Or.inl (List.mem_of_getElem? (i := 0) rfl))
  have Fld_a1_awaitsAnswer_26 : Fld Z h26 a1 "com/example/spindle/spindle/SpinRule" "awaitsAnswer" "Z" (.int (0 : Int32)) := P3.same W26
  refine GoW.sg (mkF m 8 (Sh7 a1 x2) []) (fun t k => st26 t k) ?_
  refine GoW.sg (mkF m 9 (Sh7 a1 x2) [(.ref a1)]) (fun t k => XS.aloadN X26.here hx rfl (hb hby d3_8) rfl rfl k) ?_
  refine GoW.sg (mkF m 10 (Sh7 a1 x2) [(.int 0), (.ref a1)]) (fun t k => XS.iconst X26.here hx rfl (hb hby d3_9) k) ?_
  obtain ⟨T27, h27, X27, e27, W27, st27⟩ := putF X26 hx hZ hown (host := "") (Or.inl (ww hw 16 rfl)) Via.refl e26 Fld_a1_handedOn_26 Exa_a1_26 (Or.inl (ww hw 17 rfl)) (ww hw 1 rfl) (ty := .boolean) (by decide) rfl rfl (g := (mkF m 10 (Sh7 a1 x2) [(.int 0), (.ref a1)])) rfl rfl (hb hby d3_10)
  have N27 := Fr.snoc X27 N26 g_a1
  have Exa_a1_27 : Exa Z h27 a1 "com/example/spindle/spindle/SpinRule" := Exa_a1_26.wr W27
  have Fld_a1_answeredShare_27 : Fld Z h27 a1 "com/example/spindle/spindle/SpinRule" "answeredShare" "D" (.double (4607182418800017408 : UInt64)) := Fld_a1_answeredShare_26.other W27 (Or.inr (slot_ne (t := .double) (t' := .boolean) (Or.inl (ww hw 10 rfl)) (Or.inl (ww hw 17 rfl)) (by decide) (by decide) (by decide)))
  have Fld_a1_awaitsAnswer_27 : Fld Z h27 a1 "com/example/spindle/spindle/SpinRule" "awaitsAnswer" "Z" (.int (0 : Int32)) := Fld_a1_awaitsAnswer_26.other W27 (Or.inr (slot_ne (t := .boolean) (t' := .boolean) (Or.inl (ww hw 19 rfl)) (Or.inl (ww hw 17 rfl)) (by decide) (by decide) (by decide)))
  have Keep_27 : Keep h0 h27 [a1] := Keep_26.wr W27 (Or.inl (List.mem_of_getElem? (i := 0) rfl))
  have Fld_a1_handedOn_27 : Fld Z h27 a1 "com/example/spindle/spindle/SpinRule" "handedOn" "Z" (.int (0 : Int32)) := Fld_a1_handedOn_26.same W27
  refine GoW.sg (mkF m 13 (Sh7 a1 x2) []) (fun t k => st27 t k) ?_
  refine GoW.sg (mkF m 14 (Sh7 a1 x2) [(.long x2)]) (fun t k => XS.lloadN X27.here hx rfl (hb hby d3_13) rfl k) ?_
  refine GoW.sg (mkF m 17 (Sh7 a1 x2) [(.long 20000), (.long x2)]) (fun t k => X27.ldc2Long hx hown (mvT hZ (ww hw 20 rfl)) (g := (mkF m 14 (Sh7 a1 x2) [(.long x2)])) rfl (hb hby d3_14) t k) ?_
  refine GoW.sg (mkF m 18 (Sh7 a1 x2) [(.int (lcmpW x2 (20000 : Int64)))]) (fun t k => XS.lcmp X27.here hx rfl (hb hby d3_17) rfl k) ?_
  refine GoW.sg (mkF m 23 (Sh7 a1 x2) []) (fun t k => XS.ifYes X27.here hx rfl (pc0 := 18) (pc' := 23) rfl (hb hby d3_18) rfl ((if0 _ _).trans (tlt ((lw_gt _ _).mpr u0)).2.2.1) (by decide) (by decide) k) ?_
  refine GoW.sg (mkF m 24 (Sh7 a1 x2) [(.ref a1)]) (fun t k => XS.aloadN X27.here hx rfl (hb hby d3_23) rfl rfl k) ?_
  obtain ⟨T28, X28, e28, st28⟩ := getF X27 hx hZ hown (host := "") (Or.inl (ww hw 18 rfl)) Via.refl e27 Fld_a1_awaitsAnswer_27 (g := (mkF m 24 (Sh7 a1 x2) [(.ref a1)])) rfl rfl (hb hby d3_24)
  refine GoW.sg (mkF m 27 (Sh7 a1 x2) [(.int 0)]) (fun t k => st28 t k) ?_
  refine GoW.sg (mkF m 47 (Sh7 a1 x2) []) (fun t k => XS.ifYes X28.here hx rfl (pc0 := 27) (pc' := 47) rfl (hb hby d3_27) rfl (by decide) (by decide) (by decide) k) ?_
  refine GoW.sg (mkF m 48 (Sh7 a1 x2) [(.long 0)]) (fun t k => XS.lconst X28.here hx rfl (hb hby d3_47) k) ?_
  refine GoW.retL X28 hx Bd.returns (hb hby d3_48) Bd.notSynchronized ?_ (by decide) (by decide)
  rw [e28]
  exact ⟨rfl, N27, Keep_27, Exa_a1_27, Fld_a1_answeredShare_27, Fld_a1_handedOn_27, Fld_a1_awaitsAnswer_27⟩
def Q4_3 (Z : State) (a1 : Addr) (h0 : Heap) (n0 : Nat) (v : Option Value) (h : Heap) (L : List Loc) : Prop := v = some (.int (0 : Int32)) ∧ Fr n0 L ∧ (h = h0)
theorem ef4_rm4_3 (m : MethodId) (a1 : Addr) : entryFrame m #[(.ref a1), (.long (0 : Int64))] 3 = (mkF m 0 #[.val (.ref a1), .val (.long 0), .second] []) := by first | (simp [entryFrame, mkF, argsToLocals, Value.category, maxLocals]; done) | rfl
set_option maxRecDepth 65536 in
set_option maxHeartbeats 40000000 in
theorem rm4_3 (l : Launch) (Z : State) (a0 : Array Value) (hw : ∀ d ∈ tables_1, d.before a0 Z = true) (ws : List Jvm.Cond) (a1 : Addr)  (h0 : Heap) (n0 : Nat) (P0 : Exa Z h0 a1 "com/example/spindle/spindle/SpinRule") (P1 : Fld Z h0 a1 "com/example/spindle/spindle/SpinRule" "answeredShare" "D" (.double (4607182418800017408 : UInt64))) (P2 : Fld Z h0 a1 "com/example/spindle/spindle/SpinRule" "handedOn" "Z" (.int (0 : Int32))) (P3 : Fld Z h0 a1 "com/example/spindle/spindle/SpinRule" "awaitsAnswer" "Z" (.int (0 : Int32)))     :
    MetFree l (⟨"com/example/spindle/spindle/SpinRule", "timesWait", "(J)Z"⟩ : MethodName) (head1 (Jvm.Cond.code (⟨"com/example/spindle/spindle/SpinRule", "timesWait", "(J)Z"⟩ : MethodName) prog_40_method_4_code 3 (some .boolean) :: ws) ({ frames := 0, cells := 0, slots := 0, locals := 0 } : Room)) (fun a U => a = #[(.ref a1), (.long (0 : Int64))] ∧ Z.Warmed39 U.vm ∧ U.heap = h0) (fun _ _ _ _ _ => True) (fun _ U o U' => ∃ v L, o = .returned v ∧ (Q4_3 Z a1 h0 n0) v U'.heap L ∧ FrameEnd U o U' L 0 0) := by
  refine MetFree.of_bodySF (plainFor_of_name pn_com_example_spindle_spindle_SpinRule) hisR ?_
  intro p e s m args below meth c s₁ Bd hml0 hP hK
  obtain ⟨rfl, hZ, hh⟩ := hP
  have hx := Bd.exec
  have hby := Bd.bytes
  have hml : c.maxLocals = 3 := hml0
  have hown : s.vm.findClass "com/example/spindle/spindle/SpinRule" = some m.cls := findClass_of_methodNamed Bd.named
  have hnm := (name_of_methodNamed Bd.named Bd.method).1
  have X0 : Stand p l e ({ frames := 0, cells := 0, slots := 0, locals := 0 } : Room) s m #[(.ref a1), (.long (0 : Int64))] below meth c s₁ [] 0 0 := Stand.of_body Bd
  have e0 : s₁.heap = h0 := by rw [← hh, Bd.state]; rfl
  have N0 := Fr.nil n0
  refine GoW.mk ?_
  refine GoW.st (fun t k => castTop (ef4_rm4_3 m a1) k) ?_
  show GoW p e below s (Q4_3 Z a1 h0 n0) 0 0 (s₁.setTop (mkF m 0 (Sh7 a1 0) []))
  refine GoW.sg (mkF m 1 (Sh7 a1 0) [(.long 0)]) (fun t k => XS.lloadN X0.here hx rfl (hb hby d4_0) rfl k) ?_
  refine GoW.sg (mkF m 2 (Sh7 a1 0) [(.long 0), (.long 0)]) (fun t k => XS.lconst X0.here hx rfl (hb hby d4_1) k) ?_
  refine GoW.sg (mkF m 3 (Sh7 a1 0) [(.int (lcmpW (0 : Int64) (0 : Int64)))]) (fun t k => XS.lcmp X0.here hx rfl (hb hby d4_2) rfl k) ?_
  refine GoW.sg (mkF m 6 (Sh7 a1 0) []) (fun t k => XS.ifNo X0.here hx rfl (hb hby d4_3) rfl (by decide) k) ?_
  refine GoW.sg (mkF m 7 (Sh7 a1 0) [(.ref a1)]) (fun t k => XS.aloadN X0.here hx rfl (hb hby d4_6) rfl rfl k) ?_
  obtain ⟨T31, X31, e31, st31⟩ := getF X0 hx hZ hown (host := "") (Or.inl (ww hw 18 rfl)) Via.refl e0 P3 (g := (mkF m 7 (Sh7 a1 0) [(.ref a1)])) rfl rfl (hb hby d4_7)
  refine GoW.sg (mkF m 10 (Sh7 a1 0) [(.int 0)]) (fun t k => st31 t k) ?_
  refine GoW.sg (mkF m 17 (Sh7 a1 0) []) (fun t k => XS.ifYes X31.here hx rfl (pc0 := 10) (pc' := 17) rfl (hb hby d4_10) rfl (by decide) (by decide) (by decide) k) ?_
  refine GoW.sg (mkF m 18 (Sh7 a1 0) [(.int 0)]) (fun t k => XS.iconst X31.here hx rfl (hb hby d4_17) k) ?_
  refine GoW.retN X31 hx (t := .boolean) Bd.returns (by simp) (hb hby d4_18) Bd.notSynchronized ?_ (by decide) (by decide)
  rw [e31]
  exact ⟨rfl, N0, rfl⟩
def Q3_4 (Z : State) (a1 : Addr) (x2 : Int64) (h0 : Heap) (n0 : Nat) (v : Option Value) (h : Heap) (L : List Loc) : Prop := v = some (.long x2) ∧ Fr n0 L ∧ (Keep h0 h [a1]) ∧ (Exa Z h a1 "com/example/spindle/spindle/SpinRule") ∧ (Fld Z h a1 "com/example/spindle/spindle/SpinRule" "answeredShare" "D" (.double (4607182418800017408 : UInt64))) ∧ (Fld Z h a1 "com/example/spindle/spindle/SpinRule" "handedOn" "Z" (.int (0 : Int32))) ∧ (Fld Z h a1 "com/example/spindle/spindle/SpinRule" "awaitsAnswer" "Z" (.int (0 : Int32)))
theorem ef3_rm3_4 (m : MethodId) (a1 : Addr) (x2 : Int64) : entryFrame m #[(.ref a1), (.long x2)] 3 = (mkF m 0 #[.val (.ref a1), .val (.long x2), .second] []) := by first | (simp [entryFrame, mkF, argsToLocals, Value.category, maxLocals]; done) | rfl
set_option maxRecDepth 65536 in
set_option maxHeartbeats 40000000 in
theorem rm3_4 (l : Launch) (Z : State) (a0 : Array Value) (hw : ∀ d ∈ tables_1, d.before a0 Z = true) (ws : List Jvm.Cond) (a1 : Addr) (x2 : Int64)  (h0 : Heap) (n0 : Nat) (P0 : Exa Z h0 a1 "com/example/spindle/spindle/SpinRule") (P1 : Fld Z h0 a1 "com/example/spindle/spindle/SpinRule" "answeredShare" "D" (.double (4607182418800017408 : UInt64))) (P2 : Fld Z h0 a1 "com/example/spindle/spindle/SpinRule" "handedOn" "Z" (.int (0 : Int32))) (P3 : Fld Z h0 a1 "com/example/spindle/spindle/SpinRule" "awaitsAnswer" "Z" (.int (0 : Int32))) (g_a1 : n0 ≤ a1)  (u0 : ¬ ((20000 : Int64) < x2))  :
    MetFree l (⟨"com/example/spindle/spindle/SpinRule", "spinNanos", "(J)J"⟩ : MethodName) (head1 (Jvm.Cond.code (⟨"com/example/spindle/spindle/SpinRule", "spinNanos", "(J)J"⟩ : MethodName) prog_40_method_3_code 3 (some .long) :: ws) ({ frames := 0, cells := 0, slots := 0, locals := 0 } : Room)) (fun a U => a = #[(.ref a1), (.long x2)] ∧ Z.Warmed39 U.vm ∧ U.heap = h0) (fun _ _ _ _ _ => True) (fun _ U o U' => ∃ v L, o = .returned v ∧ (Q3_4 Z a1 x2 h0 n0) v U'.heap L ∧ FrameEnd U o U' L 0 0) := by
  refine MetFree.of_bodySF (plainFor_of_name pn_com_example_spindle_spindle_SpinRule) hisR ?_
  intro p e s m args below meth c s₁ Bd hml0 hP hK
  obtain ⟨rfl, hZ, hh⟩ := hP
  have hx := Bd.exec
  have hby := Bd.bytes
  have hml : c.maxLocals = 3 := hml0
  have hown : s.vm.findClass "com/example/spindle/spindle/SpinRule" = some m.cls := findClass_of_methodNamed Bd.named
  have hnm := (name_of_methodNamed Bd.named Bd.method).1
  have X0 : Stand p l e ({ frames := 0, cells := 0, slots := 0, locals := 0 } : Room) s m #[(.ref a1), (.long x2)] below meth c s₁ [] 0 0 := Stand.of_body Bd
  have e0 : s₁.heap = h0 := by rw [← hh, Bd.state]; rfl
  have N0 := Fr.nil n0
  refine GoW.mk ?_
  refine GoW.st (fun t k => castTop (ef3_rm3_4 m a1 x2) k) ?_
  show GoW p e below s (Q3_4 Z a1 x2 h0 n0) 0 0 (s₁.setTop (mkF m 0 (Sh7 a1 x2) []))
  refine GoW.sg (mkF m 1 (Sh7 a1 x2) [(.ref a1)]) (fun t k => XS.aloadN X0.here hx rfl (hb hby d3_0) rfl rfl k) ?_
  refine GoW.sg (mkF m 2 (Sh7 a1 x2) [(.ref a1), (.ref a1)]) (fun t k => XS.aloadN X0.here hx rfl (hb hby d3_1) rfl rfl k) ?_
  obtain ⟨T39, X39, e39, st39⟩ := getF X0 hx hZ hown (host := "") (Or.inl (ww hw 16 rfl)) Via.refl e0 P2 (g := (mkF m 2 (Sh7 a1 x2) [(.ref a1), (.ref a1)])) rfl rfl (hb hby d3_2)
  refine GoW.sg (mkF m 5 (Sh7 a1 x2) [(.int 0), (.ref a1)]) (fun t k => st39 t k) ?_
  obtain ⟨T40, h40, X40, e40, W40, st40⟩ := putF X39 hx hZ hown (host := "") (Or.inl (ww hw 18 rfl)) Via.refl e39 P3 P0 (Or.inl (ww hw 19 rfl)) (ww hw 1 rfl) (ty := .boolean) (by decide) rfl rfl (g := (mkF m 5 (Sh7 a1 x2) [(.int 0), (.ref a1)])) rfl rfl (hb hby d3_5)
  have N40 := Fr.snoc X40 N0 g_a1
  have Exa_a1_40 : Exa Z h40 a1 "com/example/spindle/spindle/SpinRule" := P0.wr W40
  have Fld_a1_answeredShare_40 : Fld Z h40 a1 "com/example/spindle/spindle/SpinRule" "answeredShare" "D" (.double (4607182418800017408 : UInt64)) := P1.other W40 (Or.inr (slot_ne (t := .double) (t' := .boolean) (Or.inl (ww hw 10 rfl)) (Or.inl (ww hw 19 rfl)) (by decide) (by decide) (by decide)))
  have Fld_a1_handedOn_40 : Fld Z h40 a1 "com/example/spindle/spindle/SpinRule" "handedOn" "Z" (.int (0 : Int32)) := P2.other W40 (Or.inr (slot_ne (t := .boolean) (t' := .boolean) (Or.inl (ww hw 17 rfl)) (Or.inl (ww hw 19 rfl)) (by decide) (by decide) (by decide)))
  have Keep_40 : Keep h0 h40 [a1] := (Keep.refl h0 [a1]).wr W40 (Or.inl (List.mem_of_getElem? (i := 0) rfl))
  have Fld_a1_awaitsAnswer_40 : Fld Z h40 a1 "com/example/spindle/spindle/SpinRule" "awaitsAnswer" "Z" (.int (0 : Int32)) := P3.same W40
  refine GoW.sg (mkF m 8 (Sh7 a1 x2) []) (fun t k => st40 t k) ?_
  refine GoW.sg (mkF m 9 (Sh7 a1 x2) [(.ref a1)]) (fun t k => XS.aloadN X40.here hx rfl (hb hby d3_8) rfl rfl k) ?_
  refine GoW.sg (mkF m 10 (Sh7 a1 x2) [(.int 0), (.ref a1)]) (fun t k => XS.iconst X40.here hx rfl (hb hby d3_9) k) ?_
  obtain ⟨T41, h41, X41, e41, W41, st41⟩ := putF X40 hx hZ hown (host := "") (Or.inl (ww hw 16 rfl)) Via.refl e40 Fld_a1_handedOn_40 Exa_a1_40 (Or.inl (ww hw 17 rfl)) (ww hw 1 rfl) (ty := .boolean) (by decide) rfl rfl (g := (mkF m 10 (Sh7 a1 x2) [(.int 0), (.ref a1)])) rfl rfl (hb hby d3_10)
  have N41 := Fr.snoc X41 N40 g_a1
  have Exa_a1_41 : Exa Z h41 a1 "com/example/spindle/spindle/SpinRule" := Exa_a1_40.wr W41
  have Fld_a1_answeredShare_41 : Fld Z h41 a1 "com/example/spindle/spindle/SpinRule" "answeredShare" "D" (.double (4607182418800017408 : UInt64)) := Fld_a1_answeredShare_40.other W41 (Or.inr (slot_ne (t := .double) (t' := .boolean) (Or.inl (ww hw 10 rfl)) (Or.inl (ww hw 17 rfl)) (by decide) (by decide) (by decide)))
  have Fld_a1_awaitsAnswer_41 : Fld Z h41 a1 "com/example/spindle/spindle/SpinRule" "awaitsAnswer" "Z" (.int (0 : Int32)) := Fld_a1_awaitsAnswer_40.other W41 (Or.inr (slot_ne (t := .boolean) (t' := .boolean) (Or.inl (ww hw 19 rfl)) (Or.inl (ww hw 17 rfl)) (by decide) (by decide) (by decide)))
  have Keep_41 : Keep h0 h41 [a1] := Keep_40.wr W41 (Or.inl (List.mem_of_getElem? (i := 0) rfl))
  have Fld_a1_handedOn_41 : Fld Z h41 a1 "com/example/spindle/spindle/SpinRule" "handedOn" "Z" (.int (0 : Int32)) := Fld_a1_handedOn_40.same W41
  refine GoW.sg (mkF m 13 (Sh7 a1 x2) []) (fun t k => st41 t k) ?_
  refine GoW.sg (mkF m 14 (Sh7 a1 x2) [(.long x2)]) (fun t k => XS.lloadN X41.here hx rfl (hb hby d3_13) rfl k) ?_
  refine GoW.sg (mkF m 17 (Sh7 a1 x2) [(.long 20000), (.long x2)]) (fun t k => X41.ldc2Long hx hown (mvT hZ (ww hw 20 rfl)) (g := (mkF m 14 (Sh7 a1 x2) [(.long x2)])) rfl (hb hby d3_14) t k) ?_
  refine GoW.sg (mkF m 18 (Sh7 a1 x2) [(.int (lcmpW x2 (20000 : Int64)))]) (fun t k => XS.lcmp X41.here hx rfl (hb hby d3_17) rfl k) ?_
  refine GoW.sg (mkF m 21 (Sh7 a1 x2) []) (fun t k => XS.ifNo X41.here hx rfl (hb hby d3_18) rfl ((if0 _ _).trans (flt (mt (lw_gt _ _).mp u0)).2.2.1) k) ?_
  refine GoW.sg (mkF m 22 (Sh7 a1 x2) [(.long x2)]) (fun t k => XS.lloadN X41.here hx rfl (hb hby d3_21) rfl k) ?_
  refine GoW.retL X41 hx Bd.returns (hb hby d3_22) Bd.notSynchronized ?_ (by decide) (by decide)
  rw [e41]
  exact ⟨rfl, N41, Keep_41, Exa_a1_41, Fld_a1_answeredShare_41, Fld_a1_handedOn_41, Fld_a1_awaitsAnswer_41⟩
def Q5_5 (Z : State) (a1 : Addr) (h0 : Heap) (n0 : Nat) (v : Option Value) (h : Heap) (L : List Loc) : Prop := v = none ∧ Fr n0 L ∧ (Keep h0 h [a1]) ∧ (Exa Z h a1 "com/example/spindle/spindle/SpinRule") ∧ (Fld Z h a1 "com/example/spindle/spindle/SpinRule" "answeredShare" "D" (.double (4607182418800017408 : UInt64))) ∧ (Fld Z h a1 "com/example/spindle/spindle/SpinRule" "handedOn" "Z" (.int (1 : Int32))) ∧ (Fld Z h a1 "com/example/spindle/spindle/SpinRule" "awaitsAnswer" "Z" (.int (0 : Int32)))
theorem ef5_rm5_5 (m : MethodId) (a1 : Addr) : entryFrame m #[(.ref a1)] 1 = (mkF m 0 #[.val (.ref a1)] []) := by first | (simp [entryFrame, mkF, argsToLocals, Value.category, maxLocals]; done) | rfl
set_option maxRecDepth 65536 in
set_option maxHeartbeats 40000000 in
theorem rm5_5 (l : Launch) (Z : State) (a0 : Array Value) (hw : ∀ d ∈ tables_1, d.before a0 Z = true) (ws : List Jvm.Cond) (a1 : Addr)  (h0 : Heap) (n0 : Nat) (P0 : Exa Z h0 a1 "com/example/spindle/spindle/SpinRule") (P1 : Fld Z h0 a1 "com/example/spindle/spindle/SpinRule" "answeredShare" "D" (.double (4607182418800017408 : UInt64))) (P2 : Fld Z h0 a1 "com/example/spindle/spindle/SpinRule" "handedOn" "Z" (.int (0 : Int32))) (P3 : Fld Z h0 a1 "com/example/spindle/spindle/SpinRule" "awaitsAnswer" "Z" (.int (0 : Int32))) (g_a1 : n0 ≤ a1)    :
    MetFree l (⟨"com/example/spindle/spindle/SpinRule", "handedOn", "()V"⟩ : MethodName) (head1 (Jvm.Cond.code (⟨"com/example/spindle/spindle/SpinRule", "handedOn", "()V"⟩ : MethodName) prog_40_method_2_code 1 none :: ws) ({ frames := 0, cells := 0, slots := 0, locals := 0 } : Room)) (fun a U => a = #[(.ref a1)] ∧ Z.Warmed39 U.vm ∧ U.heap = h0) (fun _ _ _ _ _ => True) (fun _ U o U' => ∃ v L, o = .returned v ∧ (Q5_5 Z a1 h0 n0) v U'.heap L ∧ FrameEnd U o U' L 0 0) := by
  refine MetFree.of_bodySF (plainFor_of_name pn_com_example_spindle_spindle_SpinRule) hisR ?_
  intro p e s m args below meth c s₁ Bd hml0 hP hK
  obtain ⟨rfl, hZ, hh⟩ := hP
  have hx := Bd.exec
  have hby := Bd.bytes
  have hml : c.maxLocals = 1 := hml0
  have hown : s.vm.findClass "com/example/spindle/spindle/SpinRule" = some m.cls := findClass_of_methodNamed Bd.named
  have hnm := (name_of_methodNamed Bd.named Bd.method).1
  have X0 : Stand p l e ({ frames := 0, cells := 0, slots := 0, locals := 0 } : Room) s m #[(.ref a1)] below meth c s₁ [] 0 0 := Stand.of_body Bd
  have e0 : s₁.heap = h0 := by rw [← hh, Bd.state]; rfl
  have N0 := Fr.nil n0
  refine GoW.mk ?_
  refine GoW.st (fun t k => castTop (ef5_rm5_5 m a1) k) ?_
  show GoW p e below s (Q5_5 Z a1 h0 n0) 0 0 (s₁.setTop (mkF m 0 #[.val (.ref a1)] []))
  refine GoW.sg (mkF m 1 #[.val (.ref a1)] [(.ref a1)]) (fun t k => XS.aloadN X0.here hx rfl (hb hby d5_0) rfl rfl k) ?_
  refine GoW.sg (mkF m 2 #[.val (.ref a1)] [(.int 1), (.ref a1)]) (fun t k => XS.iconst X0.here hx rfl (hb hby d5_1) k) ?_
  obtain ⟨T52, h52, X52, e52, W52, st52⟩ := putF X0 hx hZ hown (host := "") (Or.inl (ww hw 16 rfl)) Via.refl e0 P2 P0 (Or.inl (ww hw 17 rfl)) (ww hw 1 rfl) (ty := .boolean) (by decide) rfl rfl (g := (mkF m 2 #[.val (.ref a1)] [(.int 1), (.ref a1)])) rfl rfl (hb hby d5_2)
  have N52 := Fr.snoc X52 N0 g_a1
  have Exa_a1_52 : Exa Z h52 a1 "com/example/spindle/spindle/SpinRule" := P0.wr W52
  have Fld_a1_answeredShare_52 : Fld Z h52 a1 "com/example/spindle/spindle/SpinRule" "answeredShare" "D" (.double (4607182418800017408 : UInt64)) := P1.other W52 (Or.inr (slot_ne (t := .double) (t' := .boolean) (Or.inl (ww hw 10 rfl)) (Or.inl (ww hw 17 rfl)) (by decide) (by decide) (by decide)))
  have Fld_a1_awaitsAnswer_52 : Fld Z h52 a1 "com/example/spindle/spindle/SpinRule" "awaitsAnswer" "Z" (.int (0 : Int32)) := P3.other W52 (Or.inr (slot_ne (t := .boolean) (t' := .boolean) (Or.inl (ww hw 19 rfl)) (Or.inl (ww hw 17 rfl)) (by decide) (by decide) (by decide)))
  have Keep_52 : Keep h0 h52 [a1] := (Keep.refl h0 [a1]).wr W52 (Or.inl (List.mem_of_getElem? (i := 0) rfl))
  have Fld_a1_handedOn_52 : Fld Z h52 a1 "com/example/spindle/spindle/SpinRule" "handedOn" "Z" (.int (1 : Int32)) := P2.same W52
  refine GoW.sg (mkF m 5 #[.val (.ref a1)] []) (fun t k => st52 t k) ?_
  refine GoW.retV X52 hx Bd.returns (hb hby d5_5) Bd.notSynchronized ?_ (by decide) (by decide)
  rw [e52]
  exact ⟨rfl, N52, Keep_52, Exa_a1_52, Fld_a1_answeredShare_52, Fld_a1_handedOn_52, Fld_a1_awaitsAnswer_52⟩
def Q3_6 (Z : State) (a1 : Addr) (x2 : Int64) (h0 : Heap) (n0 : Nat) (v : Option Value) (h : Heap) (L : List Loc) : Prop := v = some (.long (20000 : Int64)) ∧ Fr n0 L ∧ (Keep h0 h [a1]) ∧ (Exa Z h a1 "com/example/spindle/spindle/SpinRule") ∧ (Fld Z h a1 "com/example/spindle/spindle/SpinRule" "answeredShare" "D" (.double (4607182418800017408 : UInt64))) ∧ (Fld Z h a1 "com/example/spindle/spindle/SpinRule" "handedOn" "Z" (.int (0 : Int32))) ∧ (Fld Z h a1 "com/example/spindle/spindle/SpinRule" "awaitsAnswer" "Z" (.int (1 : Int32)))
theorem ef3_rm3_6 (m : MethodId) (a1 : Addr) (x2 : Int64) : entryFrame m #[(.ref a1), (.long x2)] 3 = (mkF m 0 #[.val (.ref a1), .val (.long x2), .second] []) := by first | (simp [entryFrame, mkF, argsToLocals, Value.category, maxLocals]; done) | rfl
set_option maxRecDepth 65536 in
set_option maxHeartbeats 40000000 in
theorem rm3_6 (l : Launch) (Z : State) (a0 : Array Value) (hw : ∀ d ∈ tables_1, d.before a0 Z = true) (ws : List Jvm.Cond) (a1 : Addr) (x2 : Int64)  (h0 : Heap) (n0 : Nat) (P0 : Exa Z h0 a1 "com/example/spindle/spindle/SpinRule") (P1 : Fld Z h0 a1 "com/example/spindle/spindle/SpinRule" "answeredShare" "D" (.double (4607182418800017408 : UInt64))) (P2 : Fld Z h0 a1 "com/example/spindle/spindle/SpinRule" "handedOn" "Z" (.int (1 : Int32))) (P3 : Fld Z h0 a1 "com/example/spindle/spindle/SpinRule" "awaitsAnswer" "Z" (.int (0 : Int32))) (g_a1 : n0 ≤ a1)  (u0 : (20000 : Int64) < x2)  :
    MetFree l (⟨"com/example/spindle/spindle/SpinRule", "spinNanos", "(J)J"⟩ : MethodName) (head1 (Jvm.Cond.code (⟨"com/example/spindle/spindle/SpinRule", "spinNanos", "(J)J"⟩ : MethodName) prog_40_method_3_code 3 (some .long) :: ws) ({ frames := 0, cells := 0, slots := 0, locals := 0 } : Room)) (fun a U => a = #[(.ref a1), (.long x2)] ∧ Z.Warmed39 U.vm ∧ U.heap = h0) (fun _ _ _ _ _ => True) (fun _ U o U' => ∃ v L, o = .returned v ∧ (Q3_6 Z a1 x2 h0 n0) v U'.heap L ∧ FrameEnd U o U' L 0 0) := by
  refine MetFree.of_bodySF (plainFor_of_name pn_com_example_spindle_spindle_SpinRule) hisR ?_
  intro p e s m args below meth c s₁ Bd hml0 hP hK
  obtain ⟨rfl, hZ, hh⟩ := hP
  have hx := Bd.exec
  have hby := Bd.bytes
  have hml : c.maxLocals = 3 := hml0
  have hown : s.vm.findClass "com/example/spindle/spindle/SpinRule" = some m.cls := findClass_of_methodNamed Bd.named
  have hnm := (name_of_methodNamed Bd.named Bd.method).1
  have X0 : Stand p l e ({ frames := 0, cells := 0, slots := 0, locals := 0 } : Room) s m #[(.ref a1), (.long x2)] below meth c s₁ [] 0 0 := Stand.of_body Bd
  have e0 : s₁.heap = h0 := by rw [← hh, Bd.state]; rfl
  have N0 := Fr.nil n0
  refine GoW.mk ?_
  refine GoW.st (fun t k => castTop (ef3_rm3_6 m a1 x2) k) ?_
  show GoW p e below s (Q3_6 Z a1 x2 h0 n0) 0 0 (s₁.setTop (mkF m 0 (Sh7 a1 x2) []))
  refine GoW.sg (mkF m 1 (Sh7 a1 x2) [(.ref a1)]) (fun t k => XS.aloadN X0.here hx rfl (hb hby d3_0) rfl rfl k) ?_
  refine GoW.sg (mkF m 2 (Sh7 a1 x2) [(.ref a1), (.ref a1)]) (fun t k => XS.aloadN X0.here hx rfl (hb hby d3_1) rfl rfl k) ?_
  obtain ⟨T60, X60, e60, st60⟩ := getF X0 hx hZ hown (host := "") (Or.inl (ww hw 16 rfl)) Via.refl e0 P2 (g := (mkF m 2 (Sh7 a1 x2) [(.ref a1), (.ref a1)])) rfl rfl (hb hby d3_2)
  refine GoW.sg (mkF m 5 (Sh7 a1 x2) [(.int 1), (.ref a1)]) (fun t k => st60 t k) ?_
  obtain ⟨T61, h61, X61, e61, W61, st61⟩ := putF X60 hx hZ hown (host := "") (Or.inl (ww hw 18 rfl)) Via.refl e60 P3 P0 (Or.inl (ww hw 19 rfl)) (ww hw 1 rfl) (ty := .boolean) (by decide) rfl rfl (g := (mkF m 5 (Sh7 a1 x2) [(.int 1), (.ref a1)])) rfl rfl (hb hby d3_5)
  have N61 := Fr.snoc X61 N0 g_a1
  have Exa_a1_61 : Exa Z h61 a1 "com/example/spindle/spindle/SpinRule" := P0.wr W61
  have Fld_a1_answeredShare_61 : Fld Z h61 a1 "com/example/spindle/spindle/SpinRule" "answeredShare" "D" (.double (4607182418800017408 : UInt64)) := P1.other W61 (Or.inr (slot_ne (t := .double) (t' := .boolean) (Or.inl (ww hw 10 rfl)) (Or.inl (ww hw 19 rfl)) (by decide) (by decide) (by decide)))
  have Fld_a1_handedOn_61 : Fld Z h61 a1 "com/example/spindle/spindle/SpinRule" "handedOn" "Z" (.int (1 : Int32)) := P2.other W61 (Or.inr (slot_ne (t := .boolean) (t' := .boolean) (Or.inl (ww hw 17 rfl)) (Or.inl (ww hw 19 rfl)) (by decide) (by decide) (by decide)))
  have Keep_61 : Keep h0 h61 [a1] := (Keep.refl h0 [a1]).wr W61 (Or.inl (List.mem_of_getElem? (i := 0) rfl))
  have Fld_a1_awaitsAnswer_61 : Fld Z h61 a1 "com/example/spindle/spindle/SpinRule" "awaitsAnswer" "Z" (.int (1 : Int32)) := P3.same W61
  refine GoW.sg (mkF m 8 (Sh7 a1 x2) []) (fun t k => st61 t k) ?_
  refine GoW.sg (mkF m 9 (Sh7 a1 x2) [(.ref a1)]) (fun t k => XS.aloadN X61.here hx rfl (hb hby d3_8) rfl rfl k) ?_
  refine GoW.sg (mkF m 10 (Sh7 a1 x2) [(.int 0), (.ref a1)]) (fun t k => XS.iconst X61.here hx rfl (hb hby d3_9) k) ?_
  obtain ⟨T62, h62, X62, e62, W62, st62⟩ := putF X61 hx hZ hown (host := "") (Or.inl (ww hw 16 rfl)) Via.refl e61 Fld_a1_handedOn_61 Exa_a1_61 (Or.inl (ww hw 17 rfl)) (ww hw 1 rfl) (ty := .boolean) (by decide) rfl rfl (g := (mkF m 10 (Sh7 a1 x2) [(.int 0), (.ref a1)])) rfl rfl (hb hby d3_10)
  have N62 := Fr.snoc X62 N61 g_a1
  have Exa_a1_62 : Exa Z h62 a1 "com/example/spindle/spindle/SpinRule" := Exa_a1_61.wr W62
  have Fld_a1_answeredShare_62 : Fld Z h62 a1 "com/example/spindle/spindle/SpinRule" "answeredShare" "D" (.double (4607182418800017408 : UInt64)) := Fld_a1_answeredShare_61.other W62 (Or.inr (slot_ne (t := .double) (t' := .boolean) (Or.inl (ww hw 10 rfl)) (Or.inl (ww hw 17 rfl)) (by decide) (by decide) (by decide)))
  have Fld_a1_awaitsAnswer_62 : Fld Z h62 a1 "com/example/spindle/spindle/SpinRule" "awaitsAnswer" "Z" (.int (1 : Int32)) := Fld_a1_awaitsAnswer_61.other W62 (Or.inr (slot_ne (t := .boolean) (t' := .boolean) (Or.inl (ww hw 19 rfl)) (Or.inl (ww hw 17 rfl)) (by decide) (by decide) (by decide)))
  have Keep_62 : Keep h0 h62 [a1] := Keep_61.wr W62 (Or.inl (List.mem_of_getElem? (i := 0) rfl))
  have Fld_a1_handedOn_62 : Fld Z h62 a1 "com/example/spindle/spindle/SpinRule" "handedOn" "Z" (.int (0 : Int32)) := Fld_a1_handedOn_61.same W62
  refine GoW.sg (mkF m 13 (Sh7 a1 x2) []) (fun t k => st62 t k) ?_
  refine GoW.sg (mkF m 14 (Sh7 a1 x2) [(.long x2)]) (fun t k => XS.lloadN X62.here hx rfl (hb hby d3_13) rfl k) ?_
  refine GoW.sg (mkF m 17 (Sh7 a1 x2) [(.long 20000), (.long x2)]) (fun t k => X62.ldc2Long hx hown (mvT hZ (ww hw 20 rfl)) (g := (mkF m 14 (Sh7 a1 x2) [(.long x2)])) rfl (hb hby d3_14) t k) ?_
  refine GoW.sg (mkF m 18 (Sh7 a1 x2) [(.int (lcmpW x2 (20000 : Int64)))]) (fun t k => XS.lcmp X62.here hx rfl (hb hby d3_17) rfl k) ?_
  refine GoW.sg (mkF m 23 (Sh7 a1 x2) []) (fun t k => XS.ifYes X62.here hx rfl (pc0 := 18) (pc' := 23) rfl (hb hby d3_18) rfl ((if0 _ _).trans (tlt ((lw_gt _ _).mpr u0)).2.2.1) (by decide) (by decide) k) ?_
  refine GoW.sg (mkF m 24 (Sh7 a1 x2) [(.ref a1)]) (fun t k => XS.aloadN X62.here hx rfl (hb hby d3_23) rfl rfl k) ?_
  obtain ⟨T63, X63, e63, st63⟩ := getF X62 hx hZ hown (host := "") (Or.inl (ww hw 18 rfl)) Via.refl e62 Fld_a1_awaitsAnswer_62 (g := (mkF m 24 (Sh7 a1 x2) [(.ref a1)])) rfl rfl (hb hby d3_24)
  refine GoW.sg (mkF m 27 (Sh7 a1 x2) [(.int 1)]) (fun t k => st63 t k) ?_
  refine GoW.sg (mkF m 30 (Sh7 a1 x2) []) (fun t k => XS.ifNo X63.here hx rfl (hb hby d3_27) rfl (by decide) k) ?_
  refine GoW.sg (mkF m 31 (Sh7 a1 x2) [(.ref a1)]) (fun t k => XS.aloadN X63.here hx rfl (hb hby d3_30) rfl rfl k) ?_
  obtain ⟨T64, X64, e64, st64⟩ := getF X63 hx hZ hown (host := "") (Or.inl (ww hw 9 rfl)) Via.refl e63 Fld_a1_answeredShare_62 (g := (mkF m 31 (Sh7 a1 x2) [(.ref a1)])) rfl rfl (hb hby d3_31)
  refine GoW.sg (mkF m 34 (Sh7 a1 x2) [(.double 4607182418800017408)]) (fun t k => st64 t k) ?_
  refine GoW.sg (mkF m 37 (Sh7 a1 x2) [(.double 4598175219545276416), (.double 4607182418800017408)]) (fun t k => X64.ldc2DoubleC hx hown (mvT hZ (ww hw 33 rfl)) (g := (mkF m 34 (Sh7 a1 x2) [(.double 4607182418800017408)])) rfl (hb hby d3_34) t k) ?_
  refine GoW.sg (mkF m 38 (Sh7 a1 x2) [(.int 1)]) (fun t k => XS.dcmpS X64.here hx rfl (hb hby d3_37) rfl (v := (1 : Int32)) (by decide +kernel) k) ?_
  refine GoW.sg (mkF m 41 (Sh7 a1 x2) []) (fun t k => XS.ifNo X64.here hx rfl (hb hby d3_38) rfl (by decide) k) ?_
  refine GoW.sg (mkF m 44 (Sh7 a1 x2) [(.long 20000)]) (fun t k => X64.ldc2Long hx hown (mvT hZ (ww hw 20 rfl)) (g := (mkF m 41 (Sh7 a1 x2) [])) rfl (hb hby d3_41) t k) ?_
  refine GoW.sg (mkF m 48 (Sh7 a1 x2) [(.long 20000)]) (fun t k => XS.goto X64.here hx rfl (pc0 := 44) (pc' := 48) rfl (hb hby d3_44) (by decide) (by decide) k) ?_
  refine GoW.retL X64 hx Bd.returns (hb hby d3_48) Bd.notSynchronized ?_ (by decide) (by decide)
  rw [e64]
  exact ⟨rfl, N62, Keep_62, Exa_a1_62, Fld_a1_answeredShare_62, Fld_a1_handedOn_62, Fld_a1_awaitsAnswer_62⟩
def Q4_7 (Z : State) (a1 : Addr) (h0 : Heap) (n0 : Nat) (v : Option Value) (h : Heap) (L : List Loc) : Prop := v = some (.int (1 : Int32)) ∧ Fr n0 L ∧ (h = h0)
theorem ef4_rm4_7 (m : MethodId) (a1 : Addr) : entryFrame m #[(.ref a1), (.long (0 : Int64))] 3 = (mkF m 0 #[.val (.ref a1), .val (.long 0), .second] []) := by first | (simp [entryFrame, mkF, argsToLocals, Value.category, maxLocals]; done) | rfl
set_option maxRecDepth 65536 in
set_option maxHeartbeats 40000000 in
theorem rm4_7 (l : Launch) (Z : State) (a0 : Array Value) (hw : ∀ d ∈ tables_1, d.before a0 Z = true) (ws : List Jvm.Cond) (a1 : Addr)  (h0 : Heap) (n0 : Nat) (P0 : Exa Z h0 a1 "com/example/spindle/spindle/SpinRule") (P1 : Fld Z h0 a1 "com/example/spindle/spindle/SpinRule" "answeredShare" "D" (.double (4607182418800017408 : UInt64))) (P2 : Fld Z h0 a1 "com/example/spindle/spindle/SpinRule" "handedOn" "Z" (.int (0 : Int32))) (P3 : Fld Z h0 a1 "com/example/spindle/spindle/SpinRule" "awaitsAnswer" "Z" (.int (1 : Int32)))     :
    MetFree l (⟨"com/example/spindle/spindle/SpinRule", "timesWait", "(J)Z"⟩ : MethodName) (head1 (Jvm.Cond.code (⟨"com/example/spindle/spindle/SpinRule", "timesWait", "(J)Z"⟩ : MethodName) prog_40_method_4_code 3 (some .boolean) :: ws) ({ frames := 0, cells := 0, slots := 0, locals := 0 } : Room)) (fun a U => a = #[(.ref a1), (.long (0 : Int64))] ∧ Z.Warmed39 U.vm ∧ U.heap = h0) (fun _ _ _ _ _ => True) (fun _ U o U' => ∃ v L, o = .returned v ∧ (Q4_7 Z a1 h0 n0) v U'.heap L ∧ FrameEnd U o U' L 0 0) := by
  refine MetFree.of_bodySF (plainFor_of_name pn_com_example_spindle_spindle_SpinRule) hisR ?_
  intro p e s m args below meth c s₁ Bd hml0 hP hK
  obtain ⟨rfl, hZ, hh⟩ := hP
  have hx := Bd.exec
  have hby := Bd.bytes
  have hml : c.maxLocals = 3 := hml0
  have hown : s.vm.findClass "com/example/spindle/spindle/SpinRule" = some m.cls := findClass_of_methodNamed Bd.named
  have hnm := (name_of_methodNamed Bd.named Bd.method).1
  have X0 : Stand p l e ({ frames := 0, cells := 0, slots := 0, locals := 0 } : Room) s m #[(.ref a1), (.long (0 : Int64))] below meth c s₁ [] 0 0 := Stand.of_body Bd
  have e0 : s₁.heap = h0 := by rw [← hh, Bd.state]; rfl
  have N0 := Fr.nil n0
  refine GoW.mk ?_
  refine GoW.st (fun t k => castTop (ef4_rm4_7 m a1) k) ?_
  show GoW p e below s (Q4_7 Z a1 h0 n0) 0 0 (s₁.setTop (mkF m 0 (Sh7 a1 0) []))
  refine GoW.sg (mkF m 1 (Sh7 a1 0) [(.long 0)]) (fun t k => XS.lloadN X0.here hx rfl (hb hby d4_0) rfl k) ?_
  refine GoW.sg (mkF m 2 (Sh7 a1 0) [(.long 0), (.long 0)]) (fun t k => XS.lconst X0.here hx rfl (hb hby d4_1) k) ?_
  refine GoW.sg (mkF m 3 (Sh7 a1 0) [(.int (lcmpW (0 : Int64) (0 : Int64)))]) (fun t k => XS.lcmp X0.here hx rfl (hb hby d4_2) rfl k) ?_
  refine GoW.sg (mkF m 6 (Sh7 a1 0) []) (fun t k => XS.ifNo X0.here hx rfl (hb hby d4_3) rfl (by decide) k) ?_
  refine GoW.sg (mkF m 7 (Sh7 a1 0) [(.ref a1)]) (fun t k => XS.aloadN X0.here hx rfl (hb hby d4_6) rfl rfl k) ?_
  obtain ⟨T67, X67, e67, st67⟩ := getF X0 hx hZ hown (host := "") (Or.inl (ww hw 18 rfl)) Via.refl e0 P3 (g := (mkF m 7 (Sh7 a1 0) [(.ref a1)])) rfl rfl (hb hby d4_7)
  refine GoW.sg (mkF m 10 (Sh7 a1 0) [(.int 1)]) (fun t k => st67 t k) ?_
  refine GoW.sg (mkF m 13 (Sh7 a1 0) []) (fun t k => XS.ifNo X67.here hx rfl (hb hby d4_10) rfl (by decide) k) ?_
  refine GoW.sg (mkF m 14 (Sh7 a1 0) [(.int 1)]) (fun t k => XS.iconst X67.here hx rfl (hb hby d4_13) k) ?_
  refine GoW.sg (mkF m 18 (Sh7 a1 0) [(.int 1)]) (fun t k => XS.goto X67.here hx rfl (pc0 := 14) (pc' := 18) rfl (hb hby d4_14) (by decide) (by decide) k) ?_
  refine GoW.retN X67 hx (t := .boolean) Bd.returns (by simp) (hb hby d4_18) Bd.notSynchronized ?_ (by decide) (by decide)
  rw [e67]
  exact ⟨rfl, N0, rfl⟩
def Q3_8 (Z : State) (a1 : Addr) (x2 : Int64) (h0 : Heap) (n0 : Nat) (v : Option Value) (h : Heap) (L : List Loc) : Prop := v = some (.long (0 : Int64)) ∧ Fr n0 L ∧ (Keep h0 h [a1]) ∧ (Exa Z h a1 "com/example/spindle/spindle/SpinRule") ∧ (Fld Z h a1 "com/example/spindle/spindle/SpinRule" "answeredShare" "D" (.double (4607182418800017408 : UInt64))) ∧ (Fld Z h a1 "com/example/spindle/spindle/SpinRule" "handedOn" "Z" (.int (0 : Int32))) ∧ (Fld Z h a1 "com/example/spindle/spindle/SpinRule" "awaitsAnswer" "Z" (.int (0 : Int32)))
theorem ef3_rm3_8 (m : MethodId) (a1 : Addr) (x2 : Int64) : entryFrame m #[(.ref a1), (.long x2)] 3 = (mkF m 0 #[.val (.ref a1), .val (.long x2), .second] []) := by first | (simp [entryFrame, mkF, argsToLocals, Value.category, maxLocals]; done) | rfl
set_option maxRecDepth 65536 in
set_option maxHeartbeats 40000000 in
theorem rm3_8 (l : Launch) (Z : State) (a0 : Array Value) (hw : ∀ d ∈ tables_1, d.before a0 Z = true) (ws : List Jvm.Cond) (a1 : Addr) (x2 : Int64)  (h0 : Heap) (n0 : Nat) (P0 : Exa Z h0 a1 "com/example/spindle/spindle/SpinRule") (P1 : Fld Z h0 a1 "com/example/spindle/spindle/SpinRule" "answeredShare" "D" (.double (4607182418800017408 : UInt64))) (P2 : Fld Z h0 a1 "com/example/spindle/spindle/SpinRule" "handedOn" "Z" (.int (0 : Int32))) (P3 : Fld Z h0 a1 "com/example/spindle/spindle/SpinRule" "awaitsAnswer" "Z" (.int (1 : Int32))) (g_a1 : n0 ≤ a1)  (u0 : (20000 : Int64) < x2)  :
    MetFree l (⟨"com/example/spindle/spindle/SpinRule", "spinNanos", "(J)J"⟩ : MethodName) (head1 (Jvm.Cond.code (⟨"com/example/spindle/spindle/SpinRule", "spinNanos", "(J)J"⟩ : MethodName) prog_40_method_3_code 3 (some .long) :: ws) ({ frames := 0, cells := 0, slots := 0, locals := 0 } : Room)) (fun a U => a = #[(.ref a1), (.long x2)] ∧ Z.Warmed39 U.vm ∧ U.heap = h0) (fun _ _ _ _ _ => True) (fun _ U o U' => ∃ v L, o = .returned v ∧ (Q3_8 Z a1 x2 h0 n0) v U'.heap L ∧ FrameEnd U o U' L 0 0) := by
  refine MetFree.of_bodySF (plainFor_of_name pn_com_example_spindle_spindle_SpinRule) hisR ?_
  intro p e s m args below meth c s₁ Bd hml0 hP hK
  obtain ⟨rfl, hZ, hh⟩ := hP
  have hx := Bd.exec
  have hby := Bd.bytes
  have hml : c.maxLocals = 3 := hml0
  have hown : s.vm.findClass "com/example/spindle/spindle/SpinRule" = some m.cls := findClass_of_methodNamed Bd.named
  have hnm := (name_of_methodNamed Bd.named Bd.method).1
  have X0 : Stand p l e ({ frames := 0, cells := 0, slots := 0, locals := 0 } : Room) s m #[(.ref a1), (.long x2)] below meth c s₁ [] 0 0 := Stand.of_body Bd
  have e0 : s₁.heap = h0 := by rw [← hh, Bd.state]; rfl
  have N0 := Fr.nil n0
  refine GoW.mk ?_
  refine GoW.st (fun t k => castTop (ef3_rm3_8 m a1 x2) k) ?_
  show GoW p e below s (Q3_8 Z a1 x2 h0 n0) 0 0 (s₁.setTop (mkF m 0 (Sh7 a1 x2) []))
  refine GoW.sg (mkF m 1 (Sh7 a1 x2) [(.ref a1)]) (fun t k => XS.aloadN X0.here hx rfl (hb hby d3_0) rfl rfl k) ?_
  refine GoW.sg (mkF m 2 (Sh7 a1 x2) [(.ref a1), (.ref a1)]) (fun t k => XS.aloadN X0.here hx rfl (hb hby d3_1) rfl rfl k) ?_
  obtain ⟨T74, X74, e74, st74⟩ := getF X0 hx hZ hown (host := "") (Or.inl (ww hw 16 rfl)) Via.refl e0 P2 (g := (mkF m 2 (Sh7 a1 x2) [(.ref a1), (.ref a1)])) rfl rfl (hb hby d3_2)
  refine GoW.sg (mkF m 5 (Sh7 a1 x2) [(.int 0), (.ref a1)]) (fun t k => st74 t k) ?_
  obtain ⟨T75, h75, X75, e75, W75, st75⟩ := putF X74 hx hZ hown (host := "") (Or.inl (ww hw 18 rfl)) Via.refl e74 P3 P0 (Or.inl (ww hw 19 rfl)) (ww hw 1 rfl) (ty := .boolean) (by decide) rfl rfl (g := (mkF m 5 (Sh7 a1 x2) [(.int 0), (.ref a1)])) rfl rfl (hb hby d3_5)
  have N75 := Fr.snoc X75 N0 g_a1
  have Exa_a1_75 : Exa Z h75 a1 "com/example/spindle/spindle/SpinRule" := P0.wr W75
  have Fld_a1_answeredShare_75 : Fld Z h75 a1 "com/example/spindle/spindle/SpinRule" "answeredShare" "D" (.double (4607182418800017408 : UInt64)) := P1.other W75 (Or.inr (slot_ne (t := .double) (t' := .boolean) (Or.inl (ww hw 10 rfl)) (Or.inl (ww hw 19 rfl)) (by decide) (by decide) (by decide)))
  have Fld_a1_handedOn_75 : Fld Z h75 a1 "com/example/spindle/spindle/SpinRule" "handedOn" "Z" (.int (0 : Int32)) := P2.other W75 (Or.inr (slot_ne (t := .boolean) (t' := .boolean) (Or.inl (ww hw 17 rfl)) (Or.inl (ww hw 19 rfl)) (by decide) (by decide) (by decide)))
  have Keep_75 : Keep h0 h75 [a1] := (Keep.refl h0 [a1]).wr W75 (Or.inl (List.mem_of_getElem? (i := 0) rfl))
  have Fld_a1_awaitsAnswer_75 : Fld Z h75 a1 "com/example/spindle/spindle/SpinRule" "awaitsAnswer" "Z" (.int (0 : Int32)) := P3.same W75
  refine GoW.sg (mkF m 8 (Sh7 a1 x2) []) (fun t k => st75 t k) ?_
  refine GoW.sg (mkF m 9 (Sh7 a1 x2) [(.ref a1)]) (fun t k => XS.aloadN X75.here hx rfl (hb hby d3_8) rfl rfl k) ?_
  refine GoW.sg (mkF m 10 (Sh7 a1 x2) [(.int 0), (.ref a1)]) (fun t k => XS.iconst X75.here hx rfl (hb hby d3_9) k) ?_
  obtain ⟨T76, h76, X76, e76, W76, st76⟩ := putF X75 hx hZ hown (host := "") (Or.inl (ww hw 16 rfl)) Via.refl e75 Fld_a1_handedOn_75 Exa_a1_75 (Or.inl (ww hw 17 rfl)) (ww hw 1 rfl) (ty := .boolean) (by decide) rfl rfl (g := (mkF m 10 (Sh7 a1 x2) [(.int 0), (.ref a1)])) rfl rfl (hb hby d3_10)
  have N76 := Fr.snoc X76 N75 g_a1
  have Exa_a1_76 : Exa Z h76 a1 "com/example/spindle/spindle/SpinRule" := Exa_a1_75.wr W76
  have Fld_a1_answeredShare_76 : Fld Z h76 a1 "com/example/spindle/spindle/SpinRule" "answeredShare" "D" (.double (4607182418800017408 : UInt64)) := Fld_a1_answeredShare_75.other W76 (Or.inr (slot_ne (t := .double) (t' := .boolean) (Or.inl (ww hw 10 rfl)) (Or.inl (ww hw 17 rfl)) (by decide) (by decide) (by decide)))
  have Fld_a1_awaitsAnswer_76 : Fld Z h76 a1 "com/example/spindle/spindle/SpinRule" "awaitsAnswer" "Z" (.int (0 : Int32)) := Fld_a1_awaitsAnswer_75.other W76 (Or.inr (slot_ne (t := .boolean) (t' := .boolean) (Or.inl (ww hw 19 rfl)) (Or.inl (ww hw 17 rfl)) (by decide) (by decide) (by decide)))
  have Keep_76 : Keep h0 h76 [a1] := Keep_75.wr W76 (Or.inl (List.mem_of_getElem? (i := 0) rfl))
  have Fld_a1_handedOn_76 : Fld Z h76 a1 "com/example/spindle/spindle/SpinRule" "handedOn" "Z" (.int (0 : Int32)) := Fld_a1_handedOn_75.same W76
  refine GoW.sg (mkF m 13 (Sh7 a1 x2) []) (fun t k => st76 t k) ?_
  refine GoW.sg (mkF m 14 (Sh7 a1 x2) [(.long x2)]) (fun t k => XS.lloadN X76.here hx rfl (hb hby d3_13) rfl k) ?_
  refine GoW.sg (mkF m 17 (Sh7 a1 x2) [(.long 20000), (.long x2)]) (fun t k => X76.ldc2Long hx hown (mvT hZ (ww hw 20 rfl)) (g := (mkF m 14 (Sh7 a1 x2) [(.long x2)])) rfl (hb hby d3_14) t k) ?_
  refine GoW.sg (mkF m 18 (Sh7 a1 x2) [(.int (lcmpW x2 (20000 : Int64)))]) (fun t k => XS.lcmp X76.here hx rfl (hb hby d3_17) rfl k) ?_
  refine GoW.sg (mkF m 23 (Sh7 a1 x2) []) (fun t k => XS.ifYes X76.here hx rfl (pc0 := 18) (pc' := 23) rfl (hb hby d3_18) rfl ((if0 _ _).trans (tlt ((lw_gt _ _).mpr u0)).2.2.1) (by decide) (by decide) k) ?_
  refine GoW.sg (mkF m 24 (Sh7 a1 x2) [(.ref a1)]) (fun t k => XS.aloadN X76.here hx rfl (hb hby d3_23) rfl rfl k) ?_
  obtain ⟨T77, X77, e77, st77⟩ := getF X76 hx hZ hown (host := "") (Or.inl (ww hw 18 rfl)) Via.refl e76 Fld_a1_awaitsAnswer_76 (g := (mkF m 24 (Sh7 a1 x2) [(.ref a1)])) rfl rfl (hb hby d3_24)
  refine GoW.sg (mkF m 27 (Sh7 a1 x2) [(.int 0)]) (fun t k => st77 t k) ?_
  refine GoW.sg (mkF m 47 (Sh7 a1 x2) []) (fun t k => XS.ifYes X77.here hx rfl (pc0 := 27) (pc' := 47) rfl (hb hby d3_27) rfl (by decide) (by decide) (by decide) k) ?_
  refine GoW.sg (mkF m 48 (Sh7 a1 x2) [(.long 0)]) (fun t k => XS.lconst X77.here hx rfl (hb hby d3_47) k) ?_
  refine GoW.retL X77 hx Bd.returns (hb hby d3_48) Bd.notSynchronized ?_ (by decide) (by decide)
  rw [e77]
  exact ⟨rfl, N76, Keep_76, Exa_a1_76, Fld_a1_answeredShare_76, Fld_a1_handedOn_76, Fld_a1_awaitsAnswer_76⟩
def Q3_9 (Z : State) (a1 : Addr) (x2 : Int64) (h0 : Heap) (n0 : Nat) (v : Option Value) (h : Heap) (L : List Loc) : Prop := v = some (.long x2) ∧ Fr n0 L ∧ (Keep h0 h [a1]) ∧ (Exa Z h a1 "com/example/spindle/spindle/SpinRule") ∧ (Fld Z h a1 "com/example/spindle/spindle/SpinRule" "answeredShare" "D" (.double (4607182418800017408 : UInt64))) ∧ (Fld Z h a1 "com/example/spindle/spindle/SpinRule" "handedOn" "Z" (.int (0 : Int32))) ∧ (Fld Z h a1 "com/example/spindle/spindle/SpinRule" "awaitsAnswer" "Z" (.int (0 : Int32)))
theorem ef3_rm3_9 (m : MethodId) (a1 : Addr) (x2 : Int64) : entryFrame m #[(.ref a1), (.long x2)] 3 = (mkF m 0 #[.val (.ref a1), .val (.long x2), .second] []) := by first | (simp [entryFrame, mkF, argsToLocals, Value.category, maxLocals]; done) | rfl
set_option maxRecDepth 65536 in
set_option maxHeartbeats 40000000 in
theorem rm3_9 (l : Launch) (Z : State) (a0 : Array Value) (hw : ∀ d ∈ tables_1, d.before a0 Z = true) (ws : List Jvm.Cond) (a1 : Addr) (x2 : Int64)  (h0 : Heap) (n0 : Nat) (P0 : Exa Z h0 a1 "com/example/spindle/spindle/SpinRule") (P1 : Fld Z h0 a1 "com/example/spindle/spindle/SpinRule" "answeredShare" "D" (.double (4607182418800017408 : UInt64))) (P2 : Fld Z h0 a1 "com/example/spindle/spindle/SpinRule" "handedOn" "Z" (.int (0 : Int32))) (P3 : Fld Z h0 a1 "com/example/spindle/spindle/SpinRule" "awaitsAnswer" "Z" (.int (1 : Int32))) (g_a1 : n0 ≤ a1)  (u0 : ¬ ((20000 : Int64) < x2))  :
    MetFree l (⟨"com/example/spindle/spindle/SpinRule", "spinNanos", "(J)J"⟩ : MethodName) (head1 (Jvm.Cond.code (⟨"com/example/spindle/spindle/SpinRule", "spinNanos", "(J)J"⟩ : MethodName) prog_40_method_3_code 3 (some .long) :: ws) ({ frames := 0, cells := 0, slots := 0, locals := 0 } : Room)) (fun a U => a = #[(.ref a1), (.long x2)] ∧ Z.Warmed39 U.vm ∧ U.heap = h0) (fun _ _ _ _ _ => True) (fun _ U o U' => ∃ v L, o = .returned v ∧ (Q3_9 Z a1 x2 h0 n0) v U'.heap L ∧ FrameEnd U o U' L 0 0) := by
  refine MetFree.of_bodySF (plainFor_of_name pn_com_example_spindle_spindle_SpinRule) hisR ?_
  intro p e s m args below meth c s₁ Bd hml0 hP hK
  obtain ⟨rfl, hZ, hh⟩ := hP
  have hx := Bd.exec
  have hby := Bd.bytes
  have hml : c.maxLocals = 3 := hml0
  have hown : s.vm.findClass "com/example/spindle/spindle/SpinRule" = some m.cls := findClass_of_methodNamed Bd.named
  have hnm := (name_of_methodNamed Bd.named Bd.method).1
  have X0 : Stand p l e ({ frames := 0, cells := 0, slots := 0, locals := 0 } : Room) s m #[(.ref a1), (.long x2)] below meth c s₁ [] 0 0 := Stand.of_body Bd
  have e0 : s₁.heap = h0 := by rw [← hh, Bd.state]; rfl
  have N0 := Fr.nil n0
  refine GoW.mk ?_
  refine GoW.st (fun t k => castTop (ef3_rm3_9 m a1 x2) k) ?_
  show GoW p e below s (Q3_9 Z a1 x2 h0 n0) 0 0 (s₁.setTop (mkF m 0 (Sh7 a1 x2) []))
  refine GoW.sg (mkF m 1 (Sh7 a1 x2) [(.ref a1)]) (fun t k => XS.aloadN X0.here hx rfl (hb hby d3_0) rfl rfl k) ?_
  refine GoW.sg (mkF m 2 (Sh7 a1 x2) [(.ref a1), (.ref a1)]) (fun t k => XS.aloadN X0.here hx rfl (hb hby d3_1) rfl rfl k) ?_
  obtain ⟨T83, X83, e83, st83⟩ := getF X0 hx hZ hown (host := "") (Or.inl (ww hw 16 rfl)) Via.refl e0 P2 (g := (mkF m 2 (Sh7 a1 x2) [(.ref a1), (.ref a1)])) rfl rfl (hb hby d3_2)
  refine GoW.sg (mkF m 5 (Sh7 a1 x2) [(.int 0), (.ref a1)]) (fun t k => st83 t k) ?_
  obtain ⟨T84, h84, X84, e84, W84, st84⟩ := putF X83 hx hZ hown (host := "") (Or.inl (ww hw 18 rfl)) Via.refl e83 P3 P0 (Or.inl (ww hw 19 rfl)) (ww hw 1 rfl) (ty := .boolean) (by decide) rfl rfl (g := (mkF m 5 (Sh7 a1 x2) [(.int 0), (.ref a1)])) rfl rfl (hb hby d3_5)
  have N84 := Fr.snoc X84 N0 g_a1
  have Exa_a1_84 : Exa Z h84 a1 "com/example/spindle/spindle/SpinRule" := P0.wr W84
  have Fld_a1_answeredShare_84 : Fld Z h84 a1 "com/example/spindle/spindle/SpinRule" "answeredShare" "D" (.double (4607182418800017408 : UInt64)) := P1.other W84 (Or.inr (slot_ne (t := .double) (t' := .boolean) (Or.inl (ww hw 10 rfl)) (Or.inl (ww hw 19 rfl)) (by decide) (by decide) (by decide)))
  have Fld_a1_handedOn_84 : Fld Z h84 a1 "com/example/spindle/spindle/SpinRule" "handedOn" "Z" (.int (0 : Int32)) := P2.other W84 (Or.inr (slot_ne (t := .boolean) (t' := .boolean) (Or.inl (ww hw 17 rfl)) (Or.inl (ww hw 19 rfl)) (by decide) (by decide) (by decide)))
  have Keep_84 : Keep h0 h84 [a1] := (Keep.refl h0 [a1]).wr W84 (Or.inl (List.mem_of_getElem? (i := 0) rfl))
  have Fld_a1_awaitsAnswer_84 : Fld Z h84 a1 "com/example/spindle/spindle/SpinRule" "awaitsAnswer" "Z" (.int (0 : Int32)) := P3.same W84
  refine GoW.sg (mkF m 8 (Sh7 a1 x2) []) (fun t k => st84 t k) ?_
  refine GoW.sg (mkF m 9 (Sh7 a1 x2) [(.ref a1)]) (fun t k => XS.aloadN X84.here hx rfl (hb hby d3_8) rfl rfl k) ?_
  refine GoW.sg (mkF m 10 (Sh7 a1 x2) [(.int 0), (.ref a1)]) (fun t k => XS.iconst X84.here hx rfl (hb hby d3_9) k) ?_
  obtain ⟨T85, h85, X85, e85, W85, st85⟩ := putF X84 hx hZ hown (host := "") (Or.inl (ww hw 16 rfl)) Via.refl e84 Fld_a1_handedOn_84 Exa_a1_84 (Or.inl (ww hw 17 rfl)) (ww hw 1 rfl) (ty := .boolean) (by decide) rfl rfl (g := (mkF m 10 (Sh7 a1 x2) [(.int 0), (.ref a1)])) rfl rfl (hb hby d3_10)
  have N85 := Fr.snoc X85 N84 g_a1
  have Exa_a1_85 : Exa Z h85 a1 "com/example/spindle/spindle/SpinRule" := Exa_a1_84.wr W85
  have Fld_a1_answeredShare_85 : Fld Z h85 a1 "com/example/spindle/spindle/SpinRule" "answeredShare" "D" (.double (4607182418800017408 : UInt64)) := Fld_a1_answeredShare_84.other W85 (Or.inr (slot_ne (t := .double) (t' := .boolean) (Or.inl (ww hw 10 rfl)) (Or.inl (ww hw 17 rfl)) (by decide) (by decide) (by decide)))
  have Fld_a1_awaitsAnswer_85 : Fld Z h85 a1 "com/example/spindle/spindle/SpinRule" "awaitsAnswer" "Z" (.int (0 : Int32)) := Fld_a1_awaitsAnswer_84.other W85 (Or.inr (slot_ne (t := .boolean) (t' := .boolean) (Or.inl (ww hw 19 rfl)) (Or.inl (ww hw 17 rfl)) (by decide) (by decide) (by decide)))
  have Keep_85 : Keep h0 h85 [a1] := Keep_84.wr W85 (Or.inl (List.mem_of_getElem? (i := 0) rfl))
  have Fld_a1_handedOn_85 : Fld Z h85 a1 "com/example/spindle/spindle/SpinRule" "handedOn" "Z" (.int (0 : Int32)) := Fld_a1_handedOn_84.same W85
  refine GoW.sg (mkF m 13 (Sh7 a1 x2) []) (fun t k => st85 t k) ?_
  refine GoW.sg (mkF m 14 (Sh7 a1 x2) [(.long x2)]) (fun t k => XS.lloadN X85.here hx rfl (hb hby d3_13) rfl k) ?_
  refine GoW.sg (mkF m 17 (Sh7 a1 x2) [(.long 20000), (.long x2)]) (fun t k => X85.ldc2Long hx hown (mvT hZ (ww hw 20 rfl)) (g := (mkF m 14 (Sh7 a1 x2) [(.long x2)])) rfl (hb hby d3_14) t k) ?_
  refine GoW.sg (mkF m 18 (Sh7 a1 x2) [(.int (lcmpW x2 (20000 : Int64)))]) (fun t k => XS.lcmp X85.here hx rfl (hb hby d3_17) rfl k) ?_
  refine GoW.sg (mkF m 21 (Sh7 a1 x2) []) (fun t k => XS.ifNo X85.here hx rfl (hb hby d3_18) rfl ((if0 _ _).trans (flt (mt (lw_gt _ _).mp u0)).2.2.1) k) ?_
  refine GoW.sg (mkF m 22 (Sh7 a1 x2) [(.long x2)]) (fun t k => XS.lloadN X85.here hx rfl (hb hby d3_21) rfl k) ?_
  refine GoW.retL X85 hx Bd.returns (hb hby d3_22) Bd.notSynchronized ?_ (by decide) (by decide)
  rw [e85]
  exact ⟨rfl, N85, Keep_85, Exa_a1_85, Fld_a1_answeredShare_85, Fld_a1_handedOn_85, Fld_a1_awaitsAnswer_85⟩
def Q3_10 (Z : State) (a1 : Addr) (x2 : Int64) (h0 : Heap) (n0 : Nat) (v : Option Value) (h : Heap) (L : List Loc) : Prop := v = some (.long x2) ∧ Fr n0 L ∧ (Keep h0 h [a1]) ∧ (Exa Z h a1 "com/example/spindle/spindle/SpinRule") ∧ (Fld Z h a1 "com/example/spindle/spindle/SpinRule" "answeredShare" "D" (.double (4607182418800017408 : UInt64))) ∧ (Fld Z h a1 "com/example/spindle/spindle/SpinRule" "handedOn" "Z" (.int (0 : Int32))) ∧ (Fld Z h a1 "com/example/spindle/spindle/SpinRule" "awaitsAnswer" "Z" (.int (1 : Int32)))
theorem ef3_rm3_10 (m : MethodId) (a1 : Addr) (x2 : Int64) : entryFrame m #[(.ref a1), (.long x2)] 3 = (mkF m 0 #[.val (.ref a1), .val (.long x2), .second] []) := by first | (simp [entryFrame, mkF, argsToLocals, Value.category, maxLocals]; done) | rfl
set_option maxRecDepth 65536 in
set_option maxHeartbeats 40000000 in
theorem rm3_10 (l : Launch) (Z : State) (a0 : Array Value) (hw : ∀ d ∈ tables_1, d.before a0 Z = true) (ws : List Jvm.Cond) (a1 : Addr) (x2 : Int64)  (h0 : Heap) (n0 : Nat) (P0 : Exa Z h0 a1 "com/example/spindle/spindle/SpinRule") (P1 : Fld Z h0 a1 "com/example/spindle/spindle/SpinRule" "answeredShare" "D" (.double (4607182418800017408 : UInt64))) (P2 : Fld Z h0 a1 "com/example/spindle/spindle/SpinRule" "handedOn" "Z" (.int (1 : Int32))) (P3 : Fld Z h0 a1 "com/example/spindle/spindle/SpinRule" "awaitsAnswer" "Z" (.int (0 : Int32))) (g_a1 : n0 ≤ a1)  (u0 : ¬ ((20000 : Int64) < x2))  :
    MetFree l (⟨"com/example/spindle/spindle/SpinRule", "spinNanos", "(J)J"⟩ : MethodName) (head1 (Jvm.Cond.code (⟨"com/example/spindle/spindle/SpinRule", "spinNanos", "(J)J"⟩ : MethodName) prog_40_method_3_code 3 (some .long) :: ws) ({ frames := 0, cells := 0, slots := 0, locals := 0 } : Room)) (fun a U => a = #[(.ref a1), (.long x2)] ∧ Z.Warmed39 U.vm ∧ U.heap = h0) (fun _ _ _ _ _ => True) (fun _ U o U' => ∃ v L, o = .returned v ∧ (Q3_10 Z a1 x2 h0 n0) v U'.heap L ∧ FrameEnd U o U' L 0 0) := by
  refine MetFree.of_bodySF (plainFor_of_name pn_com_example_spindle_spindle_SpinRule) hisR ?_
  intro p e s m args below meth c s₁ Bd hml0 hP hK
  obtain ⟨rfl, hZ, hh⟩ := hP
  have hx := Bd.exec
  have hby := Bd.bytes
  have hml : c.maxLocals = 3 := hml0
  have hown : s.vm.findClass "com/example/spindle/spindle/SpinRule" = some m.cls := findClass_of_methodNamed Bd.named
  have hnm := (name_of_methodNamed Bd.named Bd.method).1
  have X0 : Stand p l e ({ frames := 0, cells := 0, slots := 0, locals := 0 } : Room) s m #[(.ref a1), (.long x2)] below meth c s₁ [] 0 0 := Stand.of_body Bd
  have e0 : s₁.heap = h0 := by rw [← hh, Bd.state]; rfl
  have N0 := Fr.nil n0
  refine GoW.mk ?_
  refine GoW.st (fun t k => castTop (ef3_rm3_10 m a1 x2) k) ?_
  show GoW p e below s (Q3_10 Z a1 x2 h0 n0) 0 0 (s₁.setTop (mkF m 0 (Sh7 a1 x2) []))
  refine GoW.sg (mkF m 1 (Sh7 a1 x2) [(.ref a1)]) (fun t k => XS.aloadN X0.here hx rfl (hb hby d3_0) rfl rfl k) ?_
  refine GoW.sg (mkF m 2 (Sh7 a1 x2) [(.ref a1), (.ref a1)]) (fun t k => XS.aloadN X0.here hx rfl (hb hby d3_1) rfl rfl k) ?_
  obtain ⟨T91, X91, e91, st91⟩ := getF X0 hx hZ hown (host := "") (Or.inl (ww hw 16 rfl)) Via.refl e0 P2 (g := (mkF m 2 (Sh7 a1 x2) [(.ref a1), (.ref a1)])) rfl rfl (hb hby d3_2)
  refine GoW.sg (mkF m 5 (Sh7 a1 x2) [(.int 1), (.ref a1)]) (fun t k => st91 t k) ?_
  obtain ⟨T92, h92, X92, e92, W92, st92⟩ := putF X91 hx hZ hown (host := "") (Or.inl (ww hw 18 rfl)) Via.refl e91 P3 P0 (Or.inl (ww hw 19 rfl)) (ww hw 1 rfl) (ty := .boolean) (by decide) rfl rfl (g := (mkF m 5 (Sh7 a1 x2) [(.int 1), (.ref a1)])) rfl rfl (hb hby d3_5)
  have N92 := Fr.snoc X92 N0 g_a1
  have Exa_a1_92 : Exa Z h92 a1 "com/example/spindle/spindle/SpinRule" := P0.wr W92
  have Fld_a1_answeredShare_92 : Fld Z h92 a1 "com/example/spindle/spindle/SpinRule" "answeredShare" "D" (.double (4607182418800017408 : UInt64)) := P1.other W92 (Or.inr (slot_ne (t := .double) (t' := .boolean) (Or.inl (ww hw 10 rfl)) (Or.inl (ww hw 19 rfl)) (by decide) (by decide) (by decide)))
  have Fld_a1_handedOn_92 : Fld Z h92 a1 "com/example/spindle/spindle/SpinRule" "handedOn" "Z" (.int (1 : Int32)) := P2.other W92 (Or.inr (slot_ne (t := .boolean) (t' := .boolean) (Or.inl (ww hw 17 rfl)) (Or.inl (ww hw 19 rfl)) (by decide) (by decide) (by decide)))
  have Keep_92 : Keep h0 h92 [a1] := (Keep.refl h0 [a1]).wr W92 (Or.inl (List.mem_of_getElem? (i := 0) rfl))
  have Fld_a1_awaitsAnswer_92 : Fld Z h92 a1 "com/example/spindle/spindle/SpinRule" "awaitsAnswer" "Z" (.int (1 : Int32)) := P3.same W92
  refine GoW.sg (mkF m 8 (Sh7 a1 x2) []) (fun t k => st92 t k) ?_
  refine GoW.sg (mkF m 9 (Sh7 a1 x2) [(.ref a1)]) (fun t k => XS.aloadN X92.here hx rfl (hb hby d3_8) rfl rfl k) ?_
  refine GoW.sg (mkF m 10 (Sh7 a1 x2) [(.int 0), (.ref a1)]) (fun t k => XS.iconst X92.here hx rfl (hb hby d3_9) k) ?_
  obtain ⟨T93, h93, X93, e93, W93, st93⟩ := putF X92 hx hZ hown (host := "") (Or.inl (ww hw 16 rfl)) Via.refl e92 Fld_a1_handedOn_92 Exa_a1_92 (Or.inl (ww hw 17 rfl)) (ww hw 1 rfl) (ty := .boolean) (by decide) rfl rfl (g := (mkF m 10 (Sh7 a1 x2) [(.int 0), (.ref a1)])) rfl rfl (hb hby d3_10)
  have N93 := Fr.snoc X93 N92 g_a1
  have Exa_a1_93 : Exa Z h93 a1 "com/example/spindle/spindle/SpinRule" := Exa_a1_92.wr W93
  have Fld_a1_answeredShare_93 : Fld Z h93 a1 "com/example/spindle/spindle/SpinRule" "answeredShare" "D" (.double (4607182418800017408 : UInt64)) := Fld_a1_answeredShare_92.other W93 (Or.inr (slot_ne (t := .double) (t' := .boolean) (Or.inl (ww hw 10 rfl)) (Or.inl (ww hw 17 rfl)) (by decide) (by decide) (by decide)))
  have Fld_a1_awaitsAnswer_93 : Fld Z h93 a1 "com/example/spindle/spindle/SpinRule" "awaitsAnswer" "Z" (.int (1 : Int32)) := Fld_a1_awaitsAnswer_92.other W93 (Or.inr (slot_ne (t := .boolean) (t' := .boolean) (Or.inl (ww hw 19 rfl)) (Or.inl (ww hw 17 rfl)) (by decide) (by decide) (by decide)))
  have Keep_93 : Keep h0 h93 [a1] := Keep_92.wr W93 (Or.inl (List.mem_of_getElem? (i := 0) rfl))
  have Fld_a1_handedOn_93 : Fld Z h93 a1 "com/example/spindle/spindle/SpinRule" "handedOn" "Z" (.int (0 : Int32)) := Fld_a1_handedOn_92.same W93
  refine GoW.sg (mkF m 13 (Sh7 a1 x2) []) (fun t k => st93 t k) ?_
  refine GoW.sg (mkF m 14 (Sh7 a1 x2) [(.long x2)]) (fun t k => XS.lloadN X93.here hx rfl (hb hby d3_13) rfl k) ?_
  refine GoW.sg (mkF m 17 (Sh7 a1 x2) [(.long 20000), (.long x2)]) (fun t k => X93.ldc2Long hx hown (mvT hZ (ww hw 20 rfl)) (g := (mkF m 14 (Sh7 a1 x2) [(.long x2)])) rfl (hb hby d3_14) t k) ?_
  refine GoW.sg (mkF m 18 (Sh7 a1 x2) [(.int (lcmpW x2 (20000 : Int64)))]) (fun t k => XS.lcmp X93.here hx rfl (hb hby d3_17) rfl k) ?_
  refine GoW.sg (mkF m 21 (Sh7 a1 x2) []) (fun t k => XS.ifNo X93.here hx rfl (hb hby d3_18) rfl ((if0 _ _).trans (flt (mt (lw_gt _ _).mp u0)).2.2.1) k) ?_
  refine GoW.sg (mkF m 22 (Sh7 a1 x2) [(.long x2)]) (fun t k => XS.lloadN X93.here hx rfl (hb hby d3_21) rfl k) ?_
  refine GoW.retL X93 hx Bd.returns (hb hby d3_22) Bd.notSynchronized ?_ (by decide) (by decide)
  rw [e93]
  exact ⟨rfl, N93, Keep_93, Exa_a1_93, Fld_a1_answeredShare_93, Fld_a1_handedOn_93, Fld_a1_awaitsAnswer_93⟩
def Q3_11 (Z : State) (a1 : Addr) (h0 : Heap) (n0 : Nat) (v : Option Value) (h : Heap) (L : List Loc) : Prop := v = some (.long (20000 : Int64)) ∧ Fr n0 L ∧ (Keep h0 h [a1]) ∧ (Exa Z h a1 "com/example/spindle/spindle/SpinRule") ∧ (Fld Z h a1 "com/example/spindle/spindle/SpinRule" "answeredShare" "D" (.double (4607182418800017408 : UInt64))) ∧ (Fld Z h a1 "com/example/spindle/spindle/SpinRule" "handedOn" "Z" (.int (0 : Int32))) ∧ (Fld Z h a1 "com/example/spindle/spindle/SpinRule" "awaitsAnswer" "Z" (.int (1 : Int32)))
theorem ef3_rm3_11 (m : MethodId) (a1 : Addr) : entryFrame m #[(.ref a1), (.long (9223372036854775807 : Int64))] 3 = (mkF m 0 #[.val (.ref a1), .val (.long 9223372036854775807), .second] []) := by first | (simp [entryFrame, mkF, argsToLocals, Value.category, maxLocals]; done) | rfl
set_option maxRecDepth 65536 in
set_option maxHeartbeats 40000000 in
theorem rm3_11 (l : Launch) (Z : State) (a0 : Array Value) (hw : ∀ d ∈ tables_1, d.before a0 Z = true) (ws : List Jvm.Cond) (a1 : Addr)  (h0 : Heap) (n0 : Nat) (P0 : Exa Z h0 a1 "com/example/spindle/spindle/SpinRule") (P1 : Fld Z h0 a1 "com/example/spindle/spindle/SpinRule" "answeredShare" "D" (.double (4607182418800017408 : UInt64))) (P2 : Fld Z h0 a1 "com/example/spindle/spindle/SpinRule" "handedOn" "Z" (.int (1 : Int32))) (P3 : Fld Z h0 a1 "com/example/spindle/spindle/SpinRule" "awaitsAnswer" "Z" (.int (0 : Int32))) (g_a1 : n0 ≤ a1)    :
    MetFree l (⟨"com/example/spindle/spindle/SpinRule", "spinNanos", "(J)J"⟩ : MethodName) (head1 (Jvm.Cond.code (⟨"com/example/spindle/spindle/SpinRule", "spinNanos", "(J)J"⟩ : MethodName) prog_40_method_3_code 3 (some .long) :: ws) ({ frames := 0, cells := 0, slots := 0, locals := 0 } : Room)) (fun a U => a = #[(.ref a1), (.long (9223372036854775807 : Int64))] ∧ Z.Warmed39 U.vm ∧ U.heap = h0) (fun _ _ _ _ _ => True) (fun _ U o U' => ∃ v L, o = .returned v ∧ (Q3_11 Z a1 h0 n0) v U'.heap L ∧ FrameEnd U o U' L 0 0) := by
  refine MetFree.of_bodySF (plainFor_of_name pn_com_example_spindle_spindle_SpinRule) hisR ?_
  intro p e s m args below meth c s₁ Bd hml0 hP hK
  obtain ⟨rfl, hZ, hh⟩ := hP
  have hx := Bd.exec
  have hby := Bd.bytes
  have hml : c.maxLocals = 3 := hml0
  have hown : s.vm.findClass "com/example/spindle/spindle/SpinRule" = some m.cls := findClass_of_methodNamed Bd.named
  have hnm := (name_of_methodNamed Bd.named Bd.method).1
  have X0 : Stand p l e ({ frames := 0, cells := 0, slots := 0, locals := 0 } : Room) s m #[(.ref a1), (.long (9223372036854775807 : Int64))] below meth c s₁ [] 0 0 := Stand.of_body Bd
  have e0 : s₁.heap = h0 := by rw [← hh, Bd.state]; rfl
  have N0 := Fr.nil n0
  refine GoW.mk ?_
  refine GoW.st (fun t k => castTop (ef3_rm3_11 m a1) k) ?_
  show GoW p e below s (Q3_11 Z a1 h0 n0) 0 0 (s₁.setTop (mkF m 0 (Sh7 a1 9223372036854775807) []))
  refine GoW.sg (mkF m 1 (Sh7 a1 9223372036854775807) [(.ref a1)]) (fun t k => XS.aloadN X0.here hx rfl (hb hby d3_0) rfl rfl k) ?_
  refine GoW.sg (mkF m 2 (Sh7 a1 9223372036854775807) [(.ref a1), (.ref a1)]) (fun t k => XS.aloadN X0.here hx rfl (hb hby d3_1) rfl rfl k) ?_
  obtain ⟨T107, X107, e107, st107⟩ := getF X0 hx hZ hown (host := "") (Or.inl (ww hw 16 rfl)) Via.refl e0 P2 (g := (mkF m 2 (Sh7 a1 9223372036854775807) [(.ref a1), (.ref a1)])) rfl rfl (hb hby d3_2)
  refine GoW.sg (mkF m 5 (Sh7 a1 9223372036854775807) [(.int 1), (.ref a1)]) (fun t k => st107 t k) ?_
  obtain ⟨T108, h108, X108, e108, W108, st108⟩ := putF X107 hx hZ hown (host := "") (Or.inl (ww hw 18 rfl)) Via.refl e107 P3 P0 (Or.inl (ww hw 19 rfl)) (ww hw 1 rfl) (ty := .boolean) (by decide) rfl rfl (g := (mkF m 5 (Sh7 a1 9223372036854775807) [(.int 1), (.ref a1)])) rfl rfl (hb hby d3_5)
  have N108 := Fr.snoc X108 N0 g_a1
  have Exa_a1_108 : Exa Z h108 a1 "com/example/spindle/spindle/SpinRule" := P0.wr W108
  have Fld_a1_answeredShare_108 : Fld Z h108 a1 "com/example/spindle/spindle/SpinRule" "answeredShare" "D" (.double (4607182418800017408 : UInt64)) := P1.other W108 (Or.inr (slot_ne (t := .double) (t' := .boolean) (Or.inl (ww hw 10 rfl)) (Or.inl (ww hw 19 rfl)) (by decide) (by decide) (by decide)))
  have Fld_a1_handedOn_108 : Fld Z h108 a1 "com/example/spindle/spindle/SpinRule" "handedOn" "Z" (.int (1 : Int32)) := P2.other W108 (Or.inr (slot_ne (t := .boolean) (t' := .boolean) (Or.inl (ww hw 17 rfl)) (Or.inl (ww hw 19 rfl)) (by decide) (by decide) (by decide)))
  have Keep_108 : Keep h0 h108 [a1] := (Keep.refl h0 [a1]).wr W108 (Or.inl (List.mem_of_getElem? (i := 0) rfl))
  have Fld_a1_awaitsAnswer_108 : Fld Z h108 a1 "com/example/spindle/spindle/SpinRule" "awaitsAnswer" "Z" (.int (1 : Int32)) := P3.same W108
  refine GoW.sg (mkF m 8 (Sh7 a1 9223372036854775807) []) (fun t k => st108 t k) ?_
  refine GoW.sg (mkF m 9 (Sh7 a1 9223372036854775807) [(.ref a1)]) (fun t k => XS.aloadN X108.here hx rfl (hb hby d3_8) rfl rfl k) ?_
  refine GoW.sg (mkF m 10 (Sh7 a1 9223372036854775807) [(.int 0), (.ref a1)]) (fun t k => XS.iconst X108.here hx rfl (hb hby d3_9) k) ?_
  obtain ⟨T109, h109, X109, e109, W109, st109⟩ := putF X108 hx hZ hown (host := "") (Or.inl (ww hw 16 rfl)) Via.refl e108 Fld_a1_handedOn_108 Exa_a1_108 (Or.inl (ww hw 17 rfl)) (ww hw 1 rfl) (ty := .boolean) (by decide) rfl rfl (g := (mkF m 10 (Sh7 a1 9223372036854775807) [(.int 0), (.ref a1)])) rfl rfl (hb hby d3_10)
  have N109 := Fr.snoc X109 N108 g_a1
  have Exa_a1_109 : Exa Z h109 a1 "com/example/spindle/spindle/SpinRule" := Exa_a1_108.wr W109
  have Fld_a1_answeredShare_109 : Fld Z h109 a1 "com/example/spindle/spindle/SpinRule" "answeredShare" "D" (.double (4607182418800017408 : UInt64)) := Fld_a1_answeredShare_108.other W109 (Or.inr (slot_ne (t := .double) (t' := .boolean) (Or.inl (ww hw 10 rfl)) (Or.inl (ww hw 17 rfl)) (by decide) (by decide) (by decide)))
  have Fld_a1_awaitsAnswer_109 : Fld Z h109 a1 "com/example/spindle/spindle/SpinRule" "awaitsAnswer" "Z" (.int (1 : Int32)) := Fld_a1_awaitsAnswer_108.other W109 (Or.inr (slot_ne (t := .boolean) (t' := .boolean) (Or.inl (ww hw 19 rfl)) (Or.inl (ww hw 17 rfl)) (by decide) (by decide) (by decide)))
  have Keep_109 : Keep h0 h109 [a1] := Keep_108.wr W109 (Or.inl (List.mem_of_getElem? (i := 0) rfl))
  have Fld_a1_handedOn_109 : Fld Z h109 a1 "com/example/spindle/spindle/SpinRule" "handedOn" "Z" (.int (0 : Int32)) := Fld_a1_handedOn_108.same W109
  refine GoW.sg (mkF m 13 (Sh7 a1 9223372036854775807) []) (fun t k => st109 t k) ?_
  refine GoW.sg (mkF m 14 (Sh7 a1 9223372036854775807) [(.long 9223372036854775807)]) (fun t k => XS.lloadN X109.here hx rfl (hb hby d3_13) rfl k) ?_
  refine GoW.sg (mkF m 17 (Sh7 a1 9223372036854775807) [(.long 20000), (.long 9223372036854775807)]) (fun t k => X109.ldc2Long hx hown (mvT hZ (ww hw 20 rfl)) (g := (mkF m 14 (Sh7 a1 9223372036854775807) [(.long 9223372036854775807)])) rfl (hb hby d3_14) t k) ?_
  refine GoW.sg (mkF m 18 (Sh7 a1 9223372036854775807) [(.int (lcmpW (9223372036854775807 : Int64) (20000 : Int64)))]) (fun t k => XS.lcmp X109.here hx rfl (hb hby d3_17) rfl k) ?_
  refine GoW.sg (mkF m 23 (Sh7 a1 9223372036854775807) []) (fun t k => XS.ifYes X109.here hx rfl (pc0 := 18) (pc' := 23) rfl (hb hby d3_18) rfl (by decide) (by decide) (by decide) k) ?_
  refine GoW.sg (mkF m 24 (Sh7 a1 9223372036854775807) [(.ref a1)]) (fun t k => XS.aloadN X109.here hx rfl (hb hby d3_23) rfl rfl k) ?_
  obtain ⟨T110, X110, e110, st110⟩ := getF X109 hx hZ hown (host := "") (Or.inl (ww hw 18 rfl)) Via.refl e109 Fld_a1_awaitsAnswer_109 (g := (mkF m 24 (Sh7 a1 9223372036854775807) [(.ref a1)])) rfl rfl (hb hby d3_24)
  refine GoW.sg (mkF m 27 (Sh7 a1 9223372036854775807) [(.int 1)]) (fun t k => st110 t k) ?_
  refine GoW.sg (mkF m 30 (Sh7 a1 9223372036854775807) []) (fun t k => XS.ifNo X110.here hx rfl (hb hby d3_27) rfl (by decide) k) ?_
  refine GoW.sg (mkF m 31 (Sh7 a1 9223372036854775807) [(.ref a1)]) (fun t k => XS.aloadN X110.here hx rfl (hb hby d3_30) rfl rfl k) ?_
  obtain ⟨T111, X111, e111, st111⟩ := getF X110 hx hZ hown (host := "") (Or.inl (ww hw 9 rfl)) Via.refl e110 Fld_a1_answeredShare_109 (g := (mkF m 31 (Sh7 a1 9223372036854775807) [(.ref a1)])) rfl rfl (hb hby d3_31)
  refine GoW.sg (mkF m 34 (Sh7 a1 9223372036854775807) [(.double 4607182418800017408)]) (fun t k => st111 t k) ?_
  refine GoW.sg (mkF m 37 (Sh7 a1 9223372036854775807) [(.double 4598175219545276416), (.double 4607182418800017408)]) (fun t k => X111.ldc2DoubleC hx hown (mvT hZ (ww hw 33 rfl)) (g := (mkF m 34 (Sh7 a1 9223372036854775807) [(.double 4607182418800017408)])) rfl (hb hby d3_34) t k) ?_
  refine GoW.sg (mkF m 38 (Sh7 a1 9223372036854775807) [(.int 1)]) (fun t k => XS.dcmpS X111.here hx rfl (hb hby d3_37) rfl (v := (1 : Int32)) (by decide +kernel) k) ?_
  refine GoW.sg (mkF m 41 (Sh7 a1 9223372036854775807) []) (fun t k => XS.ifNo X111.here hx rfl (hb hby d3_38) rfl (by decide) k) ?_
  refine GoW.sg (mkF m 44 (Sh7 a1 9223372036854775807) [(.long 20000)]) (fun t k => X111.ldc2Long hx hown (mvT hZ (ww hw 20 rfl)) (g := (mkF m 41 (Sh7 a1 9223372036854775807) [])) rfl (hb hby d3_41) t k) ?_
  refine GoW.sg (mkF m 48 (Sh7 a1 9223372036854775807) [(.long 20000)]) (fun t k => XS.goto X111.here hx rfl (pc0 := 44) (pc' := 48) rfl (hb hby d3_44) (by decide) (by decide) k) ?_
  refine GoW.retL X111 hx Bd.returns (hb hby d3_48) Bd.notSynchronized ?_ (by decide) (by decide)
  rw [e111]
  exact ⟨rfl, N109, Keep_109, Exa_a1_109, Fld_a1_answeredShare_109, Fld_a1_handedOn_109, Fld_a1_awaitsAnswer_109⟩
def Q7_12 (Z : State) (a1 : Addr) (h0 : Heap) (n0 : Nat) (v : Option Value) (h : Heap) (L : List Loc) : Prop := v = none ∧ Fr n0 L ∧ (Keep h0 h [a1]) ∧ (Exa Z h a1 "com/example/spindle/spindle/SpinRule") ∧ (Fld Z h a1 "com/example/spindle/spindle/SpinRule" "answeredShare" "D" (.double (4606056518893174784 : UInt64))) ∧ (Fld Z h a1 "com/example/spindle/spindle/SpinRule" "handedOn" "Z" (.int (0 : Int32))) ∧ (Fld Z h a1 "com/example/spindle/spindle/SpinRule" "awaitsAnswer" "Z" (.int (1 : Int32)))
theorem ef7_rm7_12 (m : MethodId) (a1 : Addr) : entryFrame m #[(.ref a1), (.int (0 : Int32)), (.int (0 : Int32)), (.long (20000 : Int64))] 6 = (mkF m 0 #[.val (.ref a1), .val (.int 0), .val (.int 0), .val (.long 20000), .second, .unset] []) := by first | (simp [entryFrame, mkF, argsToLocals, Value.category, maxLocals]; done) | rfl
set_option maxRecDepth 65536 in
set_option maxHeartbeats 40000000 in
theorem rm7_12 (l : Launch) (Z : State) (a0 : Array Value) (hw : ∀ d ∈ tables_1, d.before a0 Z = true) (ws : List Jvm.Cond) (a1 : Addr)  (h0 : Heap) (n0 : Nat) (P0 : Exa Z h0 a1 "com/example/spindle/spindle/SpinRule") (P1 : Fld Z h0 a1 "com/example/spindle/spindle/SpinRule" "answeredShare" "D" (.double (4607182418800017408 : UInt64))) (P2 : Fld Z h0 a1 "com/example/spindle/spindle/SpinRule" "handedOn" "Z" (.int (0 : Int32))) (P3 : Fld Z h0 a1 "com/example/spindle/spindle/SpinRule" "awaitsAnswer" "Z" (.int (1 : Int32))) (g_a1 : n0 ≤ a1)    :
    MetFree l (⟨"com/example/spindle/spindle/SpinRule", "countWait", "(ZZJ)V"⟩ : MethodName) (head1 (Jvm.Cond.code (⟨"com/example/spindle/spindle/SpinRule", "countWait", "(ZZJ)V"⟩ : MethodName) prog_40_method_5_code 6 none :: ws) ({ frames := 0, cells := 0, slots := 0, locals := 0 } : Room)) (fun a U => a = #[(.ref a1), (.int (0 : Int32)), (.int (0 : Int32)), (.long (20000 : Int64))] ∧ Z.Warmed39 U.vm ∧ U.heap = h0) (fun _ _ _ _ _ => True) (fun _ U o U' => ∃ v L, o = .returned v ∧ (Q7_12 Z a1 h0 n0) v U'.heap L ∧ FrameEnd U o U' L 0 0) := by
  refine MetFree.of_bodySF (plainFor_of_name pn_com_example_spindle_spindle_SpinRule) hisR ?_
  intro p e s m args below meth c s₁ Bd hml0 hP hK
  obtain ⟨rfl, hZ, hh⟩ := hP
  have hx := Bd.exec
  have hby := Bd.bytes
  have hml : c.maxLocals = 6 := hml0
  have hown : s.vm.findClass "com/example/spindle/spindle/SpinRule" = some m.cls := findClass_of_methodNamed Bd.named
  have hnm := (name_of_methodNamed Bd.named Bd.method).1
  have X0 : Stand p l e ({ frames := 0, cells := 0, slots := 0, locals := 0 } : Room) s m #[(.ref a1), (.int (0 : Int32)), (.int (0 : Int32)), (.long (20000 : Int64))] below meth c s₁ [] 0 0 := Stand.of_body Bd
  have e0 : s₁.heap = h0 := by rw [← hh, Bd.state]; rfl
  have N0 := Fr.nil n0
  refine GoW.mk ?_
  refine GoW.st (fun t k => castTop (ef7_rm7_12 m a1) k) ?_
  show GoW p e below s (Q7_12 Z a1 h0 n0) 0 0 (s₁.setTop (mkF m 0 (Sh12 a1 0 0 20000) []))
  refine GoW.sg (mkF m 1 (Sh12 a1 0 0 20000) [(.ref a1)]) (fun t k => XS.aloadN X0.here hx rfl (hb hby d7_0) rfl rfl k) ?_
  obtain ⟨T117, X117, e117, st117⟩ := getF X0 hx hZ hown (host := "") (Or.inl (ww hw 18 rfl)) Via.refl e0 P3 (g := (mkF m 1 (Sh12 a1 0 0 20000) [(.ref a1)])) rfl rfl (hb hby d7_1)
  refine GoW.sg (mkF m 4 (Sh12 a1 0 0 20000) [(.int 1)]) (fun t k => st117 t k) ?_
  refine GoW.sg (mkF m 7 (Sh12 a1 0 0 20000) []) (fun t k => XS.ifNo X117.here hx rfl (hb hby d7_4) rfl (by decide) k) ?_
  refine GoW.sg (mkF m 8 (Sh12 a1 0 0 20000) [(.int 0)]) (fun t k => XS.iloadN X117.here hx rfl (hb hby d7_7) rfl k) ?_
  refine GoW.sg (mkF m 11 (Sh12 a1 0 0 20000) []) (fun t k => XS.ifNo X117.here hx rfl (hb hby d7_8) rfl (by decide) k) ?_
  refine GoW.sg (mkF m 12 (Sh12 a1 0 0 20000) [(.long 20000)]) (fun t k => XS.lloadN X117.here hx rfl (hb hby d7_11) rfl k) ?_
  refine GoW.sg (mkF m 15 (Sh12 a1 0 0 20000) [(.long 20000), (.long 20000)]) (fun t k => X117.ldc2Long hx hown (mvT hZ (ww hw 20 rfl)) (g := (mkF m 12 (Sh12 a1 0 0 20000) [(.long 20000)])) rfl (hb hby d7_12) t k) ?_
  refine GoW.sg (mkF m 16 (Sh12 a1 0 0 20000) [(.int (lcmpW (20000 : Int64) (20000 : Int64)))]) (fun t k => XS.lcmp X117.here hx rfl (hb hby d7_15) rfl k) ?_
  refine GoW.sg (mkF m 20 (Sh12 a1 0 0 20000) []) (fun t k => XS.ifYes X117.here hx rfl (pc0 := 16) (pc' := 20) rfl (hb hby d7_16) rfl (by decide) (by decide) (by decide) k) ?_
  refine GoW.sg (mkF m 21 (Sh12 a1 0 0 20000) [(.int 0)]) (fun t k => XS.iloadN X117.here hx rfl (hb hby d7_20) rfl k) ?_
  refine GoW.sg (mkF m 40 (Sh12 a1 0 0 20000) []) (fun t k => XS.ifYes X117.here hx rfl (pc0 := 21) (pc' := 40) rfl (hb hby d7_21) rfl (by decide) (by decide) (by decide) k) ?_
  refine GoW.sg (mkF m 41 (Sh12 a1 0 0 20000) [(.int 0)]) (fun t k => XS.iconst X117.here hx rfl (hb hby d7_40) k) ?_
  refine GoW.sg (mkF m 43 (Sh13 a1 0 0 20000 0) []) (fun t k => XS.istore X117.here hx rfl (hb hby d7_41) rfl (l' := (Sh13 a1 0 0 20000 0)) rfl k) ?_
  refine GoW.sg (mkF m 44 (Sh13 a1 0 0 20000 0) [(.ref a1)]) (fun t k => XS.aloadN X117.here hx rfl (hb hby d7_43) rfl rfl k) ?_
  refine GoW.sg (mkF m 45 (Sh13 a1 0 0 20000 0) [(.ref a1), (.ref a1)]) (fun t k => XS.dup X117.here hx rfl (hb hby d7_44) rfl rfl k) ?_
  obtain ⟨T118, X118, e118, st118⟩ := getF X117 hx hZ hown (host := "") (Or.inl (ww hw 9 rfl)) Via.refl e117 P1 (g := (mkF m 45 (Sh13 a1 0 0 20000 0) [(.ref a1), (.ref a1)])) rfl rfl (hb hby d7_45)
  refine GoW.sg (mkF m 48 (Sh13 a1 0 0 20000 0) [(.double 4607182418800017408), (.ref a1)]) (fun t k => st118 t k) ?_
  refine GoW.sg (mkF m 50 (Sh13 a1 0 0 20000 0) [(.int 0), (.double 4607182418800017408), (.ref a1)]) (fun t k => XS.iload X118.here hx rfl (hb hby d7_48) rfl k) ?_
  refine GoW.sg (mkF m 57 (Sh13 a1 0 0 20000 0) [(.double 4607182418800017408), (.ref a1)]) (fun t k => XS.ifYes X118.here hx rfl (pc0 := 50) (pc' := 57) rfl (hb hby d7_50) rfl (by decide) (by decide) (by decide) k) ?_
  refine GoW.sg (mkF m 58 (Sh13 a1 0 0 20000 0) [(.int 0), (.double 4607182418800017408), (.ref a1)]) (fun t k => XS.iconst X118.here hx rfl (hb hby d7_57) k) ?_
  refine GoW.sg (mkF m 59 (Sh13 a1 0 0 20000 0) [(.double 0), (.double 4607182418800017408), (.ref a1)]) (fun t k => XS.i2dS X118.here hx rfl (hb hby d7_58) rfl (v := (0 : UInt64)) (by decide +kernel) k) ?_
  refine GoW.sg (mkF m 60 (Sh13 a1 0 0 20000 0) [(.ref a1), (.double 0), (.double 4607182418800017408), (.ref a1)]) (fun t k => XS.aloadN X118.here hx rfl (hb hby d7_59) rfl rfl k) ?_
  obtain ⟨T119, X119, e119, st119⟩ := getF X118 hx hZ hown (host := "") (Or.inl (ww hw 9 rfl)) Via.refl e118 P1 (g := (mkF m 60 (Sh13 a1 0 0 20000 0) [(.ref a1), (.double 0), (.double 4607182418800017408), (.ref a1)])) rfl rfl (hb hby d7_60)
  refine GoW.sg (mkF m 63 (Sh13 a1 0 0 20000 0) [(.double 4607182418800017408), (.double 0), (.double 4607182418800017408), (.ref a1)]) (fun t k => st119 t k) ?_
  refine GoW.sg (mkF m 64 (Sh13 a1 0 0 20000 0) [(.double 13830554455654793216), (.double 4607182418800017408), (.ref a1)]) (fun t k => XS.dsubS X119.here hx rfl (hb hby d7_63) rfl (v := (13830554455654793216 : UInt64)) (by decide +kernel) (by decide +kernel) k) ?_
  refine GoW.sg (mkF m 67 (Sh13 a1 0 0 20000 0) [(.double 4593671619917905920), (.double 13830554455654793216), (.double 4607182418800017408), (.ref a1)]) (fun t k => X119.ldc2DoubleC hx hown (mvT hZ (ww hw 43 rfl)) (g := (mkF m 64 (Sh13 a1 0 0 20000 0) [(.double 13830554455654793216), (.double 4607182418800017408), (.ref a1)])) rfl (hb hby d7_64) t k) ?_
  refine GoW.sg (mkF m 68 (Sh13 a1 0 0 20000 0) [(.double 13817043656772681728), (.double 4607182418800017408), (.ref a1)]) (fun t k => XS.dmulS X119.here hx rfl (hb hby d7_67) rfl (v := (13817043656772681728 : UInt64)) (by decide +kernel) (by decide +kernel) k) ?_
  refine GoW.sg (mkF m 69 (Sh13 a1 0 0 20000 0) [(.double 4606056518893174784), (.ref a1)]) (fun t k => XS.daddS X119.here hx rfl (hb hby d7_68) rfl (v := (4606056518893174784 : UInt64)) (by decide +kernel) (by decide +kernel) k) ?_
  obtain ⟨T120, h120, X120, e120, W120, st120⟩ := putF X119 hx hZ hown (host := "") (Or.inl (ww hw 9 rfl)) Via.refl e119 P1 P0 (Or.inl (ww hw 10 rfl)) (ww hw 1 rfl) (ty := .double) (by decide) rfl rfl (g := (mkF m 69 (Sh13 a1 0 0 20000 0) [(.double 4606056518893174784), (.ref a1)])) rfl rfl (hb hby d7_69)
  have N120 := Fr.snoc X120 N0 g_a1
  have Exa_a1_120 : Exa Z h120 a1 "com/example/spindle/spindle/SpinRule" := P0.wr W120
  have Fld_a1_handedOn_120 : Fld Z h120 a1 "com/example/spindle/spindle/SpinRule" "handedOn" "Z" (.int (0 : Int32)) := P2.other W120 (Or.inr (slot_ne (t := .boolean) (t' := .double) (Or.inl (ww hw 17 rfl)) (Or.inl (ww hw 10 rfl)) (by decide) (by decide) (by decide)))
  have Fld_a1_awaitsAnswer_120 : Fld Z h120 a1 "com/example/spindle/spindle/SpinRule" "awaitsAnswer" "Z" (.int (1 : Int32)) := P3.other W120 (Or.inr (slot_ne (t := .boolean) (t' := .double) (Or.inl (ww hw 19 rfl)) (Or.inl (ww hw 10 rfl)) (by decide) (by decide) (by decide)))
  have Keep_120 : Keep h0 h120 [a1] := (Keep.refl h0 [a1]).wr W120 (Or.inl (List.mem_of_getElem? (i := 0) rfl))
  have Fld_a1_answeredShare_120 : Fld Z h120 a1 "com/example/spindle/spindle/SpinRule" "answeredShare" "D" (.double (4606056518893174784 : UInt64)) := P1.same W120
  refine GoW.sg (mkF m 72 (Sh13 a1 0 0 20000 0) []) (fun t k => st120 t k) ?_
  refine GoW.retV X120 hx Bd.returns (hb hby d7_72) Bd.notSynchronized ?_ (by decide) (by decide)
  rw [e120]
  exact ⟨rfl, N120, Keep_120, Exa_a1_120, Fld_a1_answeredShare_120, Fld_a1_handedOn_120, Fld_a1_awaitsAnswer_120⟩
def Q7_13 (Z : State) (a1 : Addr) (h0 : Heap) (n0 : Nat) (v : Option Value) (h : Heap) (L : List Loc) : Prop := v = none ∧ Fr n0 L ∧ (Keep h0 h [a1]) ∧ (Exa Z h a1 "com/example/spindle/spindle/SpinRule") ∧ (Fld Z h a1 "com/example/spindle/spindle/SpinRule" "answeredShare" "D" (.double (4605071356474687488 : UInt64))) ∧ (Fld Z h a1 "com/example/spindle/spindle/SpinRule" "handedOn" "Z" (.int (0 : Int32))) ∧ (Fld Z h a1 "com/example/spindle/spindle/SpinRule" "awaitsAnswer" "Z" (.int (1 : Int32)))
theorem ef7_rm7_13 (m : MethodId) (a1 : Addr) : entryFrame m #[(.ref a1), (.int (0 : Int32)), (.int (0 : Int32)), (.long (20000 : Int64))] 6 = (mkF m 0 #[.val (.ref a1), .val (.int 0), .val (.int 0), .val (.long 20000), .second, .unset] []) := by first | (simp [entryFrame, mkF, argsToLocals, Value.category, maxLocals]; done) | rfl
set_option maxRecDepth 65536 in
set_option maxHeartbeats 40000000 in
theorem rm7_13 (l : Launch) (Z : State) (a0 : Array Value) (hw : ∀ d ∈ tables_1, d.before a0 Z = true) (ws : List Jvm.Cond) (a1 : Addr)  (h0 : Heap) (n0 : Nat) (P0 : Exa Z h0 a1 "com/example/spindle/spindle/SpinRule") (P1 : Fld Z h0 a1 "com/example/spindle/spindle/SpinRule" "answeredShare" "D" (.double (4606056518893174784 : UInt64))) (P2 : Fld Z h0 a1 "com/example/spindle/spindle/SpinRule" "handedOn" "Z" (.int (0 : Int32))) (P3 : Fld Z h0 a1 "com/example/spindle/spindle/SpinRule" "awaitsAnswer" "Z" (.int (1 : Int32))) (g_a1 : n0 ≤ a1)    :
    MetFree l (⟨"com/example/spindle/spindle/SpinRule", "countWait", "(ZZJ)V"⟩ : MethodName) (head1 (Jvm.Cond.code (⟨"com/example/spindle/spindle/SpinRule", "countWait", "(ZZJ)V"⟩ : MethodName) prog_40_method_5_code 6 none :: ws) ({ frames := 0, cells := 0, slots := 0, locals := 0 } : Room)) (fun a U => a = #[(.ref a1), (.int (0 : Int32)), (.int (0 : Int32)), (.long (20000 : Int64))] ∧ Z.Warmed39 U.vm ∧ U.heap = h0) (fun _ _ _ _ _ => True) (fun _ U o U' => ∃ v L, o = .returned v ∧ (Q7_13 Z a1 h0 n0) v U'.heap L ∧ FrameEnd U o U' L 0 0) := by
  refine MetFree.of_bodySF (plainFor_of_name pn_com_example_spindle_spindle_SpinRule) hisR ?_
  intro p e s m args below meth c s₁ Bd hml0 hP hK
  obtain ⟨rfl, hZ, hh⟩ := hP
  have hx := Bd.exec
  have hby := Bd.bytes
  have hml : c.maxLocals = 6 := hml0
  have hown : s.vm.findClass "com/example/spindle/spindle/SpinRule" = some m.cls := findClass_of_methodNamed Bd.named
  have hnm := (name_of_methodNamed Bd.named Bd.method).1
  have X0 : Stand p l e ({ frames := 0, cells := 0, slots := 0, locals := 0 } : Room) s m #[(.ref a1), (.int (0 : Int32)), (.int (0 : Int32)), (.long (20000 : Int64))] below meth c s₁ [] 0 0 := Stand.of_body Bd
  have e0 : s₁.heap = h0 := by rw [← hh, Bd.state]; rfl
  have N0 := Fr.nil n0
  refine GoW.mk ?_
  refine GoW.st (fun t k => castTop (ef7_rm7_13 m a1) k) ?_
  show GoW p e below s (Q7_13 Z a1 h0 n0) 0 0 (s₁.setTop (mkF m 0 (Sh12 a1 0 0 20000) []))
  refine GoW.sg (mkF m 1 (Sh12 a1 0 0 20000) [(.ref a1)]) (fun t k => XS.aloadN X0.here hx rfl (hb hby d7_0) rfl rfl k) ?_
  obtain ⟨T126, X126, e126, st126⟩ := getF X0 hx hZ hown (host := "") (Or.inl (ww hw 18 rfl)) Via.refl e0 P3 (g := (mkF m 1 (Sh12 a1 0 0 20000) [(.ref a1)])) rfl rfl (hb hby d7_1)
  refine GoW.sg (mkF m 4 (Sh12 a1 0 0 20000) [(.int 1)]) (fun t k => st126 t k) ?_
  refine GoW.sg (mkF m 7 (Sh12 a1 0 0 20000) []) (fun t k => XS.ifNo X126.here hx rfl (hb hby d7_4) rfl (by decide) k) ?_
  refine GoW.sg (mkF m 8 (Sh12 a1 0 0 20000) [(.int 0)]) (fun t k => XS.iloadN X126.here hx rfl (hb hby d7_7) rfl k) ?_
  refine GoW.sg (mkF m 11 (Sh12 a1 0 0 20000) []) (fun t k => XS.ifNo X126.here hx rfl (hb hby d7_8) rfl (by decide) k) ?_
  refine GoW.sg (mkF m 12 (Sh12 a1 0 0 20000) [(.long 20000)]) (fun t k => XS.lloadN X126.here hx rfl (hb hby d7_11) rfl k) ?_
  refine GoW.sg (mkF m 15 (Sh12 a1 0 0 20000) [(.long 20000), (.long 20000)]) (fun t k => X126.ldc2Long hx hown (mvT hZ (ww hw 20 rfl)) (g := (mkF m 12 (Sh12 a1 0 0 20000) [(.long 20000)])) rfl (hb hby d7_12) t k) ?_
  refine GoW.sg (mkF m 16 (Sh12 a1 0 0 20000) [(.int (lcmpW (20000 : Int64) (20000 : Int64)))]) (fun t k => XS.lcmp X126.here hx rfl (hb hby d7_15) rfl k) ?_
  refine GoW.sg (mkF m 20 (Sh12 a1 0 0 20000) []) (fun t k => XS.ifYes X126.here hx rfl (pc0 := 16) (pc' := 20) rfl (hb hby d7_16) rfl (by decide) (by decide) (by decide) k) ?_
  refine GoW.sg (mkF m 21 (Sh12 a1 0 0 20000) [(.int 0)]) (fun t k => XS.iloadN X126.here hx rfl (hb hby d7_20) rfl k) ?_
  refine GoW.sg (mkF m 40 (Sh12 a1 0 0 20000) []) (fun t k => XS.ifYes X126.here hx rfl (pc0 := 21) (pc' := 40) rfl (hb hby d7_21) rfl (by decide) (by decide) (by decide) k) ?_
  refine GoW.sg (mkF m 41 (Sh12 a1 0 0 20000) [(.int 0)]) (fun t k => XS.iconst X126.here hx rfl (hb hby d7_40) k) ?_
  refine GoW.sg (mkF m 43 (Sh13 a1 0 0 20000 0) []) (fun t k => XS.istore X126.here hx rfl (hb hby d7_41) rfl (l' := (Sh13 a1 0 0 20000 0)) rfl k) ?_
  refine GoW.sg (mkF m 44 (Sh13 a1 0 0 20000 0) [(.ref a1)]) (fun t k => XS.aloadN X126.here hx rfl (hb hby d7_43) rfl rfl k) ?_
  refine GoW.sg (mkF m 45 (Sh13 a1 0 0 20000 0) [(.ref a1), (.ref a1)]) (fun t k => XS.dup X126.here hx rfl (hb hby d7_44) rfl rfl k) ?_
  obtain ⟨T127, X127, e127, st127⟩ := getF X126 hx hZ hown (host := "") (Or.inl (ww hw 9 rfl)) Via.refl e126 P1 (g := (mkF m 45 (Sh13 a1 0 0 20000 0) [(.ref a1), (.ref a1)])) rfl rfl (hb hby d7_45)
  refine GoW.sg (mkF m 48 (Sh13 a1 0 0 20000 0) [(.double 4606056518893174784), (.ref a1)]) (fun t k => st127 t k) ?_
  refine GoW.sg (mkF m 50 (Sh13 a1 0 0 20000 0) [(.int 0), (.double 4606056518893174784), (.ref a1)]) (fun t k => XS.iload X127.here hx rfl (hb hby d7_48) rfl k) ?_
  refine GoW.sg (mkF m 57 (Sh13 a1 0 0 20000 0) [(.double 4606056518893174784), (.ref a1)]) (fun t k => XS.ifYes X127.here hx rfl (pc0 := 50) (pc' := 57) rfl (hb hby d7_50) rfl (by decide) (by decide) (by decide) k) ?_
  refine GoW.sg (mkF m 58 (Sh13 a1 0 0 20000 0) [(.int 0), (.double 4606056518893174784), (.ref a1)]) (fun t k => XS.iconst X127.here hx rfl (hb hby d7_57) k) ?_
  refine GoW.sg (mkF m 59 (Sh13 a1 0 0 20000 0) [(.double 0), (.double 4606056518893174784), (.ref a1)]) (fun t k => XS.i2dS X127.here hx rfl (hb hby d7_58) rfl (v := (0 : UInt64)) (by decide +kernel) k) ?_
  refine GoW.sg (mkF m 60 (Sh13 a1 0 0 20000 0) [(.ref a1), (.double 0), (.double 4606056518893174784), (.ref a1)]) (fun t k => XS.aloadN X127.here hx rfl (hb hby d7_59) rfl rfl k) ?_
  obtain ⟨T128, X128, e128, st128⟩ := getF X127 hx hZ hown (host := "") (Or.inl (ww hw 9 rfl)) Via.refl e127 P1 (g := (mkF m 60 (Sh13 a1 0 0 20000 0) [(.ref a1), (.double 0), (.double 4606056518893174784), (.ref a1)])) rfl rfl (hb hby d7_60)
  refine GoW.sg (mkF m 63 (Sh13 a1 0 0 20000 0) [(.double 4606056518893174784), (.double 0), (.double 4606056518893174784), (.ref a1)]) (fun t k => st128 t k) ?_
  refine GoW.sg (mkF m 64 (Sh13 a1 0 0 20000 0) [(.double 13829428555747950592), (.double 4606056518893174784), (.ref a1)]) (fun t k => XS.dsubS X128.here hx rfl (hb hby d7_63) rfl (v := (13829428555747950592 : UInt64)) (by decide +kernel) (by decide +kernel) k) ?_
  refine GoW.sg (mkF m 67 (Sh13 a1 0 0 20000 0) [(.double 4593671619917905920), (.double 13829428555747950592), (.double 4606056518893174784), (.ref a1)]) (fun t k => X128.ldc2DoubleC hx hown (mvT hZ (ww hw 43 rfl)) (g := (mkF m 64 (Sh13 a1 0 0 20000 0) [(.double 13829428555747950592), (.double 4606056518893174784), (.ref a1)])) rfl (hb hby d7_64) t k) ?_
  refine GoW.sg (mkF m 68 (Sh13 a1 0 0 20000 0) [(.double 13815917756865839104), (.double 4606056518893174784), (.ref a1)]) (fun t k => XS.dmulS X128.here hx rfl (hb hby d7_67) rfl (v := (13815917756865839104 : UInt64)) (by decide +kernel) (by decide +kernel) k) ?_
  refine GoW.sg (mkF m 69 (Sh13 a1 0 0 20000 0) [(.double 4605071356474687488), (.ref a1)]) (fun t k => XS.daddS X128.here hx rfl (hb hby d7_68) rfl (v := (4605071356474687488 : UInt64)) (by decide +kernel) (by decide +kernel) k) ?_
  obtain ⟨T129, h129, X129, e129, W129, st129⟩ := putF X128 hx hZ hown (host := "") (Or.inl (ww hw 9 rfl)) Via.refl e128 P1 P0 (Or.inl (ww hw 10 rfl)) (ww hw 1 rfl) (ty := .double) (by decide) rfl rfl (g := (mkF m 69 (Sh13 a1 0 0 20000 0) [(.double 4605071356474687488), (.ref a1)])) rfl rfl (hb hby d7_69)
  have N129 := Fr.snoc X129 N0 g_a1
  have Exa_a1_129 : Exa Z h129 a1 "com/example/spindle/spindle/SpinRule" := P0.wr W129
  have Fld_a1_handedOn_129 : Fld Z h129 a1 "com/example/spindle/spindle/SpinRule" "handedOn" "Z" (.int (0 : Int32)) := P2.other W129 (Or.inr (slot_ne (t := .boolean) (t' := .double) (Or.inl (ww hw 17 rfl)) (Or.inl (ww hw 10 rfl)) (by decide) (by decide) (by decide)))
  have Fld_a1_awaitsAnswer_129 : Fld Z h129 a1 "com/example/spindle/spindle/SpinRule" "awaitsAnswer" "Z" (.int (1 : Int32)) := P3.other W129 (Or.inr (slot_ne (t := .boolean) (t' := .double) (Or.inl (ww hw 19 rfl)) (Or.inl (ww hw 10 rfl)) (by decide) (by decide) (by decide)))
  have Keep_129 : Keep h0 h129 [a1] := (Keep.refl h0 [a1]).wr W129 (Or.inl (List.mem_of_getElem? (i := 0) rfl))
  have Fld_a1_answeredShare_129 : Fld Z h129 a1 "com/example/spindle/spindle/SpinRule" "answeredShare" "D" (.double (4605071356474687488 : UInt64)) := P1.same W129
  refine GoW.sg (mkF m 72 (Sh13 a1 0 0 20000 0) []) (fun t k => st129 t k) ?_
  refine GoW.retV X129 hx Bd.returns (hb hby d7_72) Bd.notSynchronized ?_ (by decide) (by decide)
  rw [e129]
  exact ⟨rfl, N129, Keep_129, Exa_a1_129, Fld_a1_answeredShare_129, Fld_a1_handedOn_129, Fld_a1_awaitsAnswer_129⟩
def Q7_14 (Z : State) (a1 : Addr) (h0 : Heap) (n0 : Nat) (v : Option Value) (h : Heap) (L : List Loc) : Prop := v = none ∧ Fr n0 L ∧ (Keep h0 h [a1]) ∧ (Exa Z h a1 "com/example/spindle/spindle/SpinRule") ∧ (Fld Z h a1 "com/example/spindle/spindle/SpinRule" "answeredShare" "D" (.double (4604209339358511104 : UInt64))) ∧ (Fld Z h a1 "com/example/spindle/spindle/SpinRule" "handedOn" "Z" (.int (0 : Int32))) ∧ (Fld Z h a1 "com/example/spindle/spindle/SpinRule" "awaitsAnswer" "Z" (.int (1 : Int32)))
theorem ef7_rm7_14 (m : MethodId) (a1 : Addr) : entryFrame m #[(.ref a1), (.int (0 : Int32)), (.int (0 : Int32)), (.long (20000 : Int64))] 6 = (mkF m 0 #[.val (.ref a1), .val (.int 0), .val (.int 0), .val (.long 20000), .second, .unset] []) := by first | (simp [entryFrame, mkF, argsToLocals, Value.category, maxLocals]; done) | rfl
set_option maxRecDepth 65536 in
set_option maxHeartbeats 40000000 in
theorem rm7_14 (l : Launch) (Z : State) (a0 : Array Value) (hw : ∀ d ∈ tables_1, d.before a0 Z = true) (ws : List Jvm.Cond) (a1 : Addr)  (h0 : Heap) (n0 : Nat) (P0 : Exa Z h0 a1 "com/example/spindle/spindle/SpinRule") (P1 : Fld Z h0 a1 "com/example/spindle/spindle/SpinRule" "answeredShare" "D" (.double (4605071356474687488 : UInt64))) (P2 : Fld Z h0 a1 "com/example/spindle/spindle/SpinRule" "handedOn" "Z" (.int (0 : Int32))) (P3 : Fld Z h0 a1 "com/example/spindle/spindle/SpinRule" "awaitsAnswer" "Z" (.int (1 : Int32))) (g_a1 : n0 ≤ a1)    :
    MetFree l (⟨"com/example/spindle/spindle/SpinRule", "countWait", "(ZZJ)V"⟩ : MethodName) (head1 (Jvm.Cond.code (⟨"com/example/spindle/spindle/SpinRule", "countWait", "(ZZJ)V"⟩ : MethodName) prog_40_method_5_code 6 none :: ws) ({ frames := 0, cells := 0, slots := 0, locals := 0 } : Room)) (fun a U => a = #[(.ref a1), (.int (0 : Int32)), (.int (0 : Int32)), (.long (20000 : Int64))] ∧ Z.Warmed39 U.vm ∧ U.heap = h0) (fun _ _ _ _ _ => True) (fun _ U o U' => ∃ v L, o = .returned v ∧ (Q7_14 Z a1 h0 n0) v U'.heap L ∧ FrameEnd U o U' L 0 0) := by
  refine MetFree.of_bodySF (plainFor_of_name pn_com_example_spindle_spindle_SpinRule) hisR ?_
  intro p e s m args below meth c s₁ Bd hml0 hP hK
  obtain ⟨rfl, hZ, hh⟩ := hP
  have hx := Bd.exec
  have hby := Bd.bytes
  have hml : c.maxLocals = 6 := hml0
  have hown : s.vm.findClass "com/example/spindle/spindle/SpinRule" = some m.cls := findClass_of_methodNamed Bd.named
  have hnm := (name_of_methodNamed Bd.named Bd.method).1
  have X0 : Stand p l e ({ frames := 0, cells := 0, slots := 0, locals := 0 } : Room) s m #[(.ref a1), (.int (0 : Int32)), (.int (0 : Int32)), (.long (20000 : Int64))] below meth c s₁ [] 0 0 := Stand.of_body Bd
  have e0 : s₁.heap = h0 := by rw [← hh, Bd.state]; rfl
  have N0 := Fr.nil n0
  refine GoW.mk ?_
  refine GoW.st (fun t k => castTop (ef7_rm7_14 m a1) k) ?_
  show GoW p e below s (Q7_14 Z a1 h0 n0) 0 0 (s₁.setTop (mkF m 0 (Sh12 a1 0 0 20000) []))
  refine GoW.sg (mkF m 1 (Sh12 a1 0 0 20000) [(.ref a1)]) (fun t k => XS.aloadN X0.here hx rfl (hb hby d7_0) rfl rfl k) ?_
  obtain ⟨T135, X135, e135, st135⟩ := getF X0 hx hZ hown (host := "") (Or.inl (ww hw 18 rfl)) Via.refl e0 P3 (g := (mkF m 1 (Sh12 a1 0 0 20000) [(.ref a1)])) rfl rfl (hb hby d7_1)
  refine GoW.sg (mkF m 4 (Sh12 a1 0 0 20000) [(.int 1)]) (fun t k => st135 t k) ?_
  refine GoW.sg (mkF m 7 (Sh12 a1 0 0 20000) []) (fun t k => XS.ifNo X135.here hx rfl (hb hby d7_4) rfl (by decide) k) ?_
  refine GoW.sg (mkF m 8 (Sh12 a1 0 0 20000) [(.int 0)]) (fun t k => XS.iloadN X135.here hx rfl (hb hby d7_7) rfl k) ?_
  refine GoW.sg (mkF m 11 (Sh12 a1 0 0 20000) []) (fun t k => XS.ifNo X135.here hx rfl (hb hby d7_8) rfl (by decide) k) ?_
  refine GoW.sg (mkF m 12 (Sh12 a1 0 0 20000) [(.long 20000)]) (fun t k => XS.lloadN X135.here hx rfl (hb hby d7_11) rfl k) ?_
  refine GoW.sg (mkF m 15 (Sh12 a1 0 0 20000) [(.long 20000), (.long 20000)]) (fun t k => X135.ldc2Long hx hown (mvT hZ (ww hw 20 rfl)) (g := (mkF m 12 (Sh12 a1 0 0 20000) [(.long 20000)])) rfl (hb hby d7_12) t k) ?_
  refine GoW.sg (mkF m 16 (Sh12 a1 0 0 20000) [(.int (lcmpW (20000 : Int64) (20000 : Int64)))]) (fun t k => XS.lcmp X135.here hx rfl (hb hby d7_15) rfl k) ?_
  refine GoW.sg (mkF m 20 (Sh12 a1 0 0 20000) []) (fun t k => XS.ifYes X135.here hx rfl (pc0 := 16) (pc' := 20) rfl (hb hby d7_16) rfl (by decide) (by decide) (by decide) k) ?_
  refine GoW.sg (mkF m 21 (Sh12 a1 0 0 20000) [(.int 0)]) (fun t k => XS.iloadN X135.here hx rfl (hb hby d7_20) rfl k) ?_
  refine GoW.sg (mkF m 40 (Sh12 a1 0 0 20000) []) (fun t k => XS.ifYes X135.here hx rfl (pc0 := 21) (pc' := 40) rfl (hb hby d7_21) rfl (by decide) (by decide) (by decide) k) ?_
  refine GoW.sg (mkF m 41 (Sh12 a1 0 0 20000) [(.int 0)]) (fun t k => XS.iconst X135.here hx rfl (hb hby d7_40) k) ?_
  refine GoW.sg (mkF m 43 (Sh13 a1 0 0 20000 0) []) (fun t k => XS.istore X135.here hx rfl (hb hby d7_41) rfl (l' := (Sh13 a1 0 0 20000 0)) rfl k) ?_
  refine GoW.sg (mkF m 44 (Sh13 a1 0 0 20000 0) [(.ref a1)]) (fun t k => XS.aloadN X135.here hx rfl (hb hby d7_43) rfl rfl k) ?_
  refine GoW.sg (mkF m 45 (Sh13 a1 0 0 20000 0) [(.ref a1), (.ref a1)]) (fun t k => XS.dup X135.here hx rfl (hb hby d7_44) rfl rfl k) ?_
  obtain ⟨T136, X136, e136, st136⟩ := getF X135 hx hZ hown (host := "") (Or.inl (ww hw 9 rfl)) Via.refl e135 P1 (g := (mkF m 45 (Sh13 a1 0 0 20000 0) [(.ref a1), (.ref a1)])) rfl rfl (hb hby d7_45)
  refine GoW.sg (mkF m 48 (Sh13 a1 0 0 20000 0) [(.double 4605071356474687488), (.ref a1)]) (fun t k => st136 t k) ?_
  refine GoW.sg (mkF m 50 (Sh13 a1 0 0 20000 0) [(.int 0), (.double 4605071356474687488), (.ref a1)]) (fun t k => XS.iload X136.here hx rfl (hb hby d7_48) rfl k) ?_
  refine GoW.sg (mkF m 57 (Sh13 a1 0 0 20000 0) [(.double 4605071356474687488), (.ref a1)]) (fun t k => XS.ifYes X136.here hx rfl (pc0 := 50) (pc' := 57) rfl (hb hby d7_50) rfl (by decide) (by decide) (by decide) k) ?_
  refine GoW.sg (mkF m 58 (Sh13 a1 0 0 20000 0) [(.int 0), (.double 4605071356474687488), (.ref a1)]) (fun t k => XS.iconst X136.here hx rfl (hb hby d7_57) k) ?_
  refine GoW.sg (mkF m 59 (Sh13 a1 0 0 20000 0) [(.double 0), (.double 4605071356474687488), (.ref a1)]) (fun t k => XS.i2dS X136.here hx rfl (hb hby d7_58) rfl (v := (0 : UInt64)) (by decide +kernel) k) ?_
  refine GoW.sg (mkF m 60 (Sh13 a1 0 0 20000 0) [(.ref a1), (.double 0), (.double 4605071356474687488), (.ref a1)]) (fun t k => XS.aloadN X136.here hx rfl (hb hby d7_59) rfl rfl k) ?_
  obtain ⟨T137, X137, e137, st137⟩ := getF X136 hx hZ hown (host := "") (Or.inl (ww hw 9 rfl)) Via.refl e136 P1 (g := (mkF m 60 (Sh13 a1 0 0 20000 0) [(.ref a1), (.double 0), (.double 4605071356474687488), (.ref a1)])) rfl rfl (hb hby d7_60)
  refine GoW.sg (mkF m 63 (Sh13 a1 0 0 20000 0) [(.double 4605071356474687488), (.double 0), (.double 4605071356474687488), (.ref a1)]) (fun t k => st137 t k) ?_
  refine GoW.sg (mkF m 64 (Sh13 a1 0 0 20000 0) [(.double 13828443393329463296), (.double 4605071356474687488), (.ref a1)]) (fun t k => XS.dsubS X137.here hx rfl (hb hby d7_63) rfl (v := (13828443393329463296 : UInt64)) (by decide +kernel) (by decide +kernel) k) ?_
  refine GoW.sg (mkF m 67 (Sh13 a1 0 0 20000 0) [(.double 4593671619917905920), (.double 13828443393329463296), (.double 4605071356474687488), (.ref a1)]) (fun t k => X137.ldc2DoubleC hx hown (mvT hZ (ww hw 43 rfl)) (g := (mkF m 64 (Sh13 a1 0 0 20000 0) [(.double 13828443393329463296), (.double 4605071356474687488), (.ref a1)])) rfl (hb hby d7_64) t k) ?_
  refine GoW.sg (mkF m 68 (Sh13 a1 0 0 20000 0) [(.double 13814932594447351808), (.double 4605071356474687488), (.ref a1)]) (fun t k => XS.dmulS X137.here hx rfl (hb hby d7_67) rfl (v := (13814932594447351808 : UInt64)) (by decide +kernel) (by decide +kernel) k) ?_
  refine GoW.sg (mkF m 69 (Sh13 a1 0 0 20000 0) [(.double 4604209339358511104), (.ref a1)]) (fun t k => XS.daddS X137.here hx rfl (hb hby d7_68) rfl (v := (4604209339358511104 : UInt64)) (by decide +kernel) (by decide +kernel) k) ?_
  obtain ⟨T138, h138, X138, e138, W138, st138⟩ := putF X137 hx hZ hown (host := "") (Or.inl (ww hw 9 rfl)) Via.refl e137 P1 P0 (Or.inl (ww hw 10 rfl)) (ww hw 1 rfl) (ty := .double) (by decide) rfl rfl (g := (mkF m 69 (Sh13 a1 0 0 20000 0) [(.double 4604209339358511104), (.ref a1)])) rfl rfl (hb hby d7_69)
  have N138 := Fr.snoc X138 N0 g_a1
  have Exa_a1_138 : Exa Z h138 a1 "com/example/spindle/spindle/SpinRule" := P0.wr W138
  have Fld_a1_handedOn_138 : Fld Z h138 a1 "com/example/spindle/spindle/SpinRule" "handedOn" "Z" (.int (0 : Int32)) := P2.other W138 (Or.inr (slot_ne (t := .boolean) (t' := .double) (Or.inl (ww hw 17 rfl)) (Or.inl (ww hw 10 rfl)) (by decide) (by decide) (by decide)))
  have Fld_a1_awaitsAnswer_138 : Fld Z h138 a1 "com/example/spindle/spindle/SpinRule" "awaitsAnswer" "Z" (.int (1 : Int32)) := P3.other W138 (Or.inr (slot_ne (t := .boolean) (t' := .double) (Or.inl (ww hw 19 rfl)) (Or.inl (ww hw 10 rfl)) (by decide) (by decide) (by decide)))
  have Keep_138 : Keep h0 h138 [a1] := (Keep.refl h0 [a1]).wr W138 (Or.inl (List.mem_of_getElem? (i := 0) rfl))
  have Fld_a1_answeredShare_138 : Fld Z h138 a1 "com/example/spindle/spindle/SpinRule" "answeredShare" "D" (.double (4604209339358511104 : UInt64)) := P1.same W138
  refine GoW.sg (mkF m 72 (Sh13 a1 0 0 20000 0) []) (fun t k => st138 t k) ?_
  refine GoW.retV X138 hx Bd.returns (hb hby d7_72) Bd.notSynchronized ?_ (by decide) (by decide)
  rw [e138]
  exact ⟨rfl, N138, Keep_138, Exa_a1_138, Fld_a1_answeredShare_138, Fld_a1_handedOn_138, Fld_a1_awaitsAnswer_138⟩
def Q7_15 (Z : State) (a1 : Addr) (h0 : Heap) (n0 : Nat) (v : Option Value) (h : Heap) (L : List Loc) : Prop := v = none ∧ Fr n0 L ∧ (Keep h0 h [a1]) ∧ (Exa Z h a1 "com/example/spindle/spindle/SpinRule") ∧ (Fld Z h a1 "com/example/spindle/spindle/SpinRule" "answeredShare" "D" (.double (4603455074381856768 : UInt64))) ∧ (Fld Z h a1 "com/example/spindle/spindle/SpinRule" "handedOn" "Z" (.int (0 : Int32))) ∧ (Fld Z h a1 "com/example/spindle/spindle/SpinRule" "awaitsAnswer" "Z" (.int (1 : Int32)))
theorem ef7_rm7_15 (m : MethodId) (a1 : Addr) : entryFrame m #[(.ref a1), (.int (0 : Int32)), (.int (0 : Int32)), (.long (20000 : Int64))] 6 = (mkF m 0 #[.val (.ref a1), .val (.int 0), .val (.int 0), .val (.long 20000), .second, .unset] []) := by first | (simp [entryFrame, mkF, argsToLocals, Value.category, maxLocals]; done) | rfl
set_option maxRecDepth 65536 in
set_option maxHeartbeats 40000000 in
theorem rm7_15 (l : Launch) (Z : State) (a0 : Array Value) (hw : ∀ d ∈ tables_1, d.before a0 Z = true) (ws : List Jvm.Cond) (a1 : Addr)  (h0 : Heap) (n0 : Nat) (P0 : Exa Z h0 a1 "com/example/spindle/spindle/SpinRule") (P1 : Fld Z h0 a1 "com/example/spindle/spindle/SpinRule" "answeredShare" "D" (.double (4604209339358511104 : UInt64))) (P2 : Fld Z h0 a1 "com/example/spindle/spindle/SpinRule" "handedOn" "Z" (.int (0 : Int32))) (P3 : Fld Z h0 a1 "com/example/spindle/spindle/SpinRule" "awaitsAnswer" "Z" (.int (1 : Int32))) (g_a1 : n0 ≤ a1)    :
    MetFree l (⟨"com/example/spindle/spindle/SpinRule", "countWait", "(ZZJ)V"⟩ : MethodName) (head1 (Jvm.Cond.code (⟨"com/example/spindle/spindle/SpinRule", "countWait", "(ZZJ)V"⟩ : MethodName) prog_40_method_5_code 6 none :: ws) ({ frames := 0, cells := 0, slots := 0, locals := 0 } : Room)) (fun a U => a = #[(.ref a1), (.int (0 : Int32)), (.int (0 : Int32)), (.long (20000 : Int64))] ∧ Z.Warmed39 U.vm ∧ U.heap = h0) (fun _ _ _ _ _ => True) (fun _ U o U' => ∃ v L, o = .returned v ∧ (Q7_15 Z a1 h0 n0) v U'.heap L ∧ FrameEnd U o U' L 0 0) := by
  refine MetFree.of_bodySF (plainFor_of_name pn_com_example_spindle_spindle_SpinRule) hisR ?_
  intro p e s m args below meth c s₁ Bd hml0 hP hK
  obtain ⟨rfl, hZ, hh⟩ := hP
  have hx := Bd.exec
  have hby := Bd.bytes
  have hml : c.maxLocals = 6 := hml0
  have hown : s.vm.findClass "com/example/spindle/spindle/SpinRule" = some m.cls := findClass_of_methodNamed Bd.named
  have hnm := (name_of_methodNamed Bd.named Bd.method).1
  have X0 : Stand p l e ({ frames := 0, cells := 0, slots := 0, locals := 0 } : Room) s m #[(.ref a1), (.int (0 : Int32)), (.int (0 : Int32)), (.long (20000 : Int64))] below meth c s₁ [] 0 0 := Stand.of_body Bd
  have e0 : s₁.heap = h0 := by rw [← hh, Bd.state]; rfl
  have N0 := Fr.nil n0
  refine GoW.mk ?_
  refine GoW.st (fun t k => castTop (ef7_rm7_15 m a1) k) ?_
  show GoW p e below s (Q7_15 Z a1 h0 n0) 0 0 (s₁.setTop (mkF m 0 (Sh12 a1 0 0 20000) []))
  refine GoW.sg (mkF m 1 (Sh12 a1 0 0 20000) [(.ref a1)]) (fun t k => XS.aloadN X0.here hx rfl (hb hby d7_0) rfl rfl k) ?_
  obtain ⟨T144, X144, e144, st144⟩ := getF X0 hx hZ hown (host := "") (Or.inl (ww hw 18 rfl)) Via.refl e0 P3 (g := (mkF m 1 (Sh12 a1 0 0 20000) [(.ref a1)])) rfl rfl (hb hby d7_1)
  refine GoW.sg (mkF m 4 (Sh12 a1 0 0 20000) [(.int 1)]) (fun t k => st144 t k) ?_
  refine GoW.sg (mkF m 7 (Sh12 a1 0 0 20000) []) (fun t k => XS.ifNo X144.here hx rfl (hb hby d7_4) rfl (by decide) k) ?_
  refine GoW.sg (mkF m 8 (Sh12 a1 0 0 20000) [(.int 0)]) (fun t k => XS.iloadN X144.here hx rfl (hb hby d7_7) rfl k) ?_
  refine GoW.sg (mkF m 11 (Sh12 a1 0 0 20000) []) (fun t k => XS.ifNo X144.here hx rfl (hb hby d7_8) rfl (by decide) k) ?_
  refine GoW.sg (mkF m 12 (Sh12 a1 0 0 20000) [(.long 20000)]) (fun t k => XS.lloadN X144.here hx rfl (hb hby d7_11) rfl k) ?_
  refine GoW.sg (mkF m 15 (Sh12 a1 0 0 20000) [(.long 20000), (.long 20000)]) (fun t k => X144.ldc2Long hx hown (mvT hZ (ww hw 20 rfl)) (g := (mkF m 12 (Sh12 a1 0 0 20000) [(.long 20000)])) rfl (hb hby d7_12) t k) ?_
  refine GoW.sg (mkF m 16 (Sh12 a1 0 0 20000) [(.int (lcmpW (20000 : Int64) (20000 : Int64)))]) (fun t k => XS.lcmp X144.here hx rfl (hb hby d7_15) rfl k) ?_
  refine GoW.sg (mkF m 20 (Sh12 a1 0 0 20000) []) (fun t k => XS.ifYes X144.here hx rfl (pc0 := 16) (pc' := 20) rfl (hb hby d7_16) rfl (by decide) (by decide) (by decide) k) ?_
  refine GoW.sg (mkF m 21 (Sh12 a1 0 0 20000) [(.int 0)]) (fun t k => XS.iloadN X144.here hx rfl (hb hby d7_20) rfl k) ?_
  refine GoW.sg (mkF m 40 (Sh12 a1 0 0 20000) []) (fun t k => XS.ifYes X144.here hx rfl (pc0 := 21) (pc' := 40) rfl (hb hby d7_21) rfl (by decide) (by decide) (by decide) k) ?_
  refine GoW.sg (mkF m 41 (Sh12 a1 0 0 20000) [(.int 0)]) (fun t k => XS.iconst X144.here hx rfl (hb hby d7_40) k) ?_
  refine GoW.sg (mkF m 43 (Sh13 a1 0 0 20000 0) []) (fun t k => XS.istore X144.here hx rfl (hb hby d7_41) rfl (l' := (Sh13 a1 0 0 20000 0)) rfl k) ?_
  refine GoW.sg (mkF m 44 (Sh13 a1 0 0 20000 0) [(.ref a1)]) (fun t k => XS.aloadN X144.here hx rfl (hb hby d7_43) rfl rfl k) ?_
  refine GoW.sg (mkF m 45 (Sh13 a1 0 0 20000 0) [(.ref a1), (.ref a1)]) (fun t k => XS.dup X144.here hx rfl (hb hby d7_44) rfl rfl k) ?_
  obtain ⟨T145, X145, e145, st145⟩ := getF X144 hx hZ hown (host := "") (Or.inl (ww hw 9 rfl)) Via.refl e144 P1 (g := (mkF m 45 (Sh13 a1 0 0 20000 0) [(.ref a1), (.ref a1)])) rfl rfl (hb hby d7_45)
  refine GoW.sg (mkF m 48 (Sh13 a1 0 0 20000 0) [(.double 4604209339358511104), (.ref a1)]) (fun t k => st145 t k) ?_
  refine GoW.sg (mkF m 50 (Sh13 a1 0 0 20000 0) [(.int 0), (.double 4604209339358511104), (.ref a1)]) (fun t k => XS.iload X145.here hx rfl (hb hby d7_48) rfl k) ?_
  refine GoW.sg (mkF m 57 (Sh13 a1 0 0 20000 0) [(.double 4604209339358511104), (.ref a1)]) (fun t k => XS.ifYes X145.here hx rfl (pc0 := 50) (pc' := 57) rfl (hb hby d7_50) rfl (by decide) (by decide) (by decide) k) ?_
  refine GoW.sg (mkF m 58 (Sh13 a1 0 0 20000 0) [(.int 0), (.double 4604209339358511104), (.ref a1)]) (fun t k => XS.iconst X145.here hx rfl (hb hby d7_57) k) ?_
  refine GoW.sg (mkF m 59 (Sh13 a1 0 0 20000 0) [(.double 0), (.double 4604209339358511104), (.ref a1)]) (fun t k => XS.i2dS X145.here hx rfl (hb hby d7_58) rfl (v := (0 : UInt64)) (by decide +kernel) k) ?_
  refine GoW.sg (mkF m 60 (Sh13 a1 0 0 20000 0) [(.ref a1), (.double 0), (.double 4604209339358511104), (.ref a1)]) (fun t k => XS.aloadN X145.here hx rfl (hb hby d7_59) rfl rfl k) ?_
  obtain ⟨T146, X146, e146, st146⟩ := getF X145 hx hZ hown (host := "") (Or.inl (ww hw 9 rfl)) Via.refl e145 P1 (g := (mkF m 60 (Sh13 a1 0 0 20000 0) [(.ref a1), (.double 0), (.double 4604209339358511104), (.ref a1)])) rfl rfl (hb hby d7_60)
  refine GoW.sg (mkF m 63 (Sh13 a1 0 0 20000 0) [(.double 4604209339358511104), (.double 0), (.double 4604209339358511104), (.ref a1)]) (fun t k => st146 t k) ?_
  refine GoW.sg (mkF m 64 (Sh13 a1 0 0 20000 0) [(.double 13827581376213286912), (.double 4604209339358511104), (.ref a1)]) (fun t k => XS.dsubS X146.here hx rfl (hb hby d7_63) rfl (v := (13827581376213286912 : UInt64)) (by decide +kernel) (by decide +kernel) k) ?_
  refine GoW.sg (mkF m 67 (Sh13 a1 0 0 20000 0) [(.double 4593671619917905920), (.double 13827581376213286912), (.double 4604209339358511104), (.ref a1)]) (fun t k => X146.ldc2DoubleC hx hown (mvT hZ (ww hw 43 rfl)) (g := (mkF m 64 (Sh13 a1 0 0 20000 0) [(.double 13827581376213286912), (.double 4604209339358511104), (.ref a1)])) rfl (hb hby d7_64) t k) ?_
  refine GoW.sg (mkF m 68 (Sh13 a1 0 0 20000 0) [(.double 13814070577331175424), (.double 4604209339358511104), (.ref a1)]) (fun t k => XS.dmulS X146.here hx rfl (hb hby d7_67) rfl (v := (13814070577331175424 : UInt64)) (by decide +kernel) (by decide +kernel) k) ?_
  refine GoW.sg (mkF m 69 (Sh13 a1 0 0 20000 0) [(.double 4603455074381856768), (.ref a1)]) (fun t k => XS.daddS X146.here hx rfl (hb hby d7_68) rfl (v := (4603455074381856768 : UInt64)) (by decide +kernel) (by decide +kernel) k) ?_
  obtain ⟨T147, h147, X147, e147, W147, st147⟩ := putF X146 hx hZ hown (host := "") (Or.inl (ww hw 9 rfl)) Via.refl e146 P1 P0 (Or.inl (ww hw 10 rfl)) (ww hw 1 rfl) (ty := .double) (by decide) rfl rfl (g := (mkF m 69 (Sh13 a1 0 0 20000 0) [(.double 4603455074381856768), (.ref a1)])) rfl rfl (hb hby d7_69)
  have N147 := Fr.snoc X147 N0 g_a1
  have Exa_a1_147 : Exa Z h147 a1 "com/example/spindle/spindle/SpinRule" := P0.wr W147
  have Fld_a1_handedOn_147 : Fld Z h147 a1 "com/example/spindle/spindle/SpinRule" "handedOn" "Z" (.int (0 : Int32)) := P2.other W147 (Or.inr (slot_ne (t := .boolean) (t' := .double) (Or.inl (ww hw 17 rfl)) (Or.inl (ww hw 10 rfl)) (by decide) (by decide) (by decide)))
  have Fld_a1_awaitsAnswer_147 : Fld Z h147 a1 "com/example/spindle/spindle/SpinRule" "awaitsAnswer" "Z" (.int (1 : Int32)) := P3.other W147 (Or.inr (slot_ne (t := .boolean) (t' := .double) (Or.inl (ww hw 19 rfl)) (Or.inl (ww hw 10 rfl)) (by decide) (by decide) (by decide)))
  have Keep_147 : Keep h0 h147 [a1] := (Keep.refl h0 [a1]).wr W147 (Or.inl (List.mem_of_getElem? (i := 0) rfl))
  have Fld_a1_answeredShare_147 : Fld Z h147 a1 "com/example/spindle/spindle/SpinRule" "answeredShare" "D" (.double (4603455074381856768 : UInt64)) := P1.same W147
  refine GoW.sg (mkF m 72 (Sh13 a1 0 0 20000 0) []) (fun t k => st147 t k) ?_
  refine GoW.retV X147 hx Bd.returns (hb hby d7_72) Bd.notSynchronized ?_ (by decide) (by decide)
  rw [e147]
  exact ⟨rfl, N147, Keep_147, Exa_a1_147, Fld_a1_answeredShare_147, Fld_a1_handedOn_147, Fld_a1_awaitsAnswer_147⟩
def Q7_16 (Z : State) (a1 : Addr) (h0 : Heap) (n0 : Nat) (v : Option Value) (h : Heap) (L : List Loc) : Prop := v = none ∧ Fr n0 L ∧ (Keep h0 h [a1]) ∧ (Exa Z h a1 "com/example/spindle/spindle/SpinRule") ∧ (Fld Z h a1 "com/example/spindle/spindle/SpinRule" "answeredShare" "D" (.double (4602795092527284224 : UInt64))) ∧ (Fld Z h a1 "com/example/spindle/spindle/SpinRule" "handedOn" "Z" (.int (0 : Int32))) ∧ (Fld Z h a1 "com/example/spindle/spindle/SpinRule" "awaitsAnswer" "Z" (.int (1 : Int32)))
theorem ef7_rm7_16 (m : MethodId) (a1 : Addr) : entryFrame m #[(.ref a1), (.int (0 : Int32)), (.int (0 : Int32)), (.long (20000 : Int64))] 6 = (mkF m 0 #[.val (.ref a1), .val (.int 0), .val (.int 0), .val (.long 20000), .second, .unset] []) := by first | (simp [entryFrame, mkF, argsToLocals, Value.category, maxLocals]; done) | rfl
set_option maxRecDepth 65536 in
set_option maxHeartbeats 40000000 in
theorem rm7_16 (l : Launch) (Z : State) (a0 : Array Value) (hw : ∀ d ∈ tables_1, d.before a0 Z = true) (ws : List Jvm.Cond) (a1 : Addr)  (h0 : Heap) (n0 : Nat) (P0 : Exa Z h0 a1 "com/example/spindle/spindle/SpinRule") (P1 : Fld Z h0 a1 "com/example/spindle/spindle/SpinRule" "answeredShare" "D" (.double (4603455074381856768 : UInt64))) (P2 : Fld Z h0 a1 "com/example/spindle/spindle/SpinRule" "handedOn" "Z" (.int (0 : Int32))) (P3 : Fld Z h0 a1 "com/example/spindle/spindle/SpinRule" "awaitsAnswer" "Z" (.int (1 : Int32))) (g_a1 : n0 ≤ a1)    :
    MetFree l (⟨"com/example/spindle/spindle/SpinRule", "countWait", "(ZZJ)V"⟩ : MethodName) (head1 (Jvm.Cond.code (⟨"com/example/spindle/spindle/SpinRule", "countWait", "(ZZJ)V"⟩ : MethodName) prog_40_method_5_code 6 none :: ws) ({ frames := 0, cells := 0, slots := 0, locals := 0 } : Room)) (fun a U => a = #[(.ref a1), (.int (0 : Int32)), (.int (0 : Int32)), (.long (20000 : Int64))] ∧ Z.Warmed39 U.vm ∧ U.heap = h0) (fun _ _ _ _ _ => True) (fun _ U o U' => ∃ v L, o = .returned v ∧ (Q7_16 Z a1 h0 n0) v U'.heap L ∧ FrameEnd U o U' L 0 0) := by
  refine MetFree.of_bodySF (plainFor_of_name pn_com_example_spindle_spindle_SpinRule) hisR ?_
  intro p e s m args below meth c s₁ Bd hml0 hP hK
  obtain ⟨rfl, hZ, hh⟩ := hP
  have hx := Bd.exec
  have hby := Bd.bytes
  have hml : c.maxLocals = 6 := hml0
  have hown : s.vm.findClass "com/example/spindle/spindle/SpinRule" = some m.cls := findClass_of_methodNamed Bd.named
  have hnm := (name_of_methodNamed Bd.named Bd.method).1
  have X0 : Stand p l e ({ frames := 0, cells := 0, slots := 0, locals := 0 } : Room) s m #[(.ref a1), (.int (0 : Int32)), (.int (0 : Int32)), (.long (20000 : Int64))] below meth c s₁ [] 0 0 := Stand.of_body Bd
  have e0 : s₁.heap = h0 := by rw [← hh, Bd.state]; rfl
  have N0 := Fr.nil n0
  refine GoW.mk ?_
  refine GoW.st (fun t k => castTop (ef7_rm7_16 m a1) k) ?_
  show GoW p e below s (Q7_16 Z a1 h0 n0) 0 0 (s₁.setTop (mkF m 0 (Sh12 a1 0 0 20000) []))
  refine GoW.sg (mkF m 1 (Sh12 a1 0 0 20000) [(.ref a1)]) (fun t k => XS.aloadN X0.here hx rfl (hb hby d7_0) rfl rfl k) ?_
  obtain ⟨T153, X153, e153, st153⟩ := getF X0 hx hZ hown (host := "") (Or.inl (ww hw 18 rfl)) Via.refl e0 P3 (g := (mkF m 1 (Sh12 a1 0 0 20000) [(.ref a1)])) rfl rfl (hb hby d7_1)
  refine GoW.sg (mkF m 4 (Sh12 a1 0 0 20000) [(.int 1)]) (fun t k => st153 t k) ?_
  refine GoW.sg (mkF m 7 (Sh12 a1 0 0 20000) []) (fun t k => XS.ifNo X153.here hx rfl (hb hby d7_4) rfl (by decide) k) ?_
  refine GoW.sg (mkF m 8 (Sh12 a1 0 0 20000) [(.int 0)]) (fun t k => XS.iloadN X153.here hx rfl (hb hby d7_7) rfl k) ?_
  refine GoW.sg (mkF m 11 (Sh12 a1 0 0 20000) []) (fun t k => XS.ifNo X153.here hx rfl (hb hby d7_8) rfl (by decide) k) ?_
  refine GoW.sg (mkF m 12 (Sh12 a1 0 0 20000) [(.long 20000)]) (fun t k => XS.lloadN X153.here hx rfl (hb hby d7_11) rfl k) ?_
  refine GoW.sg (mkF m 15 (Sh12 a1 0 0 20000) [(.long 20000), (.long 20000)]) (fun t k => X153.ldc2Long hx hown (mvT hZ (ww hw 20 rfl)) (g := (mkF m 12 (Sh12 a1 0 0 20000) [(.long 20000)])) rfl (hb hby d7_12) t k) ?_
  refine GoW.sg (mkF m 16 (Sh12 a1 0 0 20000) [(.int (lcmpW (20000 : Int64) (20000 : Int64)))]) (fun t k => XS.lcmp X153.here hx rfl (hb hby d7_15) rfl k) ?_
  refine GoW.sg (mkF m 20 (Sh12 a1 0 0 20000) []) (fun t k => XS.ifYes X153.here hx rfl (pc0 := 16) (pc' := 20) rfl (hb hby d7_16) rfl (by decide) (by decide) (by decide) k) ?_
  refine GoW.sg (mkF m 21 (Sh12 a1 0 0 20000) [(.int 0)]) (fun t k => XS.iloadN X153.here hx rfl (hb hby d7_20) rfl k) ?_
  refine GoW.sg (mkF m 40 (Sh12 a1 0 0 20000) []) (fun t k => XS.ifYes X153.here hx rfl (pc0 := 21) (pc' := 40) rfl (hb hby d7_21) rfl (by decide) (by decide) (by decide) k) ?_
  refine GoW.sg (mkF m 41 (Sh12 a1 0 0 20000) [(.int 0)]) (fun t k => XS.iconst X153.here hx rfl (hb hby d7_40) k) ?_
  refine GoW.sg (mkF m 43 (Sh13 a1 0 0 20000 0) []) (fun t k => XS.istore X153.here hx rfl (hb hby d7_41) rfl (l' := (Sh13 a1 0 0 20000 0)) rfl k) ?_
  refine GoW.sg (mkF m 44 (Sh13 a1 0 0 20000 0) [(.ref a1)]) (fun t k => XS.aloadN X153.here hx rfl (hb hby d7_43) rfl rfl k) ?_
  refine GoW.sg (mkF m 45 (Sh13 a1 0 0 20000 0) [(.ref a1), (.ref a1)]) (fun t k => XS.dup X153.here hx rfl (hb hby d7_44) rfl rfl k) ?_
  obtain ⟨T154, X154, e154, st154⟩ := getF X153 hx hZ hown (host := "") (Or.inl (ww hw 9 rfl)) Via.refl e153 P1 (g := (mkF m 45 (Sh13 a1 0 0 20000 0) [(.ref a1), (.ref a1)])) rfl rfl (hb hby d7_45)
  refine GoW.sg (mkF m 48 (Sh13 a1 0 0 20000 0) [(.double 4603455074381856768), (.ref a1)]) (fun t k => st154 t k) ?_
  refine GoW.sg (mkF m 50 (Sh13 a1 0 0 20000 0) [(.int 0), (.double 4603455074381856768), (.ref a1)]) (fun t k => XS.iload X154.here hx rfl (hb hby d7_48) rfl k) ?_
  refine GoW.sg (mkF m 57 (Sh13 a1 0 0 20000 0) [(.double 4603455074381856768), (.ref a1)]) (fun t k => XS.ifYes X154.here hx rfl (pc0 := 50) (pc' := 57) rfl (hb hby d7_50) rfl (by decide) (by decide) (by decide) k) ?_
  refine GoW.sg (mkF m 58 (Sh13 a1 0 0 20000 0) [(.int 0), (.double 4603455074381856768), (.ref a1)]) (fun t k => XS.iconst X154.here hx rfl (hb hby d7_57) k) ?_
  refine GoW.sg (mkF m 59 (Sh13 a1 0 0 20000 0) [(.double 0), (.double 4603455074381856768), (.ref a1)]) (fun t k => XS.i2dS X154.here hx rfl (hb hby d7_58) rfl (v := (0 : UInt64)) (by decide +kernel) k) ?_
  refine GoW.sg (mkF m 60 (Sh13 a1 0 0 20000 0) [(.ref a1), (.double 0), (.double 4603455074381856768), (.ref a1)]) (fun t k => XS.aloadN X154.here hx rfl (hb hby d7_59) rfl rfl k) ?_
  obtain ⟨T155, X155, e155, st155⟩ := getF X154 hx hZ hown (host := "") (Or.inl (ww hw 9 rfl)) Via.refl e154 P1 (g := (mkF m 60 (Sh13 a1 0 0 20000 0) [(.ref a1), (.double 0), (.double 4603455074381856768), (.ref a1)])) rfl rfl (hb hby d7_60)
  refine GoW.sg (mkF m 63 (Sh13 a1 0 0 20000 0) [(.double 4603455074381856768), (.double 0), (.double 4603455074381856768), (.ref a1)]) (fun t k => st155 t k) ?_
  refine GoW.sg (mkF m 64 (Sh13 a1 0 0 20000 0) [(.double 13826827111236632576), (.double 4603455074381856768), (.ref a1)]) (fun t k => XS.dsubS X155.here hx rfl (hb hby d7_63) rfl (v := (13826827111236632576 : UInt64)) (by decide +kernel) (by decide +kernel) k) ?_
  refine GoW.sg (mkF m 67 (Sh13 a1 0 0 20000 0) [(.double 4593671619917905920), (.double 13826827111236632576), (.double 4603455074381856768), (.ref a1)]) (fun t k => X155.ldc2DoubleC hx hown (mvT hZ (ww hw 43 rfl)) (g := (mkF m 64 (Sh13 a1 0 0 20000 0) [(.double 13826827111236632576), (.double 4603455074381856768), (.ref a1)])) rfl (hb hby d7_64) t k) ?_
  refine GoW.sg (mkF m 68 (Sh13 a1 0 0 20000 0) [(.double 13813316312354521088), (.double 4603455074381856768), (.ref a1)]) (fun t k => XS.dmulS X155.here hx rfl (hb hby d7_67) rfl (v := (13813316312354521088 : UInt64)) (by decide +kernel) (by decide +kernel) k) ?_
  refine GoW.sg (mkF m 69 (Sh13 a1 0 0 20000 0) [(.double 4602795092527284224), (.ref a1)]) (fun t k => XS.daddS X155.here hx rfl (hb hby d7_68) rfl (v := (4602795092527284224 : UInt64)) (by decide +kernel) (by decide +kernel) k) ?_
  obtain ⟨T156, h156, X156, e156, W156, st156⟩ := putF X155 hx hZ hown (host := "") (Or.inl (ww hw 9 rfl)) Via.refl e155 P1 P0 (Or.inl (ww hw 10 rfl)) (ww hw 1 rfl) (ty := .double) (by decide) rfl rfl (g := (mkF m 69 (Sh13 a1 0 0 20000 0) [(.double 4602795092527284224), (.ref a1)])) rfl rfl (hb hby d7_69)
  have N156 := Fr.snoc X156 N0 g_a1
  have Exa_a1_156 : Exa Z h156 a1 "com/example/spindle/spindle/SpinRule" := P0.wr W156
  have Fld_a1_handedOn_156 : Fld Z h156 a1 "com/example/spindle/spindle/SpinRule" "handedOn" "Z" (.int (0 : Int32)) := P2.other W156 (Or.inr (slot_ne (t := .boolean) (t' := .double) (Or.inl (ww hw 17 rfl)) (Or.inl (ww hw 10 rfl)) (by decide) (by decide) (by decide)))
  have Fld_a1_awaitsAnswer_156 : Fld Z h156 a1 "com/example/spindle/spindle/SpinRule" "awaitsAnswer" "Z" (.int (1 : Int32)) := P3.other W156 (Or.inr (slot_ne (t := .boolean) (t' := .double) (Or.inl (ww hw 19 rfl)) (Or.inl (ww hw 10 rfl)) (by decide) (by decide) (by decide)))
  have Keep_156 : Keep h0 h156 [a1] := (Keep.refl h0 [a1]).wr W156 (Or.inl (List.mem_of_getElem? (i := 0) rfl))
  have Fld_a1_answeredShare_156 : Fld Z h156 a1 "com/example/spindle/spindle/SpinRule" "answeredShare" "D" (.double (4602795092527284224 : UInt64)) := P1.same W156
  refine GoW.sg (mkF m 72 (Sh13 a1 0 0 20000 0) []) (fun t k => st156 t k) ?_
  refine GoW.retV X156 hx Bd.returns (hb hby d7_72) Bd.notSynchronized ?_ (by decide) (by decide)
  rw [e156]
  exact ⟨rfl, N156, Keep_156, Exa_a1_156, Fld_a1_answeredShare_156, Fld_a1_handedOn_156, Fld_a1_awaitsAnswer_156⟩
def Q7_17 (Z : State) (a1 : Addr) (h0 : Heap) (n0 : Nat) (v : Option Value) (h : Heap) (L : List Loc) : Prop := v = none ∧ Fr n0 L ∧ (Keep h0 h [a1]) ∧ (Exa Z h a1 "com/example/spindle/spindle/SpinRule") ∧ (Fld Z h a1 "com/example/spindle/spindle/SpinRule" "answeredShare" "D" (.double (4601756397636419584 : UInt64))) ∧ (Fld Z h a1 "com/example/spindle/spindle/SpinRule" "handedOn" "Z" (.int (0 : Int32))) ∧ (Fld Z h a1 "com/example/spindle/spindle/SpinRule" "awaitsAnswer" "Z" (.int (1 : Int32)))
theorem ef7_rm7_17 (m : MethodId) (a1 : Addr) : entryFrame m #[(.ref a1), (.int (0 : Int32)), (.int (0 : Int32)), (.long (20000 : Int64))] 6 = (mkF m 0 #[.val (.ref a1), .val (.int 0), .val (.int 0), .val (.long 20000), .second, .unset] []) := by first | (simp [entryFrame, mkF, argsToLocals, Value.category, maxLocals]; done) | rfl
set_option maxRecDepth 65536 in
set_option maxHeartbeats 40000000 in
theorem rm7_17 (l : Launch) (Z : State) (a0 : Array Value) (hw : ∀ d ∈ tables_1, d.before a0 Z = true) (ws : List Jvm.Cond) (a1 : Addr)  (h0 : Heap) (n0 : Nat) (P0 : Exa Z h0 a1 "com/example/spindle/spindle/SpinRule") (P1 : Fld Z h0 a1 "com/example/spindle/spindle/SpinRule" "answeredShare" "D" (.double (4602795092527284224 : UInt64))) (P2 : Fld Z h0 a1 "com/example/spindle/spindle/SpinRule" "handedOn" "Z" (.int (0 : Int32))) (P3 : Fld Z h0 a1 "com/example/spindle/spindle/SpinRule" "awaitsAnswer" "Z" (.int (1 : Int32))) (g_a1 : n0 ≤ a1)    :
    MetFree l (⟨"com/example/spindle/spindle/SpinRule", "countWait", "(ZZJ)V"⟩ : MethodName) (head1 (Jvm.Cond.code (⟨"com/example/spindle/spindle/SpinRule", "countWait", "(ZZJ)V"⟩ : MethodName) prog_40_method_5_code 6 none :: ws) ({ frames := 0, cells := 0, slots := 0, locals := 0 } : Room)) (fun a U => a = #[(.ref a1), (.int (0 : Int32)), (.int (0 : Int32)), (.long (20000 : Int64))] ∧ Z.Warmed39 U.vm ∧ U.heap = h0) (fun _ _ _ _ _ => True) (fun _ U o U' => ∃ v L, o = .returned v ∧ (Q7_17 Z a1 h0 n0) v U'.heap L ∧ FrameEnd U o U' L 0 0) := by
  refine MetFree.of_bodySF (plainFor_of_name pn_com_example_spindle_spindle_SpinRule) hisR ?_
  intro p e s m args below meth c s₁ Bd hml0 hP hK
  obtain ⟨rfl, hZ, hh⟩ := hP
  have hx := Bd.exec
  have hby := Bd.bytes
  have hml : c.maxLocals = 6 := hml0
  have hown : s.vm.findClass "com/example/spindle/spindle/SpinRule" = some m.cls := findClass_of_methodNamed Bd.named
  have hnm := (name_of_methodNamed Bd.named Bd.method).1
  have X0 : Stand p l e ({ frames := 0, cells := 0, slots := 0, locals := 0 } : Room) s m #[(.ref a1), (.int (0 : Int32)), (.int (0 : Int32)), (.long (20000 : Int64))] below meth c s₁ [] 0 0 := Stand.of_body Bd
  have e0 : s₁.heap = h0 := by rw [← hh, Bd.state]; rfl
  have N0 := Fr.nil n0
  refine GoW.mk ?_
  refine GoW.st (fun t k => castTop (ef7_rm7_17 m a1) k) ?_
  show GoW p e below s (Q7_17 Z a1 h0 n0) 0 0 (s₁.setTop (mkF m 0 (Sh12 a1 0 0 20000) []))
  refine GoW.sg (mkF m 1 (Sh12 a1 0 0 20000) [(.ref a1)]) (fun t k => XS.aloadN X0.here hx rfl (hb hby d7_0) rfl rfl k) ?_
  obtain ⟨T162, X162, e162, st162⟩ := getF X0 hx hZ hown (host := "") (Or.inl (ww hw 18 rfl)) Via.refl e0 P3 (g := (mkF m 1 (Sh12 a1 0 0 20000) [(.ref a1)])) rfl rfl (hb hby d7_1)
  refine GoW.sg (mkF m 4 (Sh12 a1 0 0 20000) [(.int 1)]) (fun t k => st162 t k) ?_
  refine GoW.sg (mkF m 7 (Sh12 a1 0 0 20000) []) (fun t k => XS.ifNo X162.here hx rfl (hb hby d7_4) rfl (by decide) k) ?_
  refine GoW.sg (mkF m 8 (Sh12 a1 0 0 20000) [(.int 0)]) (fun t k => XS.iloadN X162.here hx rfl (hb hby d7_7) rfl k) ?_
  refine GoW.sg (mkF m 11 (Sh12 a1 0 0 20000) []) (fun t k => XS.ifNo X162.here hx rfl (hb hby d7_8) rfl (by decide) k) ?_
  refine GoW.sg (mkF m 12 (Sh12 a1 0 0 20000) [(.long 20000)]) (fun t k => XS.lloadN X162.here hx rfl (hb hby d7_11) rfl k) ?_
  refine GoW.sg (mkF m 15 (Sh12 a1 0 0 20000) [(.long 20000), (.long 20000)]) (fun t k => X162.ldc2Long hx hown (mvT hZ (ww hw 20 rfl)) (g := (mkF m 12 (Sh12 a1 0 0 20000) [(.long 20000)])) rfl (hb hby d7_12) t k) ?_
  refine GoW.sg (mkF m 16 (Sh12 a1 0 0 20000) [(.int (lcmpW (20000 : Int64) (20000 : Int64)))]) (fun t k => XS.lcmp X162.here hx rfl (hb hby d7_15) rfl k) ?_
  refine GoW.sg (mkF m 20 (Sh12 a1 0 0 20000) []) (fun t k => XS.ifYes X162.here hx rfl (pc0 := 16) (pc' := 20) rfl (hb hby d7_16) rfl (by decide) (by decide) (by decide) k) ?_
  refine GoW.sg (mkF m 21 (Sh12 a1 0 0 20000) [(.int 0)]) (fun t k => XS.iloadN X162.here hx rfl (hb hby d7_20) rfl k) ?_
  refine GoW.sg (mkF m 40 (Sh12 a1 0 0 20000) []) (fun t k => XS.ifYes X162.here hx rfl (pc0 := 21) (pc' := 40) rfl (hb hby d7_21) rfl (by decide) (by decide) (by decide) k) ?_
  refine GoW.sg (mkF m 41 (Sh12 a1 0 0 20000) [(.int 0)]) (fun t k => XS.iconst X162.here hx rfl (hb hby d7_40) k) ?_
  refine GoW.sg (mkF m 43 (Sh13 a1 0 0 20000 0) []) (fun t k => XS.istore X162.here hx rfl (hb hby d7_41) rfl (l' := (Sh13 a1 0 0 20000 0)) rfl k) ?_
  refine GoW.sg (mkF m 44 (Sh13 a1 0 0 20000 0) [(.ref a1)]) (fun t k => XS.aloadN X162.here hx rfl (hb hby d7_43) rfl rfl k) ?_
  refine GoW.sg (mkF m 45 (Sh13 a1 0 0 20000 0) [(.ref a1), (.ref a1)]) (fun t k => XS.dup X162.here hx rfl (hb hby d7_44) rfl rfl k) ?_
  obtain ⟨T163, X163, e163, st163⟩ := getF X162 hx hZ hown (host := "") (Or.inl (ww hw 9 rfl)) Via.refl e162 P1 (g := (mkF m 45 (Sh13 a1 0 0 20000 0) [(.ref a1), (.ref a1)])) rfl rfl (hb hby d7_45)
  refine GoW.sg (mkF m 48 (Sh13 a1 0 0 20000 0) [(.double 4602795092527284224), (.ref a1)]) (fun t k => st163 t k) ?_
  refine GoW.sg (mkF m 50 (Sh13 a1 0 0 20000 0) [(.int 0), (.double 4602795092527284224), (.ref a1)]) (fun t k => XS.iload X163.here hx rfl (hb hby d7_48) rfl k) ?_
  refine GoW.sg (mkF m 57 (Sh13 a1 0 0 20000 0) [(.double 4602795092527284224), (.ref a1)]) (fun t k => XS.ifYes X163.here hx rfl (pc0 := 50) (pc' := 57) rfl (hb hby d7_50) rfl (by decide) (by decide) (by decide) k) ?_
  refine GoW.sg (mkF m 58 (Sh13 a1 0 0 20000 0) [(.int 0), (.double 4602795092527284224), (.ref a1)]) (fun t k => XS.iconst X163.here hx rfl (hb hby d7_57) k) ?_
  refine GoW.sg (mkF m 59 (Sh13 a1 0 0 20000 0) [(.double 0), (.double 4602795092527284224), (.ref a1)]) (fun t k => XS.i2dS X163.here hx rfl (hb hby d7_58) rfl (v := (0 : UInt64)) (by decide +kernel) k) ?_
  refine GoW.sg (mkF m 60 (Sh13 a1 0 0 20000 0) [(.ref a1), (.double 0), (.double 4602795092527284224), (.ref a1)]) (fun t k => XS.aloadN X163.here hx rfl (hb hby d7_59) rfl rfl k) ?_
  obtain ⟨T164, X164, e164, st164⟩ := getF X163 hx hZ hown (host := "") (Or.inl (ww hw 9 rfl)) Via.refl e163 P1 (g := (mkF m 60 (Sh13 a1 0 0 20000 0) [(.ref a1), (.double 0), (.double 4602795092527284224), (.ref a1)])) rfl rfl (hb hby d7_60)
  refine GoW.sg (mkF m 63 (Sh13 a1 0 0 20000 0) [(.double 4602795092527284224), (.double 0), (.double 4602795092527284224), (.ref a1)]) (fun t k => st164 t k) ?_
  refine GoW.sg (mkF m 64 (Sh13 a1 0 0 20000 0) [(.double 13826167129382060032), (.double 4602795092527284224), (.ref a1)]) (fun t k => XS.dsubS X164.here hx rfl (hb hby d7_63) rfl (v := (13826167129382060032 : UInt64)) (by decide +kernel) (by decide +kernel) k) ?_
  refine GoW.sg (mkF m 67 (Sh13 a1 0 0 20000 0) [(.double 4593671619917905920), (.double 13826167129382060032), (.double 4602795092527284224), (.ref a1)]) (fun t k => X164.ldc2DoubleC hx hown (mvT hZ (ww hw 43 rfl)) (g := (mkF m 64 (Sh13 a1 0 0 20000 0) [(.double 13826167129382060032), (.double 4602795092527284224), (.ref a1)])) rfl (hb hby d7_64) t k) ?_
  refine GoW.sg (mkF m 68 (Sh13 a1 0 0 20000 0) [(.double 13812656330499948544), (.double 4602795092527284224), (.ref a1)]) (fun t k => XS.dmulS X164.here hx rfl (hb hby d7_67) rfl (v := (13812656330499948544 : UInt64)) (by decide +kernel) (by decide +kernel) k) ?_
  refine GoW.sg (mkF m 69 (Sh13 a1 0 0 20000 0) [(.double 4601756397636419584), (.ref a1)]) (fun t k => XS.daddS X164.here hx rfl (hb hby d7_68) rfl (v := (4601756397636419584 : UInt64)) (by decide +kernel) (by decide +kernel) k) ?_
  obtain ⟨T165, h165, X165, e165, W165, st165⟩ := putF X164 hx hZ hown (host := "") (Or.inl (ww hw 9 rfl)) Via.refl e164 P1 P0 (Or.inl (ww hw 10 rfl)) (ww hw 1 rfl) (ty := .double) (by decide) rfl rfl (g := (mkF m 69 (Sh13 a1 0 0 20000 0) [(.double 4601756397636419584), (.ref a1)])) rfl rfl (hb hby d7_69)
  have N165 := Fr.snoc X165 N0 g_a1
  have Exa_a1_165 : Exa Z h165 a1 "com/example/spindle/spindle/SpinRule" := P0.wr W165
  have Fld_a1_handedOn_165 : Fld Z h165 a1 "com/example/spindle/spindle/SpinRule" "handedOn" "Z" (.int (0 : Int32)) := P2.other W165 (Or.inr (slot_ne (t := .boolean) (t' := .double) (Or.inl (ww hw 17 rfl)) (Or.inl (ww hw 10 rfl)) (by decide) (by decide) (by decide)))
  have Fld_a1_awaitsAnswer_165 : Fld Z h165 a1 "com/example/spindle/spindle/SpinRule" "awaitsAnswer" "Z" (.int (1 : Int32)) := P3.other W165 (Or.inr (slot_ne (t := .boolean) (t' := .double) (Or.inl (ww hw 19 rfl)) (Or.inl (ww hw 10 rfl)) (by decide) (by decide) (by decide)))
  have Keep_165 : Keep h0 h165 [a1] := (Keep.refl h0 [a1]).wr W165 (Or.inl (List.mem_of_getElem? (i := 0) rfl))
  have Fld_a1_answeredShare_165 : Fld Z h165 a1 "com/example/spindle/spindle/SpinRule" "answeredShare" "D" (.double (4601756397636419584 : UInt64)) := P1.same W165
  refine GoW.sg (mkF m 72 (Sh13 a1 0 0 20000 0) []) (fun t k => st165 t k) ?_
  refine GoW.retV X165 hx Bd.returns (hb hby d7_72) Bd.notSynchronized ?_ (by decide) (by decide)
  rw [e165]
  exact ⟨rfl, N165, Keep_165, Exa_a1_165, Fld_a1_answeredShare_165, Fld_a1_handedOn_165, Fld_a1_awaitsAnswer_165⟩
def Q7_18 (Z : State) (a1 : Addr) (h0 : Heap) (n0 : Nat) (v : Option Value) (h : Heap) (L : List Loc) : Prop := v = none ∧ Fr n0 L ∧ (Keep h0 h [a1]) ∧ (Exa Z h a1 "com/example/spindle/spindle/SpinRule") ∧ (Fld Z h a1 "com/example/spindle/spindle/SpinRule" "answeredShare" "D" (.double (4600745800421605376 : UInt64))) ∧ (Fld Z h a1 "com/example/spindle/spindle/SpinRule" "handedOn" "Z" (.int (0 : Int32))) ∧ (Fld Z h a1 "com/example/spindle/spindle/SpinRule" "awaitsAnswer" "Z" (.int (1 : Int32)))
theorem ef7_rm7_18 (m : MethodId) (a1 : Addr) : entryFrame m #[(.ref a1), (.int (0 : Int32)), (.int (0 : Int32)), (.long (20000 : Int64))] 6 = (mkF m 0 #[.val (.ref a1), .val (.int 0), .val (.int 0), .val (.long 20000), .second, .unset] []) := by first | (simp [entryFrame, mkF, argsToLocals, Value.category, maxLocals]; done) | rfl
set_option maxRecDepth 65536 in
set_option maxHeartbeats 40000000 in
theorem rm7_18 (l : Launch) (Z : State) (a0 : Array Value) (hw : ∀ d ∈ tables_1, d.before a0 Z = true) (ws : List Jvm.Cond) (a1 : Addr)  (h0 : Heap) (n0 : Nat) (P0 : Exa Z h0 a1 "com/example/spindle/spindle/SpinRule") (P1 : Fld Z h0 a1 "com/example/spindle/spindle/SpinRule" "answeredShare" "D" (.double (4601756397636419584 : UInt64))) (P2 : Fld Z h0 a1 "com/example/spindle/spindle/SpinRule" "handedOn" "Z" (.int (0 : Int32))) (P3 : Fld Z h0 a1 "com/example/spindle/spindle/SpinRule" "awaitsAnswer" "Z" (.int (1 : Int32))) (g_a1 : n0 ≤ a1)    :
    MetFree l (⟨"com/example/spindle/spindle/SpinRule", "countWait", "(ZZJ)V"⟩ : MethodName) (head1 (Jvm.Cond.code (⟨"com/example/spindle/spindle/SpinRule", "countWait", "(ZZJ)V"⟩ : MethodName) prog_40_method_5_code 6 none :: ws) ({ frames := 0, cells := 0, slots := 0, locals := 0 } : Room)) (fun a U => a = #[(.ref a1), (.int (0 : Int32)), (.int (0 : Int32)), (.long (20000 : Int64))] ∧ Z.Warmed39 U.vm ∧ U.heap = h0) (fun _ _ _ _ _ => True) (fun _ U o U' => ∃ v L, o = .returned v ∧ (Q7_18 Z a1 h0 n0) v U'.heap L ∧ FrameEnd U o U' L 0 0) := by
  refine MetFree.of_bodySF (plainFor_of_name pn_com_example_spindle_spindle_SpinRule) hisR ?_
  intro p e s m args below meth c s₁ Bd hml0 hP hK
  obtain ⟨rfl, hZ, hh⟩ := hP
  have hx := Bd.exec
  have hby := Bd.bytes
  have hml : c.maxLocals = 6 := hml0
  have hown : s.vm.findClass "com/example/spindle/spindle/SpinRule" = some m.cls := findClass_of_methodNamed Bd.named
  have hnm := (name_of_methodNamed Bd.named Bd.method).1
  have X0 : Stand p l e ({ frames := 0, cells := 0, slots := 0, locals := 0 } : Room) s m #[(.ref a1), (.int (0 : Int32)), (.int (0 : Int32)), (.long (20000 : Int64))] below meth c s₁ [] 0 0 := Stand.of_body Bd
  have e0 : s₁.heap = h0 := by rw [← hh, Bd.state]; rfl
  have N0 := Fr.nil n0
  refine GoW.mk ?_
  refine GoW.st (fun t k => castTop (ef7_rm7_18 m a1) k) ?_
  show GoW p e below s (Q7_18 Z a1 h0 n0) 0 0 (s₁.setTop (mkF m 0 (Sh12 a1 0 0 20000) []))
  refine GoW.sg (mkF m 1 (Sh12 a1 0 0 20000) [(.ref a1)]) (fun t k => XS.aloadN X0.here hx rfl (hb hby d7_0) rfl rfl k) ?_
  obtain ⟨T171, X171, e171, st171⟩ := getF X0 hx hZ hown (host := "") (Or.inl (ww hw 18 rfl)) Via.refl e0 P3 (g := (mkF m 1 (Sh12 a1 0 0 20000) [(.ref a1)])) rfl rfl (hb hby d7_1)
  refine GoW.sg (mkF m 4 (Sh12 a1 0 0 20000) [(.int 1)]) (fun t k => st171 t k) ?_
  refine GoW.sg (mkF m 7 (Sh12 a1 0 0 20000) []) (fun t k => XS.ifNo X171.here hx rfl (hb hby d7_4) rfl (by decide) k) ?_
  refine GoW.sg (mkF m 8 (Sh12 a1 0 0 20000) [(.int 0)]) (fun t k => XS.iloadN X171.here hx rfl (hb hby d7_7) rfl k) ?_
  refine GoW.sg (mkF m 11 (Sh12 a1 0 0 20000) []) (fun t k => XS.ifNo X171.here hx rfl (hb hby d7_8) rfl (by decide) k) ?_
  refine GoW.sg (mkF m 12 (Sh12 a1 0 0 20000) [(.long 20000)]) (fun t k => XS.lloadN X171.here hx rfl (hb hby d7_11) rfl k) ?_
  refine GoW.sg (mkF m 15 (Sh12 a1 0 0 20000) [(.long 20000), (.long 20000)]) (fun t k => X171.ldc2Long hx hown (mvT hZ (ww hw 20 rfl)) (g := (mkF m 12 (Sh12 a1 0 0 20000) [(.long 20000)])) rfl (hb hby d7_12) t k) ?_
  refine GoW.sg (mkF m 16 (Sh12 a1 0 0 20000) [(.int (lcmpW (20000 : Int64) (20000 : Int64)))]) (fun t k => XS.lcmp X171.here hx rfl (hb hby d7_15) rfl k) ?_
  refine GoW.sg (mkF m 20 (Sh12 a1 0 0 20000) []) (fun t k => XS.ifYes X171.here hx rfl (pc0 := 16) (pc' := 20) rfl (hb hby d7_16) rfl (by decide) (by decide) (by decide) k) ?_
  refine GoW.sg (mkF m 21 (Sh12 a1 0 0 20000) [(.int 0)]) (fun t k => XS.iloadN X171.here hx rfl (hb hby d7_20) rfl k) ?_
  refine GoW.sg (mkF m 40 (Sh12 a1 0 0 20000) []) (fun t k => XS.ifYes X171.here hx rfl (pc0 := 21) (pc' := 40) rfl (hb hby d7_21) rfl (by decide) (by decide) (by decide) k) ?_
  refine GoW.sg (mkF m 41 (Sh12 a1 0 0 20000) [(.int 0)]) (fun t k => XS.iconst X171.here hx rfl (hb hby d7_40) k) ?_
  refine GoW.sg (mkF m 43 (Sh13 a1 0 0 20000 0) []) (fun t k => XS.istore X171.here hx rfl (hb hby d7_41) rfl (l' := (Sh13 a1 0 0 20000 0)) rfl k) ?_
  refine GoW.sg (mkF m 44 (Sh13 a1 0 0 20000 0) [(.ref a1)]) (fun t k => XS.aloadN X171.here hx rfl (hb hby d7_43) rfl rfl k) ?_
  refine GoW.sg (mkF m 45 (Sh13 a1 0 0 20000 0) [(.ref a1), (.ref a1)]) (fun t k => XS.dup X171.here hx rfl (hb hby d7_44) rfl rfl k) ?_
  obtain ⟨T172, X172, e172, st172⟩ := getF X171 hx hZ hown (host := "") (Or.inl (ww hw 9 rfl)) Via.refl e171 P1 (g := (mkF m 45 (Sh13 a1 0 0 20000 0) [(.ref a1), (.ref a1)])) rfl rfl (hb hby d7_45)
  refine GoW.sg (mkF m 48 (Sh13 a1 0 0 20000 0) [(.double 4601756397636419584), (.ref a1)]) (fun t k => st172 t k) ?_
  refine GoW.sg (mkF m 50 (Sh13 a1 0 0 20000 0) [(.int 0), (.double 4601756397636419584), (.ref a1)]) (fun t k => XS.iload X172.here hx rfl (hb hby d7_48) rfl k) ?_
  refine GoW.sg (mkF m 57 (Sh13 a1 0 0 20000 0) [(.double 4601756397636419584), (.ref a1)]) (fun t k => XS.ifYes X172.here hx rfl (pc0 := 50) (pc' := 57) rfl (hb hby d7_50) rfl (by decide) (by decide) (by decide) k) ?_
  refine GoW.sg (mkF m 58 (Sh13 a1 0 0 20000 0) [(.int 0), (.double 4601756397636419584), (.ref a1)]) (fun t k => XS.iconst X172.here hx rfl (hb hby d7_57) k) ?_
  refine GoW.sg (mkF m 59 (Sh13 a1 0 0 20000 0) [(.double 0), (.double 4601756397636419584), (.ref a1)]) (fun t k => XS.i2dS X172.here hx rfl (hb hby d7_58) rfl (v := (0 : UInt64)) (by decide +kernel) k) ?_
  refine GoW.sg (mkF m 60 (Sh13 a1 0 0 20000 0) [(.ref a1), (.double 0), (.double 4601756397636419584), (.ref a1)]) (fun t k => XS.aloadN X172.here hx rfl (hb hby d7_59) rfl rfl k) ?_
  obtain ⟨T173, X173, e173, st173⟩ := getF X172 hx hZ hown (host := "") (Or.inl (ww hw 9 rfl)) Via.refl e172 P1 (g := (mkF m 60 (Sh13 a1 0 0 20000 0) [(.ref a1), (.double 0), (.double 4601756397636419584), (.ref a1)])) rfl rfl (hb hby d7_60)
  refine GoW.sg (mkF m 63 (Sh13 a1 0 0 20000 0) [(.double 4601756397636419584), (.double 0), (.double 4601756397636419584), (.ref a1)]) (fun t k => st173 t k) ?_
  refine GoW.sg (mkF m 64 (Sh13 a1 0 0 20000 0) [(.double 13825128434491195392), (.double 4601756397636419584), (.ref a1)]) (fun t k => XS.dsubS X173.here hx rfl (hb hby d7_63) rfl (v := (13825128434491195392 : UInt64)) (by decide +kernel) (by decide +kernel) k) ?_
  refine GoW.sg (mkF m 67 (Sh13 a1 0 0 20000 0) [(.double 4593671619917905920), (.double 13825128434491195392), (.double 4601756397636419584), (.ref a1)]) (fun t k => X173.ldc2DoubleC hx hown (mvT hZ (ww hw 43 rfl)) (g := (mkF m 64 (Sh13 a1 0 0 20000 0) [(.double 13825128434491195392), (.double 4601756397636419584), (.ref a1)])) rfl (hb hby d7_64) t k) ?_
  refine GoW.sg (mkF m 68 (Sh13 a1 0 0 20000 0) [(.double 13811617635609083904), (.double 4601756397636419584), (.ref a1)]) (fun t k => XS.dmulS X173.here hx rfl (hb hby d7_67) rfl (v := (13811617635609083904 : UInt64)) (by decide +kernel) (by decide +kernel) k) ?_
  refine GoW.sg (mkF m 69 (Sh13 a1 0 0 20000 0) [(.double 4600745800421605376), (.ref a1)]) (fun t k => XS.daddS X173.here hx rfl (hb hby d7_68) rfl (v := (4600745800421605376 : UInt64)) (by decide +kernel) (by decide +kernel) k) ?_
  obtain ⟨T174, h174, X174, e174, W174, st174⟩ := putF X173 hx hZ hown (host := "") (Or.inl (ww hw 9 rfl)) Via.refl e173 P1 P0 (Or.inl (ww hw 10 rfl)) (ww hw 1 rfl) (ty := .double) (by decide) rfl rfl (g := (mkF m 69 (Sh13 a1 0 0 20000 0) [(.double 4600745800421605376), (.ref a1)])) rfl rfl (hb hby d7_69)
  have N174 := Fr.snoc X174 N0 g_a1
  have Exa_a1_174 : Exa Z h174 a1 "com/example/spindle/spindle/SpinRule" := P0.wr W174
  have Fld_a1_handedOn_174 : Fld Z h174 a1 "com/example/spindle/spindle/SpinRule" "handedOn" "Z" (.int (0 : Int32)) := P2.other W174 (Or.inr (slot_ne (t := .boolean) (t' := .double) (Or.inl (ww hw 17 rfl)) (Or.inl (ww hw 10 rfl)) (by decide) (by decide) (by decide)))
  have Fld_a1_awaitsAnswer_174 : Fld Z h174 a1 "com/example/spindle/spindle/SpinRule" "awaitsAnswer" "Z" (.int (1 : Int32)) := P3.other W174 (Or.inr (slot_ne (t := .boolean) (t' := .double) (Or.inl (ww hw 19 rfl)) (Or.inl (ww hw 10 rfl)) (by decide) (by decide) (by decide)))
  have Keep_174 : Keep h0 h174 [a1] := (Keep.refl h0 [a1]).wr W174 (Or.inl (List.mem_of_getElem? (i := 0) rfl))
  have Fld_a1_answeredShare_174 : Fld Z h174 a1 "com/example/spindle/spindle/SpinRule" "answeredShare" "D" (.double (4600745800421605376 : UInt64)) := P1.same W174
  refine GoW.sg (mkF m 72 (Sh13 a1 0 0 20000 0) []) (fun t k => st174 t k) ?_
  refine GoW.retV X174 hx Bd.returns (hb hby d7_72) Bd.notSynchronized ?_ (by decide) (by decide)
  rw [e174]
  exact ⟨rfl, N174, Keep_174, Exa_a1_174, Fld_a1_answeredShare_174, Fld_a1_handedOn_174, Fld_a1_awaitsAnswer_174⟩
def Q7_19 (Z : State) (a1 : Addr) (h0 : Heap) (n0 : Nat) (v : Option Value) (h : Heap) (L : List Loc) : Prop := v = none ∧ Fr n0 L ∧ (Keep h0 h [a1]) ∧ (Exa Z h a1 "com/example/spindle/spindle/SpinRule") ∧ (Fld Z h a1 "com/example/spindle/spindle/SpinRule" "answeredShare" "D" (.double (4599861527858642944 : UInt64))) ∧ (Fld Z h a1 "com/example/spindle/spindle/SpinRule" "handedOn" "Z" (.int (0 : Int32))) ∧ (Fld Z h a1 "com/example/spindle/spindle/SpinRule" "awaitsAnswer" "Z" (.int (1 : Int32)))
theorem ef7_rm7_19 (m : MethodId) (a1 : Addr) : entryFrame m #[(.ref a1), (.int (0 : Int32)), (.int (0 : Int32)), (.long (20000 : Int64))] 6 = (mkF m 0 #[.val (.ref a1), .val (.int 0), .val (.int 0), .val (.long 20000), .second, .unset] []) := by first | (simp [entryFrame, mkF, argsToLocals, Value.category, maxLocals]; done) | rfl
set_option maxRecDepth 65536 in
set_option maxHeartbeats 40000000 in
theorem rm7_19 (l : Launch) (Z : State) (a0 : Array Value) (hw : ∀ d ∈ tables_1, d.before a0 Z = true) (ws : List Jvm.Cond) (a1 : Addr)  (h0 : Heap) (n0 : Nat) (P0 : Exa Z h0 a1 "com/example/spindle/spindle/SpinRule") (P1 : Fld Z h0 a1 "com/example/spindle/spindle/SpinRule" "answeredShare" "D" (.double (4600745800421605376 : UInt64))) (P2 : Fld Z h0 a1 "com/example/spindle/spindle/SpinRule" "handedOn" "Z" (.int (0 : Int32))) (P3 : Fld Z h0 a1 "com/example/spindle/spindle/SpinRule" "awaitsAnswer" "Z" (.int (1 : Int32))) (g_a1 : n0 ≤ a1)    :
    MetFree l (⟨"com/example/spindle/spindle/SpinRule", "countWait", "(ZZJ)V"⟩ : MethodName) (head1 (Jvm.Cond.code (⟨"com/example/spindle/spindle/SpinRule", "countWait", "(ZZJ)V"⟩ : MethodName) prog_40_method_5_code 6 none :: ws) ({ frames := 0, cells := 0, slots := 0, locals := 0 } : Room)) (fun a U => a = #[(.ref a1), (.int (0 : Int32)), (.int (0 : Int32)), (.long (20000 : Int64))] ∧ Z.Warmed39 U.vm ∧ U.heap = h0) (fun _ _ _ _ _ => True) (fun _ U o U' => ∃ v L, o = .returned v ∧ (Q7_19 Z a1 h0 n0) v U'.heap L ∧ FrameEnd U o U' L 0 0) := by
  refine MetFree.of_bodySF (plainFor_of_name pn_com_example_spindle_spindle_SpinRule) hisR ?_
  intro p e s m args below meth c s₁ Bd hml0 hP hK
  obtain ⟨rfl, hZ, hh⟩ := hP
  have hx := Bd.exec
  have hby := Bd.bytes
  have hml : c.maxLocals = 6 := hml0
  have hown : s.vm.findClass "com/example/spindle/spindle/SpinRule" = some m.cls := findClass_of_methodNamed Bd.named
  have hnm := (name_of_methodNamed Bd.named Bd.method).1
  have X0 : Stand p l e ({ frames := 0, cells := 0, slots := 0, locals := 0 } : Room) s m #[(.ref a1), (.int (0 : Int32)), (.int (0 : Int32)), (.long (20000 : Int64))] below meth c s₁ [] 0 0 := Stand.of_body Bd
  have e0 : s₁.heap = h0 := by rw [← hh, Bd.state]; rfl
  have N0 := Fr.nil n0
  refine GoW.mk ?_
  refine GoW.st (fun t k => castTop (ef7_rm7_19 m a1) k) ?_
  show GoW p e below s (Q7_19 Z a1 h0 n0) 0 0 (s₁.setTop (mkF m 0 (Sh12 a1 0 0 20000) []))
  refine GoW.sg (mkF m 1 (Sh12 a1 0 0 20000) [(.ref a1)]) (fun t k => XS.aloadN X0.here hx rfl (hb hby d7_0) rfl rfl k) ?_
  obtain ⟨T180, X180, e180, st180⟩ := getF X0 hx hZ hown (host := "") (Or.inl (ww hw 18 rfl)) Via.refl e0 P3 (g := (mkF m 1 (Sh12 a1 0 0 20000) [(.ref a1)])) rfl rfl (hb hby d7_1)
  refine GoW.sg (mkF m 4 (Sh12 a1 0 0 20000) [(.int 1)]) (fun t k => st180 t k) ?_
  refine GoW.sg (mkF m 7 (Sh12 a1 0 0 20000) []) (fun t k => XS.ifNo X180.here hx rfl (hb hby d7_4) rfl (by decide) k) ?_
  refine GoW.sg (mkF m 8 (Sh12 a1 0 0 20000) [(.int 0)]) (fun t k => XS.iloadN X180.here hx rfl (hb hby d7_7) rfl k) ?_
  refine GoW.sg (mkF m 11 (Sh12 a1 0 0 20000) []) (fun t k => XS.ifNo X180.here hx rfl (hb hby d7_8) rfl (by decide) k) ?_
  refine GoW.sg (mkF m 12 (Sh12 a1 0 0 20000) [(.long 20000)]) (fun t k => XS.lloadN X180.here hx rfl (hb hby d7_11) rfl k) ?_
  refine GoW.sg (mkF m 15 (Sh12 a1 0 0 20000) [(.long 20000), (.long 20000)]) (fun t k => X180.ldc2Long hx hown (mvT hZ (ww hw 20 rfl)) (g := (mkF m 12 (Sh12 a1 0 0 20000) [(.long 20000)])) rfl (hb hby d7_12) t k) ?_
  refine GoW.sg (mkF m 16 (Sh12 a1 0 0 20000) [(.int (lcmpW (20000 : Int64) (20000 : Int64)))]) (fun t k => XS.lcmp X180.here hx rfl (hb hby d7_15) rfl k) ?_
  refine GoW.sg (mkF m 20 (Sh12 a1 0 0 20000) []) (fun t k => XS.ifYes X180.here hx rfl (pc0 := 16) (pc' := 20) rfl (hb hby d7_16) rfl (by decide) (by decide) (by decide) k) ?_
  refine GoW.sg (mkF m 21 (Sh12 a1 0 0 20000) [(.int 0)]) (fun t k => XS.iloadN X180.here hx rfl (hb hby d7_20) rfl k) ?_
  refine GoW.sg (mkF m 40 (Sh12 a1 0 0 20000) []) (fun t k => XS.ifYes X180.here hx rfl (pc0 := 21) (pc' := 40) rfl (hb hby d7_21) rfl (by decide) (by decide) (by decide) k) ?_
  refine GoW.sg (mkF m 41 (Sh12 a1 0 0 20000) [(.int 0)]) (fun t k => XS.iconst X180.here hx rfl (hb hby d7_40) k) ?_
  refine GoW.sg (mkF m 43 (Sh13 a1 0 0 20000 0) []) (fun t k => XS.istore X180.here hx rfl (hb hby d7_41) rfl (l' := (Sh13 a1 0 0 20000 0)) rfl k) ?_
  refine GoW.sg (mkF m 44 (Sh13 a1 0 0 20000 0) [(.ref a1)]) (fun t k => XS.aloadN X180.here hx rfl (hb hby d7_43) rfl rfl k) ?_
  refine GoW.sg (mkF m 45 (Sh13 a1 0 0 20000 0) [(.ref a1), (.ref a1)]) (fun t k => XS.dup X180.here hx rfl (hb hby d7_44) rfl rfl k) ?_
  obtain ⟨T181, X181, e181, st181⟩ := getF X180 hx hZ hown (host := "") (Or.inl (ww hw 9 rfl)) Via.refl e180 P1 (g := (mkF m 45 (Sh13 a1 0 0 20000 0) [(.ref a1), (.ref a1)])) rfl rfl (hb hby d7_45)
  refine GoW.sg (mkF m 48 (Sh13 a1 0 0 20000 0) [(.double 4600745800421605376), (.ref a1)]) (fun t k => st181 t k) ?_
  refine GoW.sg (mkF m 50 (Sh13 a1 0 0 20000 0) [(.int 0), (.double 4600745800421605376), (.ref a1)]) (fun t k => XS.iload X181.here hx rfl (hb hby d7_48) rfl k) ?_
  refine GoW.sg (mkF m 57 (Sh13 a1 0 0 20000 0) [(.double 4600745800421605376), (.ref a1)]) (fun t k => XS.ifYes X181.here hx rfl (pc0 := 50) (pc' := 57) rfl (hb hby d7_50) rfl (by decide) (by decide) (by decide) k) ?_
  refine GoW.sg (mkF m 58 (Sh13 a1 0 0 20000 0) [(.int 0), (.double 4600745800421605376), (.ref a1)]) (fun t k => XS.iconst X181.here hx rfl (hb hby d7_57) k) ?_
  refine GoW.sg (mkF m 59 (Sh13 a1 0 0 20000 0) [(.double 0), (.double 4600745800421605376), (.ref a1)]) (fun t k => XS.i2dS X181.here hx rfl (hb hby d7_58) rfl (v := (0 : UInt64)) (by decide +kernel) k) ?_
  refine GoW.sg (mkF m 60 (Sh13 a1 0 0 20000 0) [(.ref a1), (.double 0), (.double 4600745800421605376), (.ref a1)]) (fun t k => XS.aloadN X181.here hx rfl (hb hby d7_59) rfl rfl k) ?_
  obtain ⟨T182, X182, e182, st182⟩ := getF X181 hx hZ hown (host := "") (Or.inl (ww hw 9 rfl)) Via.refl e181 P1 (g := (mkF m 60 (Sh13 a1 0 0 20000 0) [(.ref a1), (.double 0), (.double 4600745800421605376), (.ref a1)])) rfl rfl (hb hby d7_60)
  refine GoW.sg (mkF m 63 (Sh13 a1 0 0 20000 0) [(.double 4600745800421605376), (.double 0), (.double 4600745800421605376), (.ref a1)]) (fun t k => st182 t k) ?_
  refine GoW.sg (mkF m 64 (Sh13 a1 0 0 20000 0) [(.double 13824117837276381184), (.double 4600745800421605376), (.ref a1)]) (fun t k => XS.dsubS X182.here hx rfl (hb hby d7_63) rfl (v := (13824117837276381184 : UInt64)) (by decide +kernel) (by decide +kernel) k) ?_
  refine GoW.sg (mkF m 67 (Sh13 a1 0 0 20000 0) [(.double 4593671619917905920), (.double 13824117837276381184), (.double 4600745800421605376), (.ref a1)]) (fun t k => X182.ldc2DoubleC hx hown (mvT hZ (ww hw 43 rfl)) (g := (mkF m 64 (Sh13 a1 0 0 20000 0) [(.double 13824117837276381184), (.double 4600745800421605376), (.ref a1)])) rfl (hb hby d7_64) t k) ?_
  refine GoW.sg (mkF m 68 (Sh13 a1 0 0 20000 0) [(.double 13810607038394269696), (.double 4600745800421605376), (.ref a1)]) (fun t k => XS.dmulS X182.here hx rfl (hb hby d7_67) rfl (v := (13810607038394269696 : UInt64)) (by decide +kernel) (by decide +kernel) k) ?_
  refine GoW.sg (mkF m 69 (Sh13 a1 0 0 20000 0) [(.double 4599861527858642944), (.ref a1)]) (fun t k => XS.daddS X182.here hx rfl (hb hby d7_68) rfl (v := (4599861527858642944 : UInt64)) (by decide +kernel) (by decide +kernel) k) ?_
  obtain ⟨T183, h183, X183, e183, W183, st183⟩ := putF X182 hx hZ hown (host := "") (Or.inl (ww hw 9 rfl)) Via.refl e182 P1 P0 (Or.inl (ww hw 10 rfl)) (ww hw 1 rfl) (ty := .double) (by decide) rfl rfl (g := (mkF m 69 (Sh13 a1 0 0 20000 0) [(.double 4599861527858642944), (.ref a1)])) rfl rfl (hb hby d7_69)
  have N183 := Fr.snoc X183 N0 g_a1
  have Exa_a1_183 : Exa Z h183 a1 "com/example/spindle/spindle/SpinRule" := P0.wr W183
  have Fld_a1_handedOn_183 : Fld Z h183 a1 "com/example/spindle/spindle/SpinRule" "handedOn" "Z" (.int (0 : Int32)) := P2.other W183 (Or.inr (slot_ne (t := .boolean) (t' := .double) (Or.inl (ww hw 17 rfl)) (Or.inl (ww hw 10 rfl)) (by decide) (by decide) (by decide)))
  have Fld_a1_awaitsAnswer_183 : Fld Z h183 a1 "com/example/spindle/spindle/SpinRule" "awaitsAnswer" "Z" (.int (1 : Int32)) := P3.other W183 (Or.inr (slot_ne (t := .boolean) (t' := .double) (Or.inl (ww hw 19 rfl)) (Or.inl (ww hw 10 rfl)) (by decide) (by decide) (by decide)))
  have Keep_183 : Keep h0 h183 [a1] := (Keep.refl h0 [a1]).wr W183 (Or.inl (List.mem_of_getElem? (i := 0) rfl))
  have Fld_a1_answeredShare_183 : Fld Z h183 a1 "com/example/spindle/spindle/SpinRule" "answeredShare" "D" (.double (4599861527858642944 : UInt64)) := P1.same W183
  refine GoW.sg (mkF m 72 (Sh13 a1 0 0 20000 0) []) (fun t k => st183 t k) ?_
  refine GoW.retV X183 hx Bd.returns (hb hby d7_72) Bd.notSynchronized ?_ (by decide) (by decide)
  rw [e183]
  exact ⟨rfl, N183, Keep_183, Exa_a1_183, Fld_a1_answeredShare_183, Fld_a1_handedOn_183, Fld_a1_awaitsAnswer_183⟩
def Q7_20 (Z : State) (a1 : Addr) (h0 : Heap) (n0 : Nat) (v : Option Value) (h : Heap) (L : List Loc) : Prop := v = none ∧ Fr n0 L ∧ (Keep h0 h [a1]) ∧ (Exa Z h a1 "com/example/spindle/spindle/SpinRule") ∧ (Fld Z h a1 "com/example/spindle/spindle/SpinRule" "answeredShare" "D" (.double (4599087789366050816 : UInt64))) ∧ (Fld Z h a1 "com/example/spindle/spindle/SpinRule" "handedOn" "Z" (.int (0 : Int32))) ∧ (Fld Z h a1 "com/example/spindle/spindle/SpinRule" "awaitsAnswer" "Z" (.int (1 : Int32)))
theorem ef7_rm7_20 (m : MethodId) (a1 : Addr) : entryFrame m #[(.ref a1), (.int (0 : Int32)), (.int (0 : Int32)), (.long (20000 : Int64))] 6 = (mkF m 0 #[.val (.ref a1), .val (.int 0), .val (.int 0), .val (.long 20000), .second, .unset] []) := by first | (simp [entryFrame, mkF, argsToLocals, Value.category, maxLocals]; done) | rfl
set_option maxRecDepth 65536 in
set_option maxHeartbeats 40000000 in
theorem rm7_20 (l : Launch) (Z : State) (a0 : Array Value) (hw : ∀ d ∈ tables_1, d.before a0 Z = true) (ws : List Jvm.Cond) (a1 : Addr)  (h0 : Heap) (n0 : Nat) (P0 : Exa Z h0 a1 "com/example/spindle/spindle/SpinRule") (P1 : Fld Z h0 a1 "com/example/spindle/spindle/SpinRule" "answeredShare" "D" (.double (4599861527858642944 : UInt64))) (P2 : Fld Z h0 a1 "com/example/spindle/spindle/SpinRule" "handedOn" "Z" (.int (0 : Int32))) (P3 : Fld Z h0 a1 "com/example/spindle/spindle/SpinRule" "awaitsAnswer" "Z" (.int (1 : Int32))) (g_a1 : n0 ≤ a1)    :
    MetFree l (⟨"com/example/spindle/spindle/SpinRule", "countWait", "(ZZJ)V"⟩ : MethodName) (head1 (Jvm.Cond.code (⟨"com/example/spindle/spindle/SpinRule", "countWait", "(ZZJ)V"⟩ : MethodName) prog_40_method_5_code 6 none :: ws) ({ frames := 0, cells := 0, slots := 0, locals := 0 } : Room)) (fun a U => a = #[(.ref a1), (.int (0 : Int32)), (.int (0 : Int32)), (.long (20000 : Int64))] ∧ Z.Warmed39 U.vm ∧ U.heap = h0) (fun _ _ _ _ _ => True) (fun _ U o U' => ∃ v L, o = .returned v ∧ (Q7_20 Z a1 h0 n0) v U'.heap L ∧ FrameEnd U o U' L 0 0) := by
  refine MetFree.of_bodySF (plainFor_of_name pn_com_example_spindle_spindle_SpinRule) hisR ?_
  intro p e s m args below meth c s₁ Bd hml0 hP hK
  obtain ⟨rfl, hZ, hh⟩ := hP
  have hx := Bd.exec
  have hby := Bd.bytes
  have hml : c.maxLocals = 6 := hml0
  have hown : s.vm.findClass "com/example/spindle/spindle/SpinRule" = some m.cls := findClass_of_methodNamed Bd.named
  have hnm := (name_of_methodNamed Bd.named Bd.method).1
  have X0 : Stand p l e ({ frames := 0, cells := 0, slots := 0, locals := 0 } : Room) s m #[(.ref a1), (.int (0 : Int32)), (.int (0 : Int32)), (.long (20000 : Int64))] below meth c s₁ [] 0 0 := Stand.of_body Bd
  have e0 : s₁.heap = h0 := by rw [← hh, Bd.state]; rfl
  have N0 := Fr.nil n0
  refine GoW.mk ?_
  refine GoW.st (fun t k => castTop (ef7_rm7_20 m a1) k) ?_
  show GoW p e below s (Q7_20 Z a1 h0 n0) 0 0 (s₁.setTop (mkF m 0 (Sh12 a1 0 0 20000) []))
  refine GoW.sg (mkF m 1 (Sh12 a1 0 0 20000) [(.ref a1)]) (fun t k => XS.aloadN X0.here hx rfl (hb hby d7_0) rfl rfl k) ?_
  obtain ⟨T189, X189, e189, st189⟩ := getF X0 hx hZ hown (host := "") (Or.inl (ww hw 18 rfl)) Via.refl e0 P3 (g := (mkF m 1 (Sh12 a1 0 0 20000) [(.ref a1)])) rfl rfl (hb hby d7_1)
  refine GoW.sg (mkF m 4 (Sh12 a1 0 0 20000) [(.int 1)]) (fun t k => st189 t k) ?_
  refine GoW.sg (mkF m 7 (Sh12 a1 0 0 20000) []) (fun t k => XS.ifNo X189.here hx rfl (hb hby d7_4) rfl (by decide) k) ?_
  refine GoW.sg (mkF m 8 (Sh12 a1 0 0 20000) [(.int 0)]) (fun t k => XS.iloadN X189.here hx rfl (hb hby d7_7) rfl k) ?_
  refine GoW.sg (mkF m 11 (Sh12 a1 0 0 20000) []) (fun t k => XS.ifNo X189.here hx rfl (hb hby d7_8) rfl (by decide) k) ?_
  refine GoW.sg (mkF m 12 (Sh12 a1 0 0 20000) [(.long 20000)]) (fun t k => XS.lloadN X189.here hx rfl (hb hby d7_11) rfl k) ?_
  refine GoW.sg (mkF m 15 (Sh12 a1 0 0 20000) [(.long 20000), (.long 20000)]) (fun t k => X189.ldc2Long hx hown (mvT hZ (ww hw 20 rfl)) (g := (mkF m 12 (Sh12 a1 0 0 20000) [(.long 20000)])) rfl (hb hby d7_12) t k) ?_
  refine GoW.sg (mkF m 16 (Sh12 a1 0 0 20000) [(.int (lcmpW (20000 : Int64) (20000 : Int64)))]) (fun t k => XS.lcmp X189.here hx rfl (hb hby d7_15) rfl k) ?_
  refine GoW.sg (mkF m 20 (Sh12 a1 0 0 20000) []) (fun t k => XS.ifYes X189.here hx rfl (pc0 := 16) (pc' := 20) rfl (hb hby d7_16) rfl (by decide) (by decide) (by decide) k) ?_
  refine GoW.sg (mkF m 21 (Sh12 a1 0 0 20000) [(.int 0)]) (fun t k => XS.iloadN X189.here hx rfl (hb hby d7_20) rfl k) ?_
  refine GoW.sg (mkF m 40 (Sh12 a1 0 0 20000) []) (fun t k => XS.ifYes X189.here hx rfl (pc0 := 21) (pc' := 40) rfl (hb hby d7_21) rfl (by decide) (by decide) (by decide) k) ?_
  refine GoW.sg (mkF m 41 (Sh12 a1 0 0 20000) [(.int 0)]) (fun t k => XS.iconst X189.here hx rfl (hb hby d7_40) k) ?_
  refine GoW.sg (mkF m 43 (Sh13 a1 0 0 20000 0) []) (fun t k => XS.istore X189.here hx rfl (hb hby d7_41) rfl (l' := (Sh13 a1 0 0 20000 0)) rfl k) ?_
  refine GoW.sg (mkF m 44 (Sh13 a1 0 0 20000 0) [(.ref a1)]) (fun t k => XS.aloadN X189.here hx rfl (hb hby d7_43) rfl rfl k) ?_
  refine GoW.sg (mkF m 45 (Sh13 a1 0 0 20000 0) [(.ref a1), (.ref a1)]) (fun t k => XS.dup X189.here hx rfl (hb hby d7_44) rfl rfl k) ?_
  obtain ⟨T190, X190, e190, st190⟩ := getF X189 hx hZ hown (host := "") (Or.inl (ww hw 9 rfl)) Via.refl e189 P1 (g := (mkF m 45 (Sh13 a1 0 0 20000 0) [(.ref a1), (.ref a1)])) rfl rfl (hb hby d7_45)
  refine GoW.sg (mkF m 48 (Sh13 a1 0 0 20000 0) [(.double 4599861527858642944), (.ref a1)]) (fun t k => st190 t k) ?_
  refine GoW.sg (mkF m 50 (Sh13 a1 0 0 20000 0) [(.int 0), (.double 4599861527858642944), (.ref a1)]) (fun t k => XS.iload X190.here hx rfl (hb hby d7_48) rfl k) ?_
  refine GoW.sg (mkF m 57 (Sh13 a1 0 0 20000 0) [(.double 4599861527858642944), (.ref a1)]) (fun t k => XS.ifYes X190.here hx rfl (pc0 := 50) (pc' := 57) rfl (hb hby d7_50) rfl (by decide) (by decide) (by decide) k) ?_
  refine GoW.sg (mkF m 58 (Sh13 a1 0 0 20000 0) [(.int 0), (.double 4599861527858642944), (.ref a1)]) (fun t k => XS.iconst X190.here hx rfl (hb hby d7_57) k) ?_
  refine GoW.sg (mkF m 59 (Sh13 a1 0 0 20000 0) [(.double 0), (.double 4599861527858642944), (.ref a1)]) (fun t k => XS.i2dS X190.here hx rfl (hb hby d7_58) rfl (v := (0 : UInt64)) (by decide +kernel) k) ?_
  refine GoW.sg (mkF m 60 (Sh13 a1 0 0 20000 0) [(.ref a1), (.double 0), (.double 4599861527858642944), (.ref a1)]) (fun t k => XS.aloadN X190.here hx rfl (hb hby d7_59) rfl rfl k) ?_
  obtain ⟨T191, X191, e191, st191⟩ := getF X190 hx hZ hown (host := "") (Or.inl (ww hw 9 rfl)) Via.refl e190 P1 (g := (mkF m 60 (Sh13 a1 0 0 20000 0) [(.ref a1), (.double 0), (.double 4599861527858642944), (.ref a1)])) rfl rfl (hb hby d7_60)
  refine GoW.sg (mkF m 63 (Sh13 a1 0 0 20000 0) [(.double 4599861527858642944), (.double 0), (.double 4599861527858642944), (.ref a1)]) (fun t k => st191 t k) ?_
  refine GoW.sg (mkF m 64 (Sh13 a1 0 0 20000 0) [(.double 13823233564713418752), (.double 4599861527858642944), (.ref a1)]) (fun t k => XS.dsubS X191.here hx rfl (hb hby d7_63) rfl (v := (13823233564713418752 : UInt64)) (by decide +kernel) (by decide +kernel) k) ?_
  refine GoW.sg (mkF m 67 (Sh13 a1 0 0 20000 0) [(.double 4593671619917905920), (.double 13823233564713418752), (.double 4599861527858642944), (.ref a1)]) (fun t k => X191.ldc2DoubleC hx hown (mvT hZ (ww hw 43 rfl)) (g := (mkF m 64 (Sh13 a1 0 0 20000 0) [(.double 13823233564713418752), (.double 4599861527858642944), (.ref a1)])) rfl (hb hby d7_64) t k) ?_
  refine GoW.sg (mkF m 68 (Sh13 a1 0 0 20000 0) [(.double 13809722765831307264), (.double 4599861527858642944), (.ref a1)]) (fun t k => XS.dmulS X191.here hx rfl (hb hby d7_67) rfl (v := (13809722765831307264 : UInt64)) (by decide +kernel) (by decide +kernel) k) ?_
  refine GoW.sg (mkF m 69 (Sh13 a1 0 0 20000 0) [(.double 4599087789366050816), (.ref a1)]) (fun t k => XS.daddS X191.here hx rfl (hb hby d7_68) rfl (v := (4599087789366050816 : UInt64)) (by decide +kernel) (by decide +kernel) k) ?_
  obtain ⟨T192, h192, X192, e192, W192, st192⟩ := putF X191 hx hZ hown (host := "") (Or.inl (ww hw 9 rfl)) Via.refl e191 P1 P0 (Or.inl (ww hw 10 rfl)) (ww hw 1 rfl) (ty := .double) (by decide) rfl rfl (g := (mkF m 69 (Sh13 a1 0 0 20000 0) [(.double 4599087789366050816), (.ref a1)])) rfl rfl (hb hby d7_69)
  have N192 := Fr.snoc X192 N0 g_a1
  have Exa_a1_192 : Exa Z h192 a1 "com/example/spindle/spindle/SpinRule" := P0.wr W192
  have Fld_a1_handedOn_192 : Fld Z h192 a1 "com/example/spindle/spindle/SpinRule" "handedOn" "Z" (.int (0 : Int32)) := P2.other W192 (Or.inr (slot_ne (t := .boolean) (t' := .double) (Or.inl (ww hw 17 rfl)) (Or.inl (ww hw 10 rfl)) (by decide) (by decide) (by decide)))
  have Fld_a1_awaitsAnswer_192 : Fld Z h192 a1 "com/example/spindle/spindle/SpinRule" "awaitsAnswer" "Z" (.int (1 : Int32)) := P3.other W192 (Or.inr (slot_ne (t := .boolean) (t' := .double) (Or.inl (ww hw 19 rfl)) (Or.inl (ww hw 10 rfl)) (by decide) (by decide) (by decide)))
  have Keep_192 : Keep h0 h192 [a1] := (Keep.refl h0 [a1]).wr W192 (Or.inl (List.mem_of_getElem? (i := 0) rfl))
  have Fld_a1_answeredShare_192 : Fld Z h192 a1 "com/example/spindle/spindle/SpinRule" "answeredShare" "D" (.double (4599087789366050816 : UInt64)) := P1.same W192
  refine GoW.sg (mkF m 72 (Sh13 a1 0 0 20000 0) []) (fun t k => st192 t k) ?_
  refine GoW.retV X192 hx Bd.returns (hb hby d7_72) Bd.notSynchronized ?_ (by decide) (by decide)
  rw [e192]
  exact ⟨rfl, N192, Keep_192, Exa_a1_192, Fld_a1_answeredShare_192, Fld_a1_handedOn_192, Fld_a1_awaitsAnswer_192⟩
def Q7_21 (Z : State) (a1 : Addr) (h0 : Heap) (n0 : Nat) (v : Option Value) (h : Heap) (L : List Loc) : Prop := v = none ∧ Fr n0 L ∧ (Keep h0 h [a1]) ∧ (Exa Z h a1 "com/example/spindle/spindle/SpinRule") ∧ (Fld Z h a1 "com/example/spindle/spindle/SpinRule" "answeredShare" "D" (.double (4598410768185032704 : UInt64))) ∧ (Fld Z h a1 "com/example/spindle/spindle/SpinRule" "handedOn" "Z" (.int (0 : Int32))) ∧ (Fld Z h a1 "com/example/spindle/spindle/SpinRule" "awaitsAnswer" "Z" (.int (1 : Int32)))
theorem ef7_rm7_21 (m : MethodId) (a1 : Addr) : entryFrame m #[(.ref a1), (.int (0 : Int32)), (.int (0 : Int32)), (.long (20000 : Int64))] 6 = (mkF m 0 #[.val (.ref a1), .val (.int 0), .val (.int 0), .val (.long 20000), .second, .unset] []) := by first | (simp [entryFrame, mkF, argsToLocals, Value.category, maxLocals]; done) | rfl
set_option maxRecDepth 65536 in
set_option maxHeartbeats 40000000 in
theorem rm7_21 (l : Launch) (Z : State) (a0 : Array Value) (hw : ∀ d ∈ tables_1, d.before a0 Z = true) (ws : List Jvm.Cond) (a1 : Addr)  (h0 : Heap) (n0 : Nat) (P0 : Exa Z h0 a1 "com/example/spindle/spindle/SpinRule") (P1 : Fld Z h0 a1 "com/example/spindle/spindle/SpinRule" "answeredShare" "D" (.double (4599087789366050816 : UInt64))) (P2 : Fld Z h0 a1 "com/example/spindle/spindle/SpinRule" "handedOn" "Z" (.int (0 : Int32))) (P3 : Fld Z h0 a1 "com/example/spindle/spindle/SpinRule" "awaitsAnswer" "Z" (.int (1 : Int32))) (g_a1 : n0 ≤ a1)    :
    MetFree l (⟨"com/example/spindle/spindle/SpinRule", "countWait", "(ZZJ)V"⟩ : MethodName) (head1 (Jvm.Cond.code (⟨"com/example/spindle/spindle/SpinRule", "countWait", "(ZZJ)V"⟩ : MethodName) prog_40_method_5_code 6 none :: ws) ({ frames := 0, cells := 0, slots := 0, locals := 0 } : Room)) (fun a U => a = #[(.ref a1), (.int (0 : Int32)), (.int (0 : Int32)), (.long (20000 : Int64))] ∧ Z.Warmed39 U.vm ∧ U.heap = h0) (fun _ _ _ _ _ => True) (fun _ U o U' => ∃ v L, o = .returned v ∧ (Q7_21 Z a1 h0 n0) v U'.heap L ∧ FrameEnd U o U' L 0 0) := by
  refine MetFree.of_bodySF (plainFor_of_name pn_com_example_spindle_spindle_SpinRule) hisR ?_
  intro p e s m args below meth c s₁ Bd hml0 hP hK
  obtain ⟨rfl, hZ, hh⟩ := hP
  have hx := Bd.exec
  have hby := Bd.bytes
  have hml : c.maxLocals = 6 := hml0
  have hown : s.vm.findClass "com/example/spindle/spindle/SpinRule" = some m.cls := findClass_of_methodNamed Bd.named
  have hnm := (name_of_methodNamed Bd.named Bd.method).1
  have X0 : Stand p l e ({ frames := 0, cells := 0, slots := 0, locals := 0 } : Room) s m #[(.ref a1), (.int (0 : Int32)), (.int (0 : Int32)), (.long (20000 : Int64))] below meth c s₁ [] 0 0 := Stand.of_body Bd
  have e0 : s₁.heap = h0 := by rw [← hh, Bd.state]; rfl
  have N0 := Fr.nil n0
  refine GoW.mk ?_
  refine GoW.st (fun t k => castTop (ef7_rm7_21 m a1) k) ?_
  show GoW p e below s (Q7_21 Z a1 h0 n0) 0 0 (s₁.setTop (mkF m 0 (Sh12 a1 0 0 20000) []))
  refine GoW.sg (mkF m 1 (Sh12 a1 0 0 20000) [(.ref a1)]) (fun t k => XS.aloadN X0.here hx rfl (hb hby d7_0) rfl rfl k) ?_
  obtain ⟨T198, X198, e198, st198⟩ := getF X0 hx hZ hown (host := "") (Or.inl (ww hw 18 rfl)) Via.refl e0 P3 (g := (mkF m 1 (Sh12 a1 0 0 20000) [(.ref a1)])) rfl rfl (hb hby d7_1)
  refine GoW.sg (mkF m 4 (Sh12 a1 0 0 20000) [(.int 1)]) (fun t k => st198 t k) ?_
  refine GoW.sg (mkF m 7 (Sh12 a1 0 0 20000) []) (fun t k => XS.ifNo X198.here hx rfl (hb hby d7_4) rfl (by decide) k) ?_
  refine GoW.sg (mkF m 8 (Sh12 a1 0 0 20000) [(.int 0)]) (fun t k => XS.iloadN X198.here hx rfl (hb hby d7_7) rfl k) ?_
  refine GoW.sg (mkF m 11 (Sh12 a1 0 0 20000) []) (fun t k => XS.ifNo X198.here hx rfl (hb hby d7_8) rfl (by decide) k) ?_
  refine GoW.sg (mkF m 12 (Sh12 a1 0 0 20000) [(.long 20000)]) (fun t k => XS.lloadN X198.here hx rfl (hb hby d7_11) rfl k) ?_
  refine GoW.sg (mkF m 15 (Sh12 a1 0 0 20000) [(.long 20000), (.long 20000)]) (fun t k => X198.ldc2Long hx hown (mvT hZ (ww hw 20 rfl)) (g := (mkF m 12 (Sh12 a1 0 0 20000) [(.long 20000)])) rfl (hb hby d7_12) t k) ?_
  refine GoW.sg (mkF m 16 (Sh12 a1 0 0 20000) [(.int (lcmpW (20000 : Int64) (20000 : Int64)))]) (fun t k => XS.lcmp X198.here hx rfl (hb hby d7_15) rfl k) ?_
  refine GoW.sg (mkF m 20 (Sh12 a1 0 0 20000) []) (fun t k => XS.ifYes X198.here hx rfl (pc0 := 16) (pc' := 20) rfl (hb hby d7_16) rfl (by decide) (by decide) (by decide) k) ?_
  refine GoW.sg (mkF m 21 (Sh12 a1 0 0 20000) [(.int 0)]) (fun t k => XS.iloadN X198.here hx rfl (hb hby d7_20) rfl k) ?_
  refine GoW.sg (mkF m 40 (Sh12 a1 0 0 20000) []) (fun t k => XS.ifYes X198.here hx rfl (pc0 := 21) (pc' := 40) rfl (hb hby d7_21) rfl (by decide) (by decide) (by decide) k) ?_
  refine GoW.sg (mkF m 41 (Sh12 a1 0 0 20000) [(.int 0)]) (fun t k => XS.iconst X198.here hx rfl (hb hby d7_40) k) ?_
  refine GoW.sg (mkF m 43 (Sh13 a1 0 0 20000 0) []) (fun t k => XS.istore X198.here hx rfl (hb hby d7_41) rfl (l' := (Sh13 a1 0 0 20000 0)) rfl k) ?_
  refine GoW.sg (mkF m 44 (Sh13 a1 0 0 20000 0) [(.ref a1)]) (fun t k => XS.aloadN X198.here hx rfl (hb hby d7_43) rfl rfl k) ?_
  refine GoW.sg (mkF m 45 (Sh13 a1 0 0 20000 0) [(.ref a1), (.ref a1)]) (fun t k => XS.dup X198.here hx rfl (hb hby d7_44) rfl rfl k) ?_
  obtain ⟨T199, X199, e199, st199⟩ := getF X198 hx hZ hown (host := "") (Or.inl (ww hw 9 rfl)) Via.refl e198 P1 (g := (mkF m 45 (Sh13 a1 0 0 20000 0) [(.ref a1), (.ref a1)])) rfl rfl (hb hby d7_45)
  refine GoW.sg (mkF m 48 (Sh13 a1 0 0 20000 0) [(.double 4599087789366050816), (.ref a1)]) (fun t k => st199 t k) ?_
  refine GoW.sg (mkF m 50 (Sh13 a1 0 0 20000 0) [(.int 0), (.double 4599087789366050816), (.ref a1)]) (fun t k => XS.iload X199.here hx rfl (hb hby d7_48) rfl k) ?_
  refine GoW.sg (mkF m 57 (Sh13 a1 0 0 20000 0) [(.double 4599087789366050816), (.ref a1)]) (fun t k => XS.ifYes X199.here hx rfl (pc0 := 50) (pc' := 57) rfl (hb hby d7_50) rfl (by decide) (by decide) (by decide) k) ?_
  refine GoW.sg (mkF m 58 (Sh13 a1 0 0 20000 0) [(.int 0), (.double 4599087789366050816), (.ref a1)]) (fun t k => XS.iconst X199.here hx rfl (hb hby d7_57) k) ?_
  refine GoW.sg (mkF m 59 (Sh13 a1 0 0 20000 0) [(.double 0), (.double 4599087789366050816), (.ref a1)]) (fun t k => XS.i2dS X199.here hx rfl (hb hby d7_58) rfl (v := (0 : UInt64)) (by decide +kernel) k) ?_
  refine GoW.sg (mkF m 60 (Sh13 a1 0 0 20000 0) [(.ref a1), (.double 0), (.double 4599087789366050816), (.ref a1)]) (fun t k => XS.aloadN X199.here hx rfl (hb hby d7_59) rfl rfl k) ?_
  obtain ⟨T200, X200, e200, st200⟩ := getF X199 hx hZ hown (host := "") (Or.inl (ww hw 9 rfl)) Via.refl e199 P1 (g := (mkF m 60 (Sh13 a1 0 0 20000 0) [(.ref a1), (.double 0), (.double 4599087789366050816), (.ref a1)])) rfl rfl (hb hby d7_60)
  refine GoW.sg (mkF m 63 (Sh13 a1 0 0 20000 0) [(.double 4599087789366050816), (.double 0), (.double 4599087789366050816), (.ref a1)]) (fun t k => st200 t k) ?_
  refine GoW.sg (mkF m 64 (Sh13 a1 0 0 20000 0) [(.double 13822459826220826624), (.double 4599087789366050816), (.ref a1)]) (fun t k => XS.dsubS X200.here hx rfl (hb hby d7_63) rfl (v := (13822459826220826624 : UInt64)) (by decide +kernel) (by decide +kernel) k) ?_
  refine GoW.sg (mkF m 67 (Sh13 a1 0 0 20000 0) [(.double 4593671619917905920), (.double 13822459826220826624), (.double 4599087789366050816), (.ref a1)]) (fun t k => X200.ldc2DoubleC hx hown (mvT hZ (ww hw 43 rfl)) (g := (mkF m 64 (Sh13 a1 0 0 20000 0) [(.double 13822459826220826624), (.double 4599087789366050816), (.ref a1)])) rfl (hb hby d7_64) t k) ?_
  refine GoW.sg (mkF m 68 (Sh13 a1 0 0 20000 0) [(.double 13808949027338715136), (.double 4599087789366050816), (.ref a1)]) (fun t k => XS.dmulS X200.here hx rfl (hb hby d7_67) rfl (v := (13808949027338715136 : UInt64)) (by decide +kernel) (by decide +kernel) k) ?_
  refine GoW.sg (mkF m 69 (Sh13 a1 0 0 20000 0) [(.double 4598410768185032704), (.ref a1)]) (fun t k => XS.daddS X200.here hx rfl (hb hby d7_68) rfl (v := (4598410768185032704 : UInt64)) (by decide +kernel) (by decide +kernel) k) ?_
  obtain ⟨T201, h201, X201, e201, W201, st201⟩ := putF X200 hx hZ hown (host := "") (Or.inl (ww hw 9 rfl)) Via.refl e200 P1 P0 (Or.inl (ww hw 10 rfl)) (ww hw 1 rfl) (ty := .double) (by decide) rfl rfl (g := (mkF m 69 (Sh13 a1 0 0 20000 0) [(.double 4598410768185032704), (.ref a1)])) rfl rfl (hb hby d7_69)
  have N201 := Fr.snoc X201 N0 g_a1
  have Exa_a1_201 : Exa Z h201 a1 "com/example/spindle/spindle/SpinRule" := P0.wr W201
  have Fld_a1_handedOn_201 : Fld Z h201 a1 "com/example/spindle/spindle/SpinRule" "handedOn" "Z" (.int (0 : Int32)) := P2.other W201 (Or.inr (slot_ne (t := .boolean) (t' := .double) (Or.inl (ww hw 17 rfl)) (Or.inl (ww hw 10 rfl)) (by decide) (by decide) (by decide)))
  have Fld_a1_awaitsAnswer_201 : Fld Z h201 a1 "com/example/spindle/spindle/SpinRule" "awaitsAnswer" "Z" (.int (1 : Int32)) := P3.other W201 (Or.inr (slot_ne (t := .boolean) (t' := .double) (Or.inl (ww hw 19 rfl)) (Or.inl (ww hw 10 rfl)) (by decide) (by decide) (by decide)))
  have Keep_201 : Keep h0 h201 [a1] := (Keep.refl h0 [a1]).wr W201 (Or.inl (List.mem_of_getElem? (i := 0) rfl))
  have Fld_a1_answeredShare_201 : Fld Z h201 a1 "com/example/spindle/spindle/SpinRule" "answeredShare" "D" (.double (4598410768185032704 : UInt64)) := P1.same W201
  refine GoW.sg (mkF m 72 (Sh13 a1 0 0 20000 0) []) (fun t k => st201 t k) ?_
  refine GoW.retV X201 hx Bd.returns (hb hby d7_72) Bd.notSynchronized ?_ (by decide) (by decide)
  rw [e201]
  exact ⟨rfl, N201, Keep_201, Exa_a1_201, Fld_a1_answeredShare_201, Fld_a1_handedOn_201, Fld_a1_awaitsAnswer_201⟩
def Q6_22 (Z : State) (a1 : Addr) (h0 : Heap) (n0 : Nat) (v : Option Value) (h : Heap) (L : List Loc) : Prop := v = none ∧ Fr n0 L ∧ (Keep h0 h [a1]) ∧ (Exa Z h a1 "com/example/spindle/spindle/SpinRule") ∧ (Fld Z h a1 "com/example/spindle/spindle/SpinRule" "answeredShare" "D" (.double (4598410768185032704 : UInt64))) ∧ (Fld Z h a1 "com/example/spindle/spindle/SpinRule" "handedOn" "Z" (.int (0 : Int32))) ∧ (Fld Z h a1 "com/example/spindle/spindle/SpinRule" "awaitsAnswer" "Z" (.int (1 : Int32)))
theorem ef6_rm6_22 (m : MethodId) (a1 : Addr) : entryFrame m #[(.ref a1)] 1 = (mkF m 0 #[.val (.ref a1)] []) := by first | (simp [entryFrame, mkF, argsToLocals, Value.category, maxLocals]; done) | rfl
set_option maxRecDepth 65536 in
set_option maxHeartbeats 40000000 in
theorem rm6_22 (l : Launch) (Z : State) (a0 : Array Value) (hw : ∀ d ∈ tables_1, d.before a0 Z = true) (ws : List Jvm.Cond) (a1 : Addr)  (h0 : Heap) (n0 : Nat) (P0 : Exa Z h0 a1 "com/example/spindle/spindle/SpinRule") (P1 : Fld Z h0 a1 "com/example/spindle/spindle/SpinRule" "answeredShare" "D" (.double (4607182418800017408 : UInt64))) (P2 : Fld Z h0 a1 "com/example/spindle/spindle/SpinRule" "handedOn" "Z" (.int (0 : Int32))) (P3 : Fld Z h0 a1 "com/example/spindle/spindle/SpinRule" "awaitsAnswer" "Z" (.int (1 : Int32))) (g_a1 : n0 ≤ a1)    :
    MetFree l (⟨"com/example/spindle/spindle/SpinRuleSpinNanosPinLaw", "tenMisses", "(Lcom/example/spindle/spindle/SpinRule;)V"⟩ : MethodName) (head1 (Jvm.Cond.code (⟨"com/example/spindle/spindle/SpinRuleSpinNanosPinLaw", "tenMisses", "(Lcom/example/spindle/spindle/SpinRule;)V"⟩ : MethodName) method_2_code 1 none :: ws) ({ frames := 1, cells := 0, slots := 0, locals := 17 } : Room)) (fun a U => a = #[(.ref a1)] ∧ Z.Warmed39 U.vm ∧ U.heap = h0) (fun _ _ _ _ _ => True) (fun _ U o U' => ∃ v L, o = .returned v ∧ (Q6_22 Z a1 h0 n0) v U'.heap L ∧ FrameEnd U o U' L 0 0) := by
  refine MetFree.of_bodySF (plainFor_of_name pn_com_example_spindle_spindle_SpinRuleSpinNanosPinLaw) hisR ?_
  intro p e s m args below meth c s₁ Bd hml0 hP hK
  obtain ⟨rfl, hZ, hh⟩ := hP
  have hx := Bd.exec
  have hby := Bd.bytes
  have hml : c.maxLocals = 1 := hml0
  have hown : s.vm.findClass "com/example/spindle/spindle/SpinRuleSpinNanosPinLaw" = some m.cls := findClass_of_methodNamed Bd.named
  have hnm := (name_of_methodNamed Bd.named Bd.method).1
  have X0 : Stand p l e ({ frames := 1, cells := 0, slots := 0, locals := 17 } : Room) s m #[(.ref a1)] below meth c s₁ [] 0 0 := Stand.of_body Bd
  have e0 : s₁.heap = h0 := by rw [← hh, Bd.state]; rfl
  have N0 := Fr.nil n0
  refine GoW.mk ?_
  refine GoW.st (fun t k => castTop (ef6_rm6_22 m a1) k) ?_
  show GoW p e below s (Q6_22 Z a1 h0 n0) 0 0 (s₁.setTop (mkF m 0 #[.val (.ref a1)] []))
  refine GoW.sg (mkF m 1 #[.val (.ref a1)] [(.ref a1)]) (fun t k => XS.aloadN X0.here hx rfl (hb hby d6_0) rfl rfl k) ?_
  refine GoW.sg (mkF m 2 #[.val (.ref a1)] [(.int 0), (.ref a1)]) (fun t k => XS.iconst X0.here hx rfl (hb hby d6_1) k) ?_
  refine GoW.sg (mkF m 3 #[.val (.ref a1)] [(.int 0), (.int 0), (.ref a1)]) (fun t k => XS.iconst X0.here hx rfl (hb hby d6_2) k) ?_
  refine GoW.sg (mkF m 6 #[.val (.ref a1)] [(.long 20000), (.int 0), (.int 0), (.ref a1)]) (fun t k => X0.ldc2Long hx hown (mvT hZ (ww hw 21 rfl)) (g := (mkF m 3 #[.val (.ref a1)] [(.int 0), (.int 0), (.ref a1)])) rfl (hb hby d6_3) t k) ?_
  obtain ⟨cq203, kq203, q203a, q203b, q203c⟩ := isOf hZ e0 P0
  obtain ⟨_, _, ⟨T203, L203, k203, n203⟩, -, X203, ⟨Lc203, hQ203, l203, y203, z203⟩, st203⟩ := X0.virtualBack hx (y := (⟨"com/example/spindle/spindle/SpinRule", "countWait", "(ZZJ)V"⟩ : MethodName)) (z := (⟨"com/example/spindle/spindle/SpinRule", "countWait", "(ZZJ)V"⟩ : MethodName)) hown (mvT hZ (ww hw 38 rfl)) (mvT hZ (ww hw 39 rfl)) (notFace_of_selects (args := #[]) (mvT hZ (ww hw 41 rfl))) (mvT hZ (ww hw 41 rfl)) (mvT hZ (ww hw 40 rfl)) (by decide) (backOf (W := 0) (rm7_12 l Z a0 hw [] a1  h0 n0  P0 P1 P2 P3 g_a1   ) hZ (ww hw 42 rfl) (ww hw 2 rfl) (by decide) (by decide)) q203a q203c (g := (mkF m 6 #[.val (.ref a1)] [(.long 20000), (.int 0), (.int 0), (.ref a1)])) rfl (by rw [hml]; rfl) (Steps.refl _) (argsL := [(.int (0 : Int32)), (.int (0 : Int32)), (.long (20000 : Int64))]) (rest := []) (lenOf pd_28ZZJ29V rfl) rfl (by show 2 * 0 + _ ≤ _; exact Nat.le_of_eq rfl) (hb hby d6_6) (fun _ _ => ⟨rfl, e0, (by decide : 0 + 0 ≤ _), (by decide : 0 + 0 ≤ _)⟩)
  dsimp only [Pt.U, Pt.locs, Pt.cells, Pt.slots] at X203 l203 y203 z203 st203 hQ203
  subst l203 y203 z203
  obtain ⟨rfl, N203q, K203, p203_0, p203_1, p203_2, p203_3⟩ := hQ203
  have N203 := Fr.app N0 N203q
  have Keep_203 : Keep h0 T203.heap [a1] := (Keep.refl h0 [a1]).trans K203 (allS (Or.inl (List.mem_of_getElem? (i := 0) rfl)) all0)
  refine GoW.sg (mkF m 9 #[.val (.ref a1)] []) (fun t k => st203.trans k) ?_
  refine GoW.sg (mkF m 10 #[.val (.ref a1)] [(.ref a1)]) (fun t k => XS.aloadN X203.here hx rfl (hb hby d6_9) rfl rfl k) ?_
  refine GoW.sg (mkF m 11 #[.val (.ref a1)] [(.int 0), (.ref a1)]) (fun t k => XS.iconst X203.here hx rfl (hb hby d6_10) k) ?_
  refine GoW.sg (mkF m 12 #[.val (.ref a1)] [(.int 0), (.int 0), (.ref a1)]) (fun t k => XS.iconst X203.here hx rfl (hb hby d6_11) k) ?_
  refine GoW.sg (mkF m 15 #[.val (.ref a1)] [(.long 20000), (.int 0), (.int 0), (.ref a1)]) (fun t k => X203.ldc2Long hx hown (mvT hZ (ww hw 21 rfl)) (g := (mkF m 12 #[.val (.ref a1)] [(.int 0), (.int 0), (.ref a1)])) rfl (hb hby d6_12) t k) ?_
  obtain ⟨cq204, kq204, q204a, q204b, q204c⟩ := isOf hZ rfl p203_0
  obtain ⟨_, _, ⟨T204, L204, k204, n204⟩, -, X204, ⟨Lc204, hQ204, l204, y204, z204⟩, st204⟩ := X203.virtualBack hx (y := (⟨"com/example/spindle/spindle/SpinRule", "countWait", "(ZZJ)V"⟩ : MethodName)) (z := (⟨"com/example/spindle/spindle/SpinRule", "countWait", "(ZZJ)V"⟩ : MethodName)) hown (mvT hZ (ww hw 38 rfl)) (mvT hZ (ww hw 39 rfl)) (notFace_of_selects (args := #[]) (mvT hZ (ww hw 41 rfl))) (mvT hZ (ww hw 41 rfl)) (mvT hZ (ww hw 40 rfl)) (by decide) (backOf (W := 0) (rm7_13 l Z a0 hw [] a1  T203.heap n0  p203_0 p203_1 p203_2 p203_3 g_a1   ) hZ (ww hw 42 rfl) (ww hw 2 rfl) (by decide) (by decide)) q204a q204c (g := (mkF m 15 #[.val (.ref a1)] [(.long 20000), (.int 0), (.int 0), (.ref a1)])) rfl (by rw [hml]; rfl) (Steps.refl _) (argsL := [(.int (0 : Int32)), (.int (0 : Int32)), (.long (20000 : Int64))]) (rest := []) (lenOf pd_28ZZJ29V rfl) rfl (by show 2 * 0 + _ ≤ _; exact Nat.le_of_eq rfl) (hb hby d6_15) (fun _ _ => ⟨rfl, rfl, (by decide : 0 + 0 ≤ _), (by decide : 0 + 0 ≤ _)⟩)
  dsimp only [Pt.U, Pt.locs, Pt.cells, Pt.slots] at X204 l204 y204 z204 st204 hQ204
  subst l204 y204 z204
  obtain ⟨rfl, N204q, K204, p204_0, p204_1, p204_2, p204_3⟩ := hQ204
  have N204 := Fr.app N203 N204q
  have Keep_204 : Keep h0 T204.heap [a1] := Keep_203.trans K204 (allS (Or.inl (List.mem_of_getElem? (i := 0) rfl)) all0)
  refine GoW.sg (mkF m 18 #[.val (.ref a1)] []) (fun t k => st204.trans k) ?_
  refine GoW.sg (mkF m 19 #[.val (.ref a1)] [(.ref a1)]) (fun t k => XS.aloadN X204.here hx rfl (hb hby d6_18) rfl rfl k) ?_
  refine GoW.sg (mkF m 20 #[.val (.ref a1)] [(.int 0), (.ref a1)]) (fun t k => XS.iconst X204.here hx rfl (hb hby d6_19) k) ?_
  refine GoW.sg (mkF m 21 #[.val (.ref a1)] [(.int 0), (.int 0), (.ref a1)]) (fun t k => XS.iconst X204.here hx rfl (hb hby d6_20) k) ?_
  refine GoW.sg (mkF m 24 #[.val (.ref a1)] [(.long 20000), (.int 0), (.int 0), (.ref a1)]) (fun t k => X204.ldc2Long hx hown (mvT hZ (ww hw 21 rfl)) (g := (mkF m 21 #[.val (.ref a1)] [(.int 0), (.int 0), (.ref a1)])) rfl (hb hby d6_21) t k) ?_
  obtain ⟨cq205, kq205, q205a, q205b, q205c⟩ := isOf hZ rfl p204_0
  obtain ⟨_, _, ⟨T205, L205, k205, n205⟩, -, X205, ⟨Lc205, hQ205, l205, y205, z205⟩, st205⟩ := X204.virtualBack hx (y := (⟨"com/example/spindle/spindle/SpinRule", "countWait", "(ZZJ)V"⟩ : MethodName)) (z := (⟨"com/example/spindle/spindle/SpinRule", "countWait", "(ZZJ)V"⟩ : MethodName)) hown (mvT hZ (ww hw 38 rfl)) (mvT hZ (ww hw 39 rfl)) (notFace_of_selects (args := #[]) (mvT hZ (ww hw 41 rfl))) (mvT hZ (ww hw 41 rfl)) (mvT hZ (ww hw 40 rfl)) (by decide) (backOf (W := 0) (rm7_14 l Z a0 hw [] a1  T204.heap n0  p204_0 p204_1 p204_2 p204_3 g_a1   ) hZ (ww hw 42 rfl) (ww hw 2 rfl) (by decide) (by decide)) q205a q205c (g := (mkF m 24 #[.val (.ref a1)] [(.long 20000), (.int 0), (.int 0), (.ref a1)])) rfl (by rw [hml]; rfl) (Steps.refl _) (argsL := [(.int (0 : Int32)), (.int (0 : Int32)), (.long (20000 : Int64))]) (rest := []) (lenOf pd_28ZZJ29V rfl) rfl (by show 2 * 0 + _ ≤ _; exact Nat.le_of_eq rfl) (hb hby d6_24) (fun _ _ => ⟨rfl, rfl, (by decide : 0 + 0 ≤ _), (by decide : 0 + 0 ≤ _)⟩)
  dsimp only [Pt.U, Pt.locs, Pt.cells, Pt.slots] at X205 l205 y205 z205 st205 hQ205
  subst l205 y205 z205
  obtain ⟨rfl, N205q, K205, p205_0, p205_1, p205_2, p205_3⟩ := hQ205
  have N205 := Fr.app N204 N205q
  have Keep_205 : Keep h0 T205.heap [a1] := Keep_204.trans K205 (allS (Or.inl (List.mem_of_getElem? (i := 0) rfl)) all0)
  refine GoW.sg (mkF m 27 #[.val (.ref a1)] []) (fun t k => st205.trans k) ?_
  refine GoW.sg (mkF m 28 #[.val (.ref a1)] [(.ref a1)]) (fun t k => XS.aloadN X205.here hx rfl (hb hby d6_27) rfl rfl k) ?_
  refine GoW.sg (mkF m 29 #[.val (.ref a1)] [(.int 0), (.ref a1)]) (fun t k => XS.iconst X205.here hx rfl (hb hby d6_28) k) ?_
  refine GoW.sg (mkF m 30 #[.val (.ref a1)] [(.int 0), (.int 0), (.ref a1)]) (fun t k => XS.iconst X205.here hx rfl (hb hby d6_29) k) ?_
  refine GoW.sg (mkF m 33 #[.val (.ref a1)] [(.long 20000), (.int 0), (.int 0), (.ref a1)]) (fun t k => X205.ldc2Long hx hown (mvT hZ (ww hw 21 rfl)) (g := (mkF m 30 #[.val (.ref a1)] [(.int 0), (.int 0), (.ref a1)])) rfl (hb hby d6_30) t k) ?_
  obtain ⟨cq206, kq206, q206a, q206b, q206c⟩ := isOf hZ rfl p205_0
  obtain ⟨_, _, ⟨T206, L206, k206, n206⟩, -, X206, ⟨Lc206, hQ206, l206, y206, z206⟩, st206⟩ := X205.virtualBack hx (y := (⟨"com/example/spindle/spindle/SpinRule", "countWait", "(ZZJ)V"⟩ : MethodName)) (z := (⟨"com/example/spindle/spindle/SpinRule", "countWait", "(ZZJ)V"⟩ : MethodName)) hown (mvT hZ (ww hw 38 rfl)) (mvT hZ (ww hw 39 rfl)) (notFace_of_selects (args := #[]) (mvT hZ (ww hw 41 rfl))) (mvT hZ (ww hw 41 rfl)) (mvT hZ (ww hw 40 rfl)) (by decide) (backOf (W := 0) (rm7_15 l Z a0 hw [] a1  T205.heap n0  p205_0 p205_1 p205_2 p205_3 g_a1   ) hZ (ww hw 42 rfl) (ww hw 2 rfl) (by decide) (by decide)) q206a q206c (g := (mkF m 33 #[.val (.ref a1)] [(.long 20000), (.int 0), (.int 0), (.ref a1)])) rfl (by rw [hml]; rfl) (Steps.refl _) (argsL := [(.int (0 : Int32)), (.int (0 : Int32)), (.long (20000 : Int64))]) (rest := []) (lenOf pd_28ZZJ29V rfl) rfl (by show 2 * 0 + _ ≤ _; exact Nat.le_of_eq rfl) (hb hby d6_33) (fun _ _ => ⟨rfl, rfl, (by decide : 0 + 0 ≤ _), (by decide : 0 + 0 ≤ _)⟩)
  dsimp only [Pt.U, Pt.locs, Pt.cells, Pt.slots] at X206 l206 y206 z206 st206 hQ206
  subst l206 y206 z206
  obtain ⟨rfl, N206q, K206, p206_0, p206_1, p206_2, p206_3⟩ := hQ206
  have N206 := Fr.app N205 N206q
  have Keep_206 : Keep h0 T206.heap [a1] := Keep_205.trans K206 (allS (Or.inl (List.mem_of_getElem? (i := 0) rfl)) all0)
  refine GoW.sg (mkF m 36 #[.val (.ref a1)] []) (fun t k => st206.trans k) ?_
  refine GoW.sg (mkF m 37 #[.val (.ref a1)] [(.ref a1)]) (fun t k => XS.aloadN X206.here hx rfl (hb hby d6_36) rfl rfl k) ?_
  refine GoW.sg (mkF m 38 #[.val (.ref a1)] [(.int 0), (.ref a1)]) (fun t k => XS.iconst X206.here hx rfl (hb hby d6_37) k) ?_
  refine GoW.sg (mkF m 39 #[.val (.ref a1)] [(.int 0), (.int 0), (.ref a1)]) (fun t k => XS.iconst X206.here hx rfl (hb hby d6_38) k) ?_
  refine GoW.sg (mkF m 42 #[.val (.ref a1)] [(.long 20000), (.int 0), (.int 0), (.ref a1)]) (fun t k => X206.ldc2Long hx hown (mvT hZ (ww hw 21 rfl)) (g := (mkF m 39 #[.val (.ref a1)] [(.int 0), (.int 0), (.ref a1)])) rfl (hb hby d6_39) t k) ?_
  obtain ⟨cq207, kq207, q207a, q207b, q207c⟩ := isOf hZ rfl p206_0
  obtain ⟨_, _, ⟨T207, L207, k207, n207⟩, -, X207, ⟨Lc207, hQ207, l207, y207, z207⟩, st207⟩ := X206.virtualBack hx (y := (⟨"com/example/spindle/spindle/SpinRule", "countWait", "(ZZJ)V"⟩ : MethodName)) (z := (⟨"com/example/spindle/spindle/SpinRule", "countWait", "(ZZJ)V"⟩ : MethodName)) hown (mvT hZ (ww hw 38 rfl)) (mvT hZ (ww hw 39 rfl)) (notFace_of_selects (args := #[]) (mvT hZ (ww hw 41 rfl))) (mvT hZ (ww hw 41 rfl)) (mvT hZ (ww hw 40 rfl)) (by decide) (backOf (W := 0) (rm7_16 l Z a0 hw [] a1  T206.heap n0  p206_0 p206_1 p206_2 p206_3 g_a1   ) hZ (ww hw 42 rfl) (ww hw 2 rfl) (by decide) (by decide)) q207a q207c (g := (mkF m 42 #[.val (.ref a1)] [(.long 20000), (.int 0), (.int 0), (.ref a1)])) rfl (by rw [hml]; rfl) (Steps.refl _) (argsL := [(.int (0 : Int32)), (.int (0 : Int32)), (.long (20000 : Int64))]) (rest := []) (lenOf pd_28ZZJ29V rfl) rfl (by show 2 * 0 + _ ≤ _; exact Nat.le_of_eq rfl) (hb hby d6_42) (fun _ _ => ⟨rfl, rfl, (by decide : 0 + 0 ≤ _), (by decide : 0 + 0 ≤ _)⟩)
  dsimp only [Pt.U, Pt.locs, Pt.cells, Pt.slots] at X207 l207 y207 z207 st207 hQ207
  subst l207 y207 z207
  obtain ⟨rfl, N207q, K207, p207_0, p207_1, p207_2, p207_3⟩ := hQ207
  have N207 := Fr.app N206 N207q
  have Keep_207 : Keep h0 T207.heap [a1] := Keep_206.trans K207 (allS (Or.inl (List.mem_of_getElem? (i := 0) rfl)) all0)
  refine GoW.sg (mkF m 45 #[.val (.ref a1)] []) (fun t k => st207.trans k) ?_
  refine GoW.sg (mkF m 46 #[.val (.ref a1)] [(.ref a1)]) (fun t k => XS.aloadN X207.here hx rfl (hb hby d6_45) rfl rfl k) ?_
  refine GoW.sg (mkF m 47 #[.val (.ref a1)] [(.int 0), (.ref a1)]) (fun t k => XS.iconst X207.here hx rfl (hb hby d6_46) k) ?_
  refine GoW.sg (mkF m 48 #[.val (.ref a1)] [(.int 0), (.int 0), (.ref a1)]) (fun t k => XS.iconst X207.here hx rfl (hb hby d6_47) k) ?_
  refine GoW.sg (mkF m 51 #[.val (.ref a1)] [(.long 20000), (.int 0), (.int 0), (.ref a1)]) (fun t k => X207.ldc2Long hx hown (mvT hZ (ww hw 21 rfl)) (g := (mkF m 48 #[.val (.ref a1)] [(.int 0), (.int 0), (.ref a1)])) rfl (hb hby d6_48) t k) ?_
  obtain ⟨cq208, kq208, q208a, q208b, q208c⟩ := isOf hZ rfl p207_0
  obtain ⟨_, _, ⟨T208, L208, k208, n208⟩, -, X208, ⟨Lc208, hQ208, l208, y208, z208⟩, st208⟩ := X207.virtualBack hx (y := (⟨"com/example/spindle/spindle/SpinRule", "countWait", "(ZZJ)V"⟩ : MethodName)) (z := (⟨"com/example/spindle/spindle/SpinRule", "countWait", "(ZZJ)V"⟩ : MethodName)) hown (mvT hZ (ww hw 38 rfl)) (mvT hZ (ww hw 39 rfl)) (notFace_of_selects (args := #[]) (mvT hZ (ww hw 41 rfl))) (mvT hZ (ww hw 41 rfl)) (mvT hZ (ww hw 40 rfl)) (by decide) (backOf (W := 0) (rm7_17 l Z a0 hw [] a1  T207.heap n0  p207_0 p207_1 p207_2 p207_3 g_a1   ) hZ (ww hw 42 rfl) (ww hw 2 rfl) (by decide) (by decide)) q208a q208c (g := (mkF m 51 #[.val (.ref a1)] [(.long 20000), (.int 0), (.int 0), (.ref a1)])) rfl (by rw [hml]; rfl) (Steps.refl _) (argsL := [(.int (0 : Int32)), (.int (0 : Int32)), (.long (20000 : Int64))]) (rest := []) (lenOf pd_28ZZJ29V rfl) rfl (by show 2 * 0 + _ ≤ _; exact Nat.le_of_eq rfl) (hb hby d6_51) (fun _ _ => ⟨rfl, rfl, (by decide : 0 + 0 ≤ _), (by decide : 0 + 0 ≤ _)⟩)
  dsimp only [Pt.U, Pt.locs, Pt.cells, Pt.slots] at X208 l208 y208 z208 st208 hQ208
  subst l208 y208 z208
  obtain ⟨rfl, N208q, K208, p208_0, p208_1, p208_2, p208_3⟩ := hQ208
  have N208 := Fr.app N207 N208q
  have Keep_208 : Keep h0 T208.heap [a1] := Keep_207.trans K208 (allS (Or.inl (List.mem_of_getElem? (i := 0) rfl)) all0)
  refine GoW.sg (mkF m 54 #[.val (.ref a1)] []) (fun t k => st208.trans k) ?_
  refine GoW.sg (mkF m 55 #[.val (.ref a1)] [(.ref a1)]) (fun t k => XS.aloadN X208.here hx rfl (hb hby d6_54) rfl rfl k) ?_
  refine GoW.sg (mkF m 56 #[.val (.ref a1)] [(.int 0), (.ref a1)]) (fun t k => XS.iconst X208.here hx rfl (hb hby d6_55) k) ?_
  refine GoW.sg (mkF m 57 #[.val (.ref a1)] [(.int 0), (.int 0), (.ref a1)]) (fun t k => XS.iconst X208.here hx rfl (hb hby d6_56) k) ?_
  refine GoW.sg (mkF m 60 #[.val (.ref a1)] [(.long 20000), (.int 0), (.int 0), (.ref a1)]) (fun t k => X208.ldc2Long hx hown (mvT hZ (ww hw 21 rfl)) (g := (mkF m 57 #[.val (.ref a1)] [(.int 0), (.int 0), (.ref a1)])) rfl (hb hby d6_57) t k) ?_
  obtain ⟨cq209, kq209, q209a, q209b, q209c⟩ := isOf hZ rfl p208_0
  obtain ⟨_, _, ⟨T209, L209, k209, n209⟩, -, X209, ⟨Lc209, hQ209, l209, y209, z209⟩, st209⟩ := X208.virtualBack hx (y := (⟨"com/example/spindle/spindle/SpinRule", "countWait", "(ZZJ)V"⟩ : MethodName)) (z := (⟨"com/example/spindle/spindle/SpinRule", "countWait", "(ZZJ)V"⟩ : MethodName)) hown (mvT hZ (ww hw 38 rfl)) (mvT hZ (ww hw 39 rfl)) (notFace_of_selects (args := #[]) (mvT hZ (ww hw 41 rfl))) (mvT hZ (ww hw 41 rfl)) (mvT hZ (ww hw 40 rfl)) (by decide) (backOf (W := 0) (rm7_18 l Z a0 hw [] a1  T208.heap n0  p208_0 p208_1 p208_2 p208_3 g_a1   ) hZ (ww hw 42 rfl) (ww hw 2 rfl) (by decide) (by decide)) q209a q209c (g := (mkF m 60 #[.val (.ref a1)] [(.long 20000), (.int 0), (.int 0), (.ref a1)])) rfl (by rw [hml]; rfl) (Steps.refl _) (argsL := [(.int (0 : Int32)), (.int (0 : Int32)), (.long (20000 : Int64))]) (rest := []) (lenOf pd_28ZZJ29V rfl) rfl (by show 2 * 0 + _ ≤ _; exact Nat.le_of_eq rfl) (hb hby d6_60) (fun _ _ => ⟨rfl, rfl, (by decide : 0 + 0 ≤ _), (by decide : 0 + 0 ≤ _)⟩)
  dsimp only [Pt.U, Pt.locs, Pt.cells, Pt.slots] at X209 l209 y209 z209 st209 hQ209
  subst l209 y209 z209
  obtain ⟨rfl, N209q, K209, p209_0, p209_1, p209_2, p209_3⟩ := hQ209
  have N209 := Fr.app N208 N209q
  have Keep_209 : Keep h0 T209.heap [a1] := Keep_208.trans K209 (allS (Or.inl (List.mem_of_getElem? (i := 0) rfl)) all0)
  refine GoW.sg (mkF m 63 #[.val (.ref a1)] []) (fun t k => st209.trans k) ?_
  refine GoW.sg (mkF m 64 #[.val (.ref a1)] [(.ref a1)]) (fun t k => XS.aloadN X209.here hx rfl (hb hby d6_63) rfl rfl k) ?_
  refine GoW.sg (mkF m 65 #[.val (.ref a1)] [(.int 0), (.ref a1)]) (fun t k => XS.iconst X209.here hx rfl (hb hby d6_64) k) ?_
  refine GoW.sg (mkF m 66 #[.val (.ref a1)] [(.int 0), (.int 0), (.ref a1)]) (fun t k => XS.iconst X209.here hx rfl (hb hby d6_65) k) ?_
  refine GoW.sg (mkF m 69 #[.val (.ref a1)] [(.long 20000), (.int 0), (.int 0), (.ref a1)]) (fun t k => X209.ldc2Long hx hown (mvT hZ (ww hw 21 rfl)) (g := (mkF m 66 #[.val (.ref a1)] [(.int 0), (.int 0), (.ref a1)])) rfl (hb hby d6_66) t k) ?_
  obtain ⟨cq210, kq210, q210a, q210b, q210c⟩ := isOf hZ rfl p209_0
  obtain ⟨_, _, ⟨T210, L210, k210, n210⟩, -, X210, ⟨Lc210, hQ210, l210, y210, z210⟩, st210⟩ := X209.virtualBack hx (y := (⟨"com/example/spindle/spindle/SpinRule", "countWait", "(ZZJ)V"⟩ : MethodName)) (z := (⟨"com/example/spindle/spindle/SpinRule", "countWait", "(ZZJ)V"⟩ : MethodName)) hown (mvT hZ (ww hw 38 rfl)) (mvT hZ (ww hw 39 rfl)) (notFace_of_selects (args := #[]) (mvT hZ (ww hw 41 rfl))) (mvT hZ (ww hw 41 rfl)) (mvT hZ (ww hw 40 rfl)) (by decide) (backOf (W := 0) (rm7_19 l Z a0 hw [] a1  T209.heap n0  p209_0 p209_1 p209_2 p209_3 g_a1   ) hZ (ww hw 42 rfl) (ww hw 2 rfl) (by decide) (by decide)) q210a q210c (g := (mkF m 69 #[.val (.ref a1)] [(.long 20000), (.int 0), (.int 0), (.ref a1)])) rfl (by rw [hml]; rfl) (Steps.refl _) (argsL := [(.int (0 : Int32)), (.int (0 : Int32)), (.long (20000 : Int64))]) (rest := []) (lenOf pd_28ZZJ29V rfl) rfl (by show 2 * 0 + _ ≤ _; exact Nat.le_of_eq rfl) (hb hby d6_69) (fun _ _ => ⟨rfl, rfl, (by decide : 0 + 0 ≤ _), (by decide : 0 + 0 ≤ _)⟩)
  dsimp only [Pt.U, Pt.locs, Pt.cells, Pt.slots] at X210 l210 y210 z210 st210 hQ210
  subst l210 y210 z210
  obtain ⟨rfl, N210q, K210, p210_0, p210_1, p210_2, p210_3⟩ := hQ210
  have N210 := Fr.app N209 N210q
  have Keep_210 : Keep h0 T210.heap [a1] := Keep_209.trans K210 (allS (Or.inl (List.mem_of_getElem? (i := 0) rfl)) all0)
  refine GoW.sg (mkF m 72 #[.val (.ref a1)] []) (fun t k => st210.trans k) ?_
  refine GoW.sg (mkF m 73 #[.val (.ref a1)] [(.ref a1)]) (fun t k => XS.aloadN X210.here hx rfl (hb hby d6_72) rfl rfl k) ?_
  refine GoW.sg (mkF m 74 #[.val (.ref a1)] [(.int 0), (.ref a1)]) (fun t k => XS.iconst X210.here hx rfl (hb hby d6_73) k) ?_
  refine GoW.sg (mkF m 75 #[.val (.ref a1)] [(.int 0), (.int 0), (.ref a1)]) (fun t k => XS.iconst X210.here hx rfl (hb hby d6_74) k) ?_
  refine GoW.sg (mkF m 78 #[.val (.ref a1)] [(.long 20000), (.int 0), (.int 0), (.ref a1)]) (fun t k => X210.ldc2Long hx hown (mvT hZ (ww hw 21 rfl)) (g := (mkF m 75 #[.val (.ref a1)] [(.int 0), (.int 0), (.ref a1)])) rfl (hb hby d6_75) t k) ?_
  obtain ⟨cq211, kq211, q211a, q211b, q211c⟩ := isOf hZ rfl p210_0
  obtain ⟨_, _, ⟨T211, L211, k211, n211⟩, -, X211, ⟨Lc211, hQ211, l211, y211, z211⟩, st211⟩ := X210.virtualBack hx (y := (⟨"com/example/spindle/spindle/SpinRule", "countWait", "(ZZJ)V"⟩ : MethodName)) (z := (⟨"com/example/spindle/spindle/SpinRule", "countWait", "(ZZJ)V"⟩ : MethodName)) hown (mvT hZ (ww hw 38 rfl)) (mvT hZ (ww hw 39 rfl)) (notFace_of_selects (args := #[]) (mvT hZ (ww hw 41 rfl))) (mvT hZ (ww hw 41 rfl)) (mvT hZ (ww hw 40 rfl)) (by decide) (backOf (W := 0) (rm7_20 l Z a0 hw [] a1  T210.heap n0  p210_0 p210_1 p210_2 p210_3 g_a1   ) hZ (ww hw 42 rfl) (ww hw 2 rfl) (by decide) (by decide)) q211a q211c (g := (mkF m 78 #[.val (.ref a1)] [(.long 20000), (.int 0), (.int 0), (.ref a1)])) rfl (by rw [hml]; rfl) (Steps.refl _) (argsL := [(.int (0 : Int32)), (.int (0 : Int32)), (.long (20000 : Int64))]) (rest := []) (lenOf pd_28ZZJ29V rfl) rfl (by show 2 * 0 + _ ≤ _; exact Nat.le_of_eq rfl) (hb hby d6_78) (fun _ _ => ⟨rfl, rfl, (by decide : 0 + 0 ≤ _), (by decide : 0 + 0 ≤ _)⟩)
  dsimp only [Pt.U, Pt.locs, Pt.cells, Pt.slots] at X211 l211 y211 z211 st211 hQ211
  subst l211 y211 z211
  obtain ⟨rfl, N211q, K211, p211_0, p211_1, p211_2, p211_3⟩ := hQ211
  have N211 := Fr.app N210 N211q
  have Keep_211 : Keep h0 T211.heap [a1] := Keep_210.trans K211 (allS (Or.inl (List.mem_of_getElem? (i := 0) rfl)) all0)
  refine GoW.sg (mkF m 81 #[.val (.ref a1)] []) (fun t k => st211.trans k) ?_
  refine GoW.sg (mkF m 82 #[.val (.ref a1)] [(.ref a1)]) (fun t k => XS.aloadN X211.here hx rfl (hb hby d6_81) rfl rfl k) ?_
  refine GoW.sg (mkF m 83 #[.val (.ref a1)] [(.int 0), (.ref a1)]) (fun t k => XS.iconst X211.here hx rfl (hb hby d6_82) k) ?_
  refine GoW.sg (mkF m 84 #[.val (.ref a1)] [(.int 0), (.int 0), (.ref a1)]) (fun t k => XS.iconst X211.here hx rfl (hb hby d6_83) k) ?_
  refine GoW.sg (mkF m 87 #[.val (.ref a1)] [(.long 20000), (.int 0), (.int 0), (.ref a1)]) (fun t k => X211.ldc2Long hx hown (mvT hZ (ww hw 21 rfl)) (g := (mkF m 84 #[.val (.ref a1)] [(.int 0), (.int 0), (.ref a1)])) rfl (hb hby d6_84) t k) ?_
  obtain ⟨cq212, kq212, q212a, q212b, q212c⟩ := isOf hZ rfl p211_0
  obtain ⟨_, _, ⟨T212, L212, k212, n212⟩, -, X212, ⟨Lc212, hQ212, l212, y212, z212⟩, st212⟩ := X211.virtualBack hx (y := (⟨"com/example/spindle/spindle/SpinRule", "countWait", "(ZZJ)V"⟩ : MethodName)) (z := (⟨"com/example/spindle/spindle/SpinRule", "countWait", "(ZZJ)V"⟩ : MethodName)) hown (mvT hZ (ww hw 38 rfl)) (mvT hZ (ww hw 39 rfl)) (notFace_of_selects (args := #[]) (mvT hZ (ww hw 41 rfl))) (mvT hZ (ww hw 41 rfl)) (mvT hZ (ww hw 40 rfl)) (by decide) (backOf (W := 0) (rm7_21 l Z a0 hw [] a1  T211.heap n0  p211_0 p211_1 p211_2 p211_3 g_a1   ) hZ (ww hw 42 rfl) (ww hw 2 rfl) (by decide) (by decide)) q212a q212c (g := (mkF m 87 #[.val (.ref a1)] [(.long 20000), (.int 0), (.int 0), (.ref a1)])) rfl (by rw [hml]; rfl) (Steps.refl _) (argsL := [(.int (0 : Int32)), (.int (0 : Int32)), (.long (20000 : Int64))]) (rest := []) (lenOf pd_28ZZJ29V rfl) rfl (by show 2 * 0 + _ ≤ _; exact Nat.le_of_eq rfl) (hb hby d6_87) (fun _ _ => ⟨rfl, rfl, (by decide : 0 + 0 ≤ _), (by decide : 0 + 0 ≤ _)⟩)
  dsimp only [Pt.U, Pt.locs, Pt.cells, Pt.slots] at X212 l212 y212 z212 st212 hQ212
  subst l212 y212 z212
  obtain ⟨rfl, N212q, K212, p212_0, p212_1, p212_2, p212_3⟩ := hQ212
  have N212 := Fr.app N211 N212q
  have Keep_212 : Keep h0 T212.heap [a1] := Keep_211.trans K212 (allS (Or.inl (List.mem_of_getElem? (i := 0) rfl)) all0)
  refine GoW.sg (mkF m 90 #[.val (.ref a1)] []) (fun t k => st212.trans k) ?_
  refine GoW.retV X212 hx Bd.returns (hb hby d6_90) Bd.notSynchronized ?_ (by decide) (by decide)
  exact ⟨rfl, N212, Keep_212, p212_0, p212_1, p212_2, p212_3⟩
def Q3_23 (Z : State) (a1 : Addr) (x2 : Int64) (h0 : Heap) (n0 : Nat) (v : Option Value) (h : Heap) (L : List Loc) : Prop := v = some (.long (0 : Int64)) ∧ Fr n0 L ∧ (Keep h0 h [a1]) ∧ (Exa Z h a1 "com/example/spindle/spindle/SpinRule") ∧ (Fld Z h a1 "com/example/spindle/spindle/SpinRule" "answeredShare" "D" (.double (4598410768185032704 : UInt64))) ∧ (Fld Z h a1 "com/example/spindle/spindle/SpinRule" "handedOn" "Z" (.int (0 : Int32))) ∧ (Fld Z h a1 "com/example/spindle/spindle/SpinRule" "awaitsAnswer" "Z" (.int (0 : Int32)))
theorem ef3_rm3_23 (m : MethodId) (a1 : Addr) (x2 : Int64) : entryFrame m #[(.ref a1), (.long x2)] 3 = (mkF m 0 #[.val (.ref a1), .val (.long x2), .second] []) := by first | (simp [entryFrame, mkF, argsToLocals, Value.category, maxLocals]; done) | rfl
set_option maxRecDepth 65536 in
set_option maxHeartbeats 40000000 in
theorem rm3_23 (l : Launch) (Z : State) (a0 : Array Value) (hw : ∀ d ∈ tables_1, d.before a0 Z = true) (ws : List Jvm.Cond) (a1 : Addr) (x2 : Int64)  (h0 : Heap) (n0 : Nat) (P0 : Exa Z h0 a1 "com/example/spindle/spindle/SpinRule") (P1 : Fld Z h0 a1 "com/example/spindle/spindle/SpinRule" "answeredShare" "D" (.double (4598410768185032704 : UInt64))) (P2 : Fld Z h0 a1 "com/example/spindle/spindle/SpinRule" "handedOn" "Z" (.int (0 : Int32))) (P3 : Fld Z h0 a1 "com/example/spindle/spindle/SpinRule" "awaitsAnswer" "Z" (.int (1 : Int32))) (g_a1 : n0 ≤ a1)  (u0 : (20000 : Int64) < x2)  :
    MetFree l (⟨"com/example/spindle/spindle/SpinRule", "spinNanos", "(J)J"⟩ : MethodName) (head1 (Jvm.Cond.code (⟨"com/example/spindle/spindle/SpinRule", "spinNanos", "(J)J"⟩ : MethodName) prog_40_method_3_code 3 (some .long) :: ws) ({ frames := 0, cells := 0, slots := 0, locals := 0 } : Room)) (fun a U => a = #[(.ref a1), (.long x2)] ∧ Z.Warmed39 U.vm ∧ U.heap = h0) (fun _ _ _ _ _ => True) (fun _ U o U' => ∃ v L, o = .returned v ∧ (Q3_23 Z a1 x2 h0 n0) v U'.heap L ∧ FrameEnd U o U' L 0 0) := by
  refine MetFree.of_bodySF (plainFor_of_name pn_com_example_spindle_spindle_SpinRule) hisR ?_
  intro p e s m args below meth c s₁ Bd hml0 hP hK
  obtain ⟨rfl, hZ, hh⟩ := hP
  have hx := Bd.exec
  have hby := Bd.bytes
  have hml : c.maxLocals = 3 := hml0
  have hown : s.vm.findClass "com/example/spindle/spindle/SpinRule" = some m.cls := findClass_of_methodNamed Bd.named
  have hnm := (name_of_methodNamed Bd.named Bd.method).1
  have X0 : Stand p l e ({ frames := 0, cells := 0, slots := 0, locals := 0 } : Room) s m #[(.ref a1), (.long x2)] below meth c s₁ [] 0 0 := Stand.of_body Bd
  have e0 : s₁.heap = h0 := by rw [← hh, Bd.state]; rfl
  have N0 := Fr.nil n0
  refine GoW.mk ?_
  refine GoW.st (fun t k => castTop (ef3_rm3_23 m a1 x2) k) ?_
  show GoW p e below s (Q3_23 Z a1 x2 h0 n0) 0 0 (s₁.setTop (mkF m 0 (Sh7 a1 x2) []))
  refine GoW.sg (mkF m 1 (Sh7 a1 x2) [(.ref a1)]) (fun t k => XS.aloadN X0.here hx rfl (hb hby d3_0) rfl rfl k) ?_
  refine GoW.sg (mkF m 2 (Sh7 a1 x2) [(.ref a1), (.ref a1)]) (fun t k => XS.aloadN X0.here hx rfl (hb hby d3_1) rfl rfl k) ?_
  obtain ⟨T219, X219, e219, st219⟩ := getF X0 hx hZ hown (host := "") (Or.inl (ww hw 16 rfl)) Via.refl e0 P2 (g := (mkF m 2 (Sh7 a1 x2) [(.ref a1), (.ref a1)])) rfl rfl (hb hby d3_2)
  refine GoW.sg (mkF m 5 (Sh7 a1 x2) [(.int 0), (.ref a1)]) (fun t k => st219 t k) ?_
  obtain ⟨T220, h220, X220, e220, W220, st220⟩ := putF X219 hx hZ hown (host := "") (Or.inl (ww hw 18 rfl)) Via.refl e219 P3 P0 (Or.inl (ww hw 19 rfl)) (ww hw 1 rfl) (ty := .boolean) (by decide) rfl rfl (g := (mkF m 5 (Sh7 a1 x2) [(.int 0), (.ref a1)])) rfl rfl (hb hby d3_5)
  have N220 := Fr.snoc X220 N0 g_a1
  have Exa_a1_220 : Exa Z h220 a1 "com/example/spindle/spindle/SpinRule" := P0.wr W220
  have Fld_a1_answeredShare_220 : Fld Z h220 a1 "com/example/spindle/spindle/SpinRule" "answeredShare" "D" (.double (4598410768185032704 : UInt64)) := P1.other W220 (Or.inr (slot_ne (t := .double) (t' := .boolean) (Or.inl (ww hw 10 rfl)) (Or.inl (ww hw 19 rfl)) (by decide) (by decide) (by decide)))
  have Fld_a1_handedOn_220 : Fld Z h220 a1 "com/example/spindle/spindle/SpinRule" "handedOn" "Z" (.int (0 : Int32)) := P2.other W220 (Or.inr (slot_ne (t := .boolean) (t' := .boolean) (Or.inl (ww hw 17 rfl)) (Or.inl (ww hw 19 rfl)) (by decide) (by decide) (by decide)))
  have Keep_220 : Keep h0 h220 [a1] := (Keep.refl h0 [a1]).wr W220 (Or.inl (List.mem_of_getElem? (i := 0) rfl))
  have Fld_a1_awaitsAnswer_220 : Fld Z h220 a1 "com/example/spindle/spindle/SpinRule" "awaitsAnswer" "Z" (.int (0 : Int32)) := P3.same W220
  refine GoW.sg (mkF m 8 (Sh7 a1 x2) []) (fun t k => st220 t k) ?_
  refine GoW.sg (mkF m 9 (Sh7 a1 x2) [(.ref a1)]) (fun t k => XS.aloadN X220.here hx rfl (hb hby d3_8) rfl rfl k) ?_
  refine GoW.sg (mkF m 10 (Sh7 a1 x2) [(.int 0), (.ref a1)]) (fun t k => XS.iconst X220.here hx rfl (hb hby d3_9) k) ?_
  obtain ⟨T221, h221, X221, e221, W221, st221⟩ := putF X220 hx hZ hown (host := "") (Or.inl (ww hw 16 rfl)) Via.refl e220 Fld_a1_handedOn_220 Exa_a1_220 (Or.inl (ww hw 17 rfl)) (ww hw 1 rfl) (ty := .boolean) (by decide) rfl rfl (g := (mkF m 10 (Sh7 a1 x2) [(.int 0), (.ref a1)])) rfl rfl (hb hby d3_10)
  have N221 := Fr.snoc X221 N220 g_a1
  have Exa_a1_221 : Exa Z h221 a1 "com/example/spindle/spindle/SpinRule" := Exa_a1_220.wr W221
  have Fld_a1_answeredShare_221 : Fld Z h221 a1 "com/example/spindle/spindle/SpinRule" "answeredShare" "D" (.double (4598410768185032704 : UInt64)) := Fld_a1_answeredShare_220.other W221 (Or.inr (slot_ne (t := .double) (t' := .boolean) (Or.inl (ww hw 10 rfl)) (Or.inl (ww hw 17 rfl)) (by decide) (by decide) (by decide)))
  have Fld_a1_awaitsAnswer_221 : Fld Z h221 a1 "com/example/spindle/spindle/SpinRule" "awaitsAnswer" "Z" (.int (0 : Int32)) := Fld_a1_awaitsAnswer_220.other W221 (Or.inr (slot_ne (t := .boolean) (t' := .boolean) (Or.inl (ww hw 19 rfl)) (Or.inl (ww hw 17 rfl)) (by decide) (by decide) (by decide)))
  have Keep_221 : Keep h0 h221 [a1] := Keep_220.wr W221 (Or.inl (List.mem_of_getElem? (i := 0) rfl))
  have Fld_a1_handedOn_221 : Fld Z h221 a1 "com/example/spindle/spindle/SpinRule" "handedOn" "Z" (.int (0 : Int32)) := Fld_a1_handedOn_220.same W221
  refine GoW.sg (mkF m 13 (Sh7 a1 x2) []) (fun t k => st221 t k) ?_
  refine GoW.sg (mkF m 14 (Sh7 a1 x2) [(.long x2)]) (fun t k => XS.lloadN X221.here hx rfl (hb hby d3_13) rfl k) ?_
  refine GoW.sg (mkF m 17 (Sh7 a1 x2) [(.long 20000), (.long x2)]) (fun t k => X221.ldc2Long hx hown (mvT hZ (ww hw 20 rfl)) (g := (mkF m 14 (Sh7 a1 x2) [(.long x2)])) rfl (hb hby d3_14) t k) ?_
  refine GoW.sg (mkF m 18 (Sh7 a1 x2) [(.int (lcmpW x2 (20000 : Int64)))]) (fun t k => XS.lcmp X221.here hx rfl (hb hby d3_17) rfl k) ?_
  refine GoW.sg (mkF m 23 (Sh7 a1 x2) []) (fun t k => XS.ifYes X221.here hx rfl (pc0 := 18) (pc' := 23) rfl (hb hby d3_18) rfl ((if0 _ _).trans (tlt ((lw_gt _ _).mpr u0)).2.2.1) (by decide) (by decide) k) ?_
  refine GoW.sg (mkF m 24 (Sh7 a1 x2) [(.ref a1)]) (fun t k => XS.aloadN X221.here hx rfl (hb hby d3_23) rfl rfl k) ?_
  obtain ⟨T222, X222, e222, st222⟩ := getF X221 hx hZ hown (host := "") (Or.inl (ww hw 18 rfl)) Via.refl e221 Fld_a1_awaitsAnswer_221 (g := (mkF m 24 (Sh7 a1 x2) [(.ref a1)])) rfl rfl (hb hby d3_24)
  refine GoW.sg (mkF m 27 (Sh7 a1 x2) [(.int 0)]) (fun t k => st222 t k) ?_
  refine GoW.sg (mkF m 47 (Sh7 a1 x2) []) (fun t k => XS.ifYes X222.here hx rfl (pc0 := 27) (pc' := 47) rfl (hb hby d3_27) rfl (by decide) (by decide) (by decide) k) ?_
  refine GoW.sg (mkF m 48 (Sh7 a1 x2) [(.long 0)]) (fun t k => XS.lconst X222.here hx rfl (hb hby d3_47) k) ?_
  refine GoW.retL X222 hx Bd.returns (hb hby d3_48) Bd.notSynchronized ?_ (by decide) (by decide)
  rw [e222]
  exact ⟨rfl, N221, Keep_221, Exa_a1_221, Fld_a1_answeredShare_221, Fld_a1_handedOn_221, Fld_a1_awaitsAnswer_221⟩
def Q4_24 (Z : State) (a1 : Addr) (h0 : Heap) (n0 : Nat) (v : Option Value) (h : Heap) (L : List Loc) : Prop := v = some (.int (0 : Int32)) ∧ Fr n0 L ∧ (h = h0)
theorem ef4_rm4_24 (m : MethodId) (a1 : Addr) : entryFrame m #[(.ref a1), (.long (0 : Int64))] 3 = (mkF m 0 #[.val (.ref a1), .val (.long 0), .second] []) := by first | (simp [entryFrame, mkF, argsToLocals, Value.category, maxLocals]; done) | rfl
set_option maxRecDepth 65536 in
set_option maxHeartbeats 40000000 in
theorem rm4_24 (l : Launch) (Z : State) (a0 : Array Value) (hw : ∀ d ∈ tables_1, d.before a0 Z = true) (ws : List Jvm.Cond) (a1 : Addr)  (h0 : Heap) (n0 : Nat) (P0 : Exa Z h0 a1 "com/example/spindle/spindle/SpinRule") (P1 : Fld Z h0 a1 "com/example/spindle/spindle/SpinRule" "answeredShare" "D" (.double (4598410768185032704 : UInt64))) (P2 : Fld Z h0 a1 "com/example/spindle/spindle/SpinRule" "handedOn" "Z" (.int (0 : Int32))) (P3 : Fld Z h0 a1 "com/example/spindle/spindle/SpinRule" "awaitsAnswer" "Z" (.int (0 : Int32)))     :
    MetFree l (⟨"com/example/spindle/spindle/SpinRule", "timesWait", "(J)Z"⟩ : MethodName) (head1 (Jvm.Cond.code (⟨"com/example/spindle/spindle/SpinRule", "timesWait", "(J)Z"⟩ : MethodName) prog_40_method_4_code 3 (some .boolean) :: ws) ({ frames := 0, cells := 0, slots := 0, locals := 0 } : Room)) (fun a U => a = #[(.ref a1), (.long (0 : Int64))] ∧ Z.Warmed39 U.vm ∧ U.heap = h0) (fun _ _ _ _ _ => True) (fun _ U o U' => ∃ v L, o = .returned v ∧ (Q4_24 Z a1 h0 n0) v U'.heap L ∧ FrameEnd U o U' L 0 0) := by
  refine MetFree.of_bodySF (plainFor_of_name pn_com_example_spindle_spindle_SpinRule) hisR ?_
  intro p e s m args below meth c s₁ Bd hml0 hP hK
  obtain ⟨rfl, hZ, hh⟩ := hP
  have hx := Bd.exec
  have hby := Bd.bytes
  have hml : c.maxLocals = 3 := hml0
  have hown : s.vm.findClass "com/example/spindle/spindle/SpinRule" = some m.cls := findClass_of_methodNamed Bd.named
  have hnm := (name_of_methodNamed Bd.named Bd.method).1
  have X0 : Stand p l e ({ frames := 0, cells := 0, slots := 0, locals := 0 } : Room) s m #[(.ref a1), (.long (0 : Int64))] below meth c s₁ [] 0 0 := Stand.of_body Bd
  have e0 : s₁.heap = h0 := by rw [← hh, Bd.state]; rfl
  have N0 := Fr.nil n0
  refine GoW.mk ?_
  refine GoW.st (fun t k => castTop (ef4_rm4_24 m a1) k) ?_
  show GoW p e below s (Q4_24 Z a1 h0 n0) 0 0 (s₁.setTop (mkF m 0 (Sh7 a1 0) []))
  refine GoW.sg (mkF m 1 (Sh7 a1 0) [(.long 0)]) (fun t k => XS.lloadN X0.here hx rfl (hb hby d4_0) rfl k) ?_
  refine GoW.sg (mkF m 2 (Sh7 a1 0) [(.long 0), (.long 0)]) (fun t k => XS.lconst X0.here hx rfl (hb hby d4_1) k) ?_
  refine GoW.sg (mkF m 3 (Sh7 a1 0) [(.int (lcmpW (0 : Int64) (0 : Int64)))]) (fun t k => XS.lcmp X0.here hx rfl (hb hby d4_2) rfl k) ?_
  refine GoW.sg (mkF m 6 (Sh7 a1 0) []) (fun t k => XS.ifNo X0.here hx rfl (hb hby d4_3) rfl (by decide) k) ?_
  refine GoW.sg (mkF m 7 (Sh7 a1 0) [(.ref a1)]) (fun t k => XS.aloadN X0.here hx rfl (hb hby d4_6) rfl rfl k) ?_
  obtain ⟨T225, X225, e225, st225⟩ := getF X0 hx hZ hown (host := "") (Or.inl (ww hw 18 rfl)) Via.refl e0 P3 (g := (mkF m 7 (Sh7 a1 0) [(.ref a1)])) rfl rfl (hb hby d4_7)
  refine GoW.sg (mkF m 10 (Sh7 a1 0) [(.int 0)]) (fun t k => st225 t k) ?_
  refine GoW.sg (mkF m 17 (Sh7 a1 0) []) (fun t k => XS.ifYes X225.here hx rfl (pc0 := 10) (pc' := 17) rfl (hb hby d4_10) rfl (by decide) (by decide) (by decide) k) ?_
  refine GoW.sg (mkF m 18 (Sh7 a1 0) [(.int 0)]) (fun t k => XS.iconst X225.here hx rfl (hb hby d4_17) k) ?_
  refine GoW.retN X225 hx (t := .boolean) Bd.returns (by simp) (hb hby d4_18) Bd.notSynchronized ?_ (by decide) (by decide)
  rw [e225]
  exact ⟨rfl, N0, rfl⟩
def Q3_25 (Z : State) (a1 : Addr) (x2 : Int64) (h0 : Heap) (n0 : Nat) (v : Option Value) (h : Heap) (L : List Loc) : Prop := v = some (.long (0 : Int64)) ∧ Fr n0 L ∧ (Keep h0 h [a1]) ∧ (Exa Z h a1 "com/example/spindle/spindle/SpinRule") ∧ (Fld Z h a1 "com/example/spindle/spindle/SpinRule" "answeredShare" "D" (.double (4598410768185032704 : UInt64))) ∧ (Fld Z h a1 "com/example/spindle/spindle/SpinRule" "handedOn" "Z" (.int (0 : Int32))) ∧ (Fld Z h a1 "com/example/spindle/spindle/SpinRule" "awaitsAnswer" "Z" (.int (0 : Int32)))
theorem ef3_rm3_25 (m : MethodId) (a1 : Addr) (x2 : Int64) : entryFrame m #[(.ref a1), (.long x2)] 3 = (mkF m 0 #[.val (.ref a1), .val (.long x2), .second] []) := by first | (simp [entryFrame, mkF, argsToLocals, Value.category, maxLocals]; done) | rfl
set_option maxRecDepth 65536 in
set_option maxHeartbeats 40000000 in
theorem rm3_25 (l : Launch) (Z : State) (a0 : Array Value) (hw : ∀ d ∈ tables_1, d.before a0 Z = true) (ws : List Jvm.Cond) (a1 : Addr) (x2 : Int64)  (h0 : Heap) (n0 : Nat) (P0 : Exa Z h0 a1 "com/example/spindle/spindle/SpinRule") (P1 : Fld Z h0 a1 "com/example/spindle/spindle/SpinRule" "answeredShare" "D" (.double (4598410768185032704 : UInt64))) (P2 : Fld Z h0 a1 "com/example/spindle/spindle/SpinRule" "handedOn" "Z" (.int (0 : Int32))) (P3 : Fld Z h0 a1 "com/example/spindle/spindle/SpinRule" "awaitsAnswer" "Z" (.int (0 : Int32))) (g_a1 : n0 ≤ a1)  (u0 : (20000 : Int64) < x2)  :
    MetFree l (⟨"com/example/spindle/spindle/SpinRule", "spinNanos", "(J)J"⟩ : MethodName) (head1 (Jvm.Cond.code (⟨"com/example/spindle/spindle/SpinRule", "spinNanos", "(J)J"⟩ : MethodName) prog_40_method_3_code 3 (some .long) :: ws) ({ frames := 0, cells := 0, slots := 0, locals := 0 } : Room)) (fun a U => a = #[(.ref a1), (.long x2)] ∧ Z.Warmed39 U.vm ∧ U.heap = h0) (fun _ _ _ _ _ => True) (fun _ U o U' => ∃ v L, o = .returned v ∧ (Q3_25 Z a1 x2 h0 n0) v U'.heap L ∧ FrameEnd U o U' L 0 0) := by
  refine MetFree.of_bodySF (plainFor_of_name pn_com_example_spindle_spindle_SpinRule) hisR ?_
  intro p e s m args below meth c s₁ Bd hml0 hP hK
  obtain ⟨rfl, hZ, hh⟩ := hP
  have hx := Bd.exec
  have hby := Bd.bytes
  have hml : c.maxLocals = 3 := hml0
  have hown : s.vm.findClass "com/example/spindle/spindle/SpinRule" = some m.cls := findClass_of_methodNamed Bd.named
  have hnm := (name_of_methodNamed Bd.named Bd.method).1
  have X0 : Stand p l e ({ frames := 0, cells := 0, slots := 0, locals := 0 } : Room) s m #[(.ref a1), (.long x2)] below meth c s₁ [] 0 0 := Stand.of_body Bd
  have e0 : s₁.heap = h0 := by rw [← hh, Bd.state]; rfl
  have N0 := Fr.nil n0
  refine GoW.mk ?_
  refine GoW.st (fun t k => castTop (ef3_rm3_25 m a1 x2) k) ?_
  show GoW p e below s (Q3_25 Z a1 x2 h0 n0) 0 0 (s₁.setTop (mkF m 0 (Sh7 a1 x2) []))
  refine GoW.sg (mkF m 1 (Sh7 a1 x2) [(.ref a1)]) (fun t k => XS.aloadN X0.here hx rfl (hb hby d3_0) rfl rfl k) ?_
  refine GoW.sg (mkF m 2 (Sh7 a1 x2) [(.ref a1), (.ref a1)]) (fun t k => XS.aloadN X0.here hx rfl (hb hby d3_1) rfl rfl k) ?_
  obtain ⟨T232, X232, e232, st232⟩ := getF X0 hx hZ hown (host := "") (Or.inl (ww hw 16 rfl)) Via.refl e0 P2 (g := (mkF m 2 (Sh7 a1 x2) [(.ref a1), (.ref a1)])) rfl rfl (hb hby d3_2)
  refine GoW.sg (mkF m 5 (Sh7 a1 x2) [(.int 0), (.ref a1)]) (fun t k => st232 t k) ?_
  obtain ⟨T233, h233, X233, e233, W233, st233⟩ := putF X232 hx hZ hown (host := "") (Or.inl (ww hw 18 rfl)) Via.refl e232 P3 P0 (Or.inl (ww hw 19 rfl)) (ww hw 1 rfl) (ty := .boolean) (by decide) rfl rfl (g := (mkF m 5 (Sh7 a1 x2) [(.int 0), (.ref a1)])) rfl rfl (hb hby d3_5)
  have N233 := Fr.snoc X233 N0 g_a1
  have Exa_a1_233 : Exa Z h233 a1 "com/example/spindle/spindle/SpinRule" := P0.wr W233
  have Fld_a1_answeredShare_233 : Fld Z h233 a1 "com/example/spindle/spindle/SpinRule" "answeredShare" "D" (.double (4598410768185032704 : UInt64)) := P1.other W233 (Or.inr (slot_ne (t := .double) (t' := .boolean) (Or.inl (ww hw 10 rfl)) (Or.inl (ww hw 19 rfl)) (by decide) (by decide) (by decide)))
  have Fld_a1_handedOn_233 : Fld Z h233 a1 "com/example/spindle/spindle/SpinRule" "handedOn" "Z" (.int (0 : Int32)) := P2.other W233 (Or.inr (slot_ne (t := .boolean) (t' := .boolean) (Or.inl (ww hw 17 rfl)) (Or.inl (ww hw 19 rfl)) (by decide) (by decide) (by decide)))
  have Keep_233 : Keep h0 h233 [a1] := (Keep.refl h0 [a1]).wr W233 (Or.inl (List.mem_of_getElem? (i := 0) rfl))
  have Fld_a1_awaitsAnswer_233 : Fld Z h233 a1 "com/example/spindle/spindle/SpinRule" "awaitsAnswer" "Z" (.int (0 : Int32)) := P3.same W233
  refine GoW.sg (mkF m 8 (Sh7 a1 x2) []) (fun t k => st233 t k) ?_
  refine GoW.sg (mkF m 9 (Sh7 a1 x2) [(.ref a1)]) (fun t k => XS.aloadN X233.here hx rfl (hb hby d3_8) rfl rfl k) ?_
  refine GoW.sg (mkF m 10 (Sh7 a1 x2) [(.int 0), (.ref a1)]) (fun t k => XS.iconst X233.here hx rfl (hb hby d3_9) k) ?_
  obtain ⟨T234, h234, X234, e234, W234, st234⟩ := putF X233 hx hZ hown (host := "") (Or.inl (ww hw 16 rfl)) Via.refl e233 Fld_a1_handedOn_233 Exa_a1_233 (Or.inl (ww hw 17 rfl)) (ww hw 1 rfl) (ty := .boolean) (by decide) rfl rfl (g := (mkF m 10 (Sh7 a1 x2) [(.int 0), (.ref a1)])) rfl rfl (hb hby d3_10)
  have N234 := Fr.snoc X234 N233 g_a1
  have Exa_a1_234 : Exa Z h234 a1 "com/example/spindle/spindle/SpinRule" := Exa_a1_233.wr W234
  have Fld_a1_answeredShare_234 : Fld Z h234 a1 "com/example/spindle/spindle/SpinRule" "answeredShare" "D" (.double (4598410768185032704 : UInt64)) := Fld_a1_answeredShare_233.other W234 (Or.inr (slot_ne (t := .double) (t' := .boolean) (Or.inl (ww hw 10 rfl)) (Or.inl (ww hw 17 rfl)) (by decide) (by decide) (by decide)))
  have Fld_a1_awaitsAnswer_234 : Fld Z h234 a1 "com/example/spindle/spindle/SpinRule" "awaitsAnswer" "Z" (.int (0 : Int32)) := Fld_a1_awaitsAnswer_233.other W234 (Or.inr (slot_ne (t := .boolean) (t' := .boolean) (Or.inl (ww hw 19 rfl)) (Or.inl (ww hw 17 rfl)) (by decide) (by decide) (by decide)))
  have Keep_234 : Keep h0 h234 [a1] := Keep_233.wr W234 (Or.inl (List.mem_of_getElem? (i := 0) rfl))
  have Fld_a1_handedOn_234 : Fld Z h234 a1 "com/example/spindle/spindle/SpinRule" "handedOn" "Z" (.int (0 : Int32)) := Fld_a1_handedOn_233.same W234
  refine GoW.sg (mkF m 13 (Sh7 a1 x2) []) (fun t k => st234 t k) ?_
  refine GoW.sg (mkF m 14 (Sh7 a1 x2) [(.long x2)]) (fun t k => XS.lloadN X234.here hx rfl (hb hby d3_13) rfl k) ?_
  refine GoW.sg (mkF m 17 (Sh7 a1 x2) [(.long 20000), (.long x2)]) (fun t k => X234.ldc2Long hx hown (mvT hZ (ww hw 20 rfl)) (g := (mkF m 14 (Sh7 a1 x2) [(.long x2)])) rfl (hb hby d3_14) t k) ?_
  refine GoW.sg (mkF m 18 (Sh7 a1 x2) [(.int (lcmpW x2 (20000 : Int64)))]) (fun t k => XS.lcmp X234.here hx rfl (hb hby d3_17) rfl k) ?_
  refine GoW.sg (mkF m 23 (Sh7 a1 x2) []) (fun t k => XS.ifYes X234.here hx rfl (pc0 := 18) (pc' := 23) rfl (hb hby d3_18) rfl ((if0 _ _).trans (tlt ((lw_gt _ _).mpr u0)).2.2.1) (by decide) (by decide) k) ?_
  refine GoW.sg (mkF m 24 (Sh7 a1 x2) [(.ref a1)]) (fun t k => XS.aloadN X234.here hx rfl (hb hby d3_23) rfl rfl k) ?_
  obtain ⟨T235, X235, e235, st235⟩ := getF X234 hx hZ hown (host := "") (Or.inl (ww hw 18 rfl)) Via.refl e234 Fld_a1_awaitsAnswer_234 (g := (mkF m 24 (Sh7 a1 x2) [(.ref a1)])) rfl rfl (hb hby d3_24)
  refine GoW.sg (mkF m 27 (Sh7 a1 x2) [(.int 0)]) (fun t k => st235 t k) ?_
  refine GoW.sg (mkF m 47 (Sh7 a1 x2) []) (fun t k => XS.ifYes X235.here hx rfl (pc0 := 27) (pc' := 47) rfl (hb hby d3_27) rfl (by decide) (by decide) (by decide) k) ?_
  refine GoW.sg (mkF m 48 (Sh7 a1 x2) [(.long 0)]) (fun t k => XS.lconst X235.here hx rfl (hb hby d3_47) k) ?_
  refine GoW.retL X235 hx Bd.returns (hb hby d3_48) Bd.notSynchronized ?_ (by decide) (by decide)
  rw [e235]
  exact ⟨rfl, N234, Keep_234, Exa_a1_234, Fld_a1_answeredShare_234, Fld_a1_handedOn_234, Fld_a1_awaitsAnswer_234⟩
def Q3_26 (Z : State) (a1 : Addr) (x2 : Int64) (h0 : Heap) (n0 : Nat) (v : Option Value) (h : Heap) (L : List Loc) : Prop := v = some (.long x2) ∧ Fr n0 L ∧ (Keep h0 h [a1]) ∧ (Exa Z h a1 "com/example/spindle/spindle/SpinRule") ∧ (Fld Z h a1 "com/example/spindle/spindle/SpinRule" "answeredShare" "D" (.double (4598410768185032704 : UInt64))) ∧ (Fld Z h a1 "com/example/spindle/spindle/SpinRule" "handedOn" "Z" (.int (0 : Int32))) ∧ (Fld Z h a1 "com/example/spindle/spindle/SpinRule" "awaitsAnswer" "Z" (.int (0 : Int32)))
theorem ef3_rm3_26 (m : MethodId) (a1 : Addr) (x2 : Int64) : entryFrame m #[(.ref a1), (.long x2)] 3 = (mkF m 0 #[.val (.ref a1), .val (.long x2), .second] []) := by first | (simp [entryFrame, mkF, argsToLocals, Value.category, maxLocals]; done) | rfl
set_option maxRecDepth 65536 in
set_option maxHeartbeats 40000000 in
theorem rm3_26 (l : Launch) (Z : State) (a0 : Array Value) (hw : ∀ d ∈ tables_1, d.before a0 Z = true) (ws : List Jvm.Cond) (a1 : Addr) (x2 : Int64)  (h0 : Heap) (n0 : Nat) (P0 : Exa Z h0 a1 "com/example/spindle/spindle/SpinRule") (P1 : Fld Z h0 a1 "com/example/spindle/spindle/SpinRule" "answeredShare" "D" (.double (4598410768185032704 : UInt64))) (P2 : Fld Z h0 a1 "com/example/spindle/spindle/SpinRule" "handedOn" "Z" (.int (0 : Int32))) (P3 : Fld Z h0 a1 "com/example/spindle/spindle/SpinRule" "awaitsAnswer" "Z" (.int (0 : Int32))) (g_a1 : n0 ≤ a1)  (u0 : ¬ ((20000 : Int64) < x2))  :
    MetFree l (⟨"com/example/spindle/spindle/SpinRule", "spinNanos", "(J)J"⟩ : MethodName) (head1 (Jvm.Cond.code (⟨"com/example/spindle/spindle/SpinRule", "spinNanos", "(J)J"⟩ : MethodName) prog_40_method_3_code 3 (some .long) :: ws) ({ frames := 0, cells := 0, slots := 0, locals := 0 } : Room)) (fun a U => a = #[(.ref a1), (.long x2)] ∧ Z.Warmed39 U.vm ∧ U.heap = h0) (fun _ _ _ _ _ => True) (fun _ U o U' => ∃ v L, o = .returned v ∧ (Q3_26 Z a1 x2 h0 n0) v U'.heap L ∧ FrameEnd U o U' L 0 0) := by
  refine MetFree.of_bodySF (plainFor_of_name pn_com_example_spindle_spindle_SpinRule) hisR ?_
  intro p e s m args below meth c s₁ Bd hml0 hP hK
  obtain ⟨rfl, hZ, hh⟩ := hP
  have hx := Bd.exec
  have hby := Bd.bytes
  have hml : c.maxLocals = 3 := hml0
  have hown : s.vm.findClass "com/example/spindle/spindle/SpinRule" = some m.cls := findClass_of_methodNamed Bd.named
  have hnm := (name_of_methodNamed Bd.named Bd.method).1
  have X0 : Stand p l e ({ frames := 0, cells := 0, slots := 0, locals := 0 } : Room) s m #[(.ref a1), (.long x2)] below meth c s₁ [] 0 0 := Stand.of_body Bd
  have e0 : s₁.heap = h0 := by rw [← hh, Bd.state]; rfl
  have N0 := Fr.nil n0
  refine GoW.mk ?_
  refine GoW.st (fun t k => castTop (ef3_rm3_26 m a1 x2) k) ?_
  show GoW p e below s (Q3_26 Z a1 x2 h0 n0) 0 0 (s₁.setTop (mkF m 0 (Sh7 a1 x2) []))
  refine GoW.sg (mkF m 1 (Sh7 a1 x2) [(.ref a1)]) (fun t k => XS.aloadN X0.here hx rfl (hb hby d3_0) rfl rfl k) ?_
  refine GoW.sg (mkF m 2 (Sh7 a1 x2) [(.ref a1), (.ref a1)]) (fun t k => XS.aloadN X0.here hx rfl (hb hby d3_1) rfl rfl k) ?_
  obtain ⟨T241, X241, e241, st241⟩ := getF X0 hx hZ hown (host := "") (Or.inl (ww hw 16 rfl)) Via.refl e0 P2 (g := (mkF m 2 (Sh7 a1 x2) [(.ref a1), (.ref a1)])) rfl rfl (hb hby d3_2)
  refine GoW.sg (mkF m 5 (Sh7 a1 x2) [(.int 0), (.ref a1)]) (fun t k => st241 t k) ?_
  obtain ⟨T242, h242, X242, e242, W242, st242⟩ := putF X241 hx hZ hown (host := "") (Or.inl (ww hw 18 rfl)) Via.refl e241 P3 P0 (Or.inl (ww hw 19 rfl)) (ww hw 1 rfl) (ty := .boolean) (by decide) rfl rfl (g := (mkF m 5 (Sh7 a1 x2) [(.int 0), (.ref a1)])) rfl rfl (hb hby d3_5)
  have N242 := Fr.snoc X242 N0 g_a1
  have Exa_a1_242 : Exa Z h242 a1 "com/example/spindle/spindle/SpinRule" := P0.wr W242
  have Fld_a1_answeredShare_242 : Fld Z h242 a1 "com/example/spindle/spindle/SpinRule" "answeredShare" "D" (.double (4598410768185032704 : UInt64)) := P1.other W242 (Or.inr (slot_ne (t := .double) (t' := .boolean) (Or.inl (ww hw 10 rfl)) (Or.inl (ww hw 19 rfl)) (by decide) (by decide) (by decide)))
  have Fld_a1_handedOn_242 : Fld Z h242 a1 "com/example/spindle/spindle/SpinRule" "handedOn" "Z" (.int (0 : Int32)) := P2.other W242 (Or.inr (slot_ne (t := .boolean) (t' := .boolean) (Or.inl (ww hw 17 rfl)) (Or.inl (ww hw 19 rfl)) (by decide) (by decide) (by decide)))
  have Keep_242 : Keep h0 h242 [a1] := (Keep.refl h0 [a1]).wr W242 (Or.inl (List.mem_of_getElem? (i := 0) rfl))
  have Fld_a1_awaitsAnswer_242 : Fld Z h242 a1 "com/example/spindle/spindle/SpinRule" "awaitsAnswer" "Z" (.int (0 : Int32)) := P3.same W242
  refine GoW.sg (mkF m 8 (Sh7 a1 x2) []) (fun t k => st242 t k) ?_
  refine GoW.sg (mkF m 9 (Sh7 a1 x2) [(.ref a1)]) (fun t k => XS.aloadN X242.here hx rfl (hb hby d3_8) rfl rfl k) ?_
  refine GoW.sg (mkF m 10 (Sh7 a1 x2) [(.int 0), (.ref a1)]) (fun t k => XS.iconst X242.here hx rfl (hb hby d3_9) k) ?_
  obtain ⟨T243, h243, X243, e243, W243, st243⟩ := putF X242 hx hZ hown (host := "") (Or.inl (ww hw 16 rfl)) Via.refl e242 Fld_a1_handedOn_242 Exa_a1_242 (Or.inl (ww hw 17 rfl)) (ww hw 1 rfl) (ty := .boolean) (by decide) rfl rfl (g := (mkF m 10 (Sh7 a1 x2) [(.int 0), (.ref a1)])) rfl rfl (hb hby d3_10)
  have N243 := Fr.snoc X243 N242 g_a1
  have Exa_a1_243 : Exa Z h243 a1 "com/example/spindle/spindle/SpinRule" := Exa_a1_242.wr W243
  have Fld_a1_answeredShare_243 : Fld Z h243 a1 "com/example/spindle/spindle/SpinRule" "answeredShare" "D" (.double (4598410768185032704 : UInt64)) := Fld_a1_answeredShare_242.other W243 (Or.inr (slot_ne (t := .double) (t' := .boolean) (Or.inl (ww hw 10 rfl)) (Or.inl (ww hw 17 rfl)) (by decide) (by decide) (by decide)))
  have Fld_a1_awaitsAnswer_243 : Fld Z h243 a1 "com/example/spindle/spindle/SpinRule" "awaitsAnswer" "Z" (.int (0 : Int32)) := Fld_a1_awaitsAnswer_242.other W243 (Or.inr (slot_ne (t := .boolean) (t' := .boolean) (Or.inl (ww hw 19 rfl)) (Or.inl (ww hw 17 rfl)) (by decide) (by decide) (by decide)))
  have Keep_243 : Keep h0 h243 [a1] := Keep_242.wr W243 (Or.inl (List.mem_of_getElem? (i := 0) rfl))
  have Fld_a1_handedOn_243 : Fld Z h243 a1 "com/example/spindle/spindle/SpinRule" "handedOn" "Z" (.int (0 : Int32)) := Fld_a1_handedOn_242.same W243
  refine GoW.sg (mkF m 13 (Sh7 a1 x2) []) (fun t k => st243 t k) ?_
  refine GoW.sg (mkF m 14 (Sh7 a1 x2) [(.long x2)]) (fun t k => XS.lloadN X243.here hx rfl (hb hby d3_13) rfl k) ?_
  refine GoW.sg (mkF m 17 (Sh7 a1 x2) [(.long 20000), (.long x2)]) (fun t k => X243.ldc2Long hx hown (mvT hZ (ww hw 20 rfl)) (g := (mkF m 14 (Sh7 a1 x2) [(.long x2)])) rfl (hb hby d3_14) t k) ?_
  refine GoW.sg (mkF m 18 (Sh7 a1 x2) [(.int (lcmpW x2 (20000 : Int64)))]) (fun t k => XS.lcmp X243.here hx rfl (hb hby d3_17) rfl k) ?_
  refine GoW.sg (mkF m 21 (Sh7 a1 x2) []) (fun t k => XS.ifNo X243.here hx rfl (hb hby d3_18) rfl ((if0 _ _).trans (flt (mt (lw_gt _ _).mp u0)).2.2.1) k) ?_
  refine GoW.sg (mkF m 22 (Sh7 a1 x2) [(.long x2)]) (fun t k => XS.lloadN X243.here hx rfl (hb hby d3_21) rfl k) ?_
  refine GoW.retL X243 hx Bd.returns (hb hby d3_22) Bd.notSynchronized ?_ (by decide) (by decide)
  rw [e243]
  exact ⟨rfl, N243, Keep_243, Exa_a1_243, Fld_a1_answeredShare_243, Fld_a1_handedOn_243, Fld_a1_awaitsAnswer_243⟩
def Q3_27 (Z : State) (a1 : Addr) (x2 : Int64) (h0 : Heap) (n0 : Nat) (v : Option Value) (h : Heap) (L : List Loc) : Prop := v = some (.long x2) ∧ Fr n0 L ∧ (Keep h0 h [a1]) ∧ (Exa Z h a1 "com/example/spindle/spindle/SpinRule") ∧ (Fld Z h a1 "com/example/spindle/spindle/SpinRule" "answeredShare" "D" (.double (4598410768185032704 : UInt64))) ∧ (Fld Z h a1 "com/example/spindle/spindle/SpinRule" "handedOn" "Z" (.int (0 : Int32))) ∧ (Fld Z h a1 "com/example/spindle/spindle/SpinRule" "awaitsAnswer" "Z" (.int (0 : Int32)))
theorem ef3_rm3_27 (m : MethodId) (a1 : Addr) (x2 : Int64) : entryFrame m #[(.ref a1), (.long x2)] 3 = (mkF m 0 #[.val (.ref a1), .val (.long x2), .second] []) := by first | (simp [entryFrame, mkF, argsToLocals, Value.category, maxLocals]; done) | rfl
set_option maxRecDepth 65536 in
set_option maxHeartbeats 40000000 in
theorem rm3_27 (l : Launch) (Z : State) (a0 : Array Value) (hw : ∀ d ∈ tables_1, d.before a0 Z = true) (ws : List Jvm.Cond) (a1 : Addr) (x2 : Int64)  (h0 : Heap) (n0 : Nat) (P0 : Exa Z h0 a1 "com/example/spindle/spindle/SpinRule") (P1 : Fld Z h0 a1 "com/example/spindle/spindle/SpinRule" "answeredShare" "D" (.double (4598410768185032704 : UInt64))) (P2 : Fld Z h0 a1 "com/example/spindle/spindle/SpinRule" "handedOn" "Z" (.int (0 : Int32))) (P3 : Fld Z h0 a1 "com/example/spindle/spindle/SpinRule" "awaitsAnswer" "Z" (.int (1 : Int32))) (g_a1 : n0 ≤ a1)  (u0 : ¬ ((20000 : Int64) < x2))  :
    MetFree l (⟨"com/example/spindle/spindle/SpinRule", "spinNanos", "(J)J"⟩ : MethodName) (head1 (Jvm.Cond.code (⟨"com/example/spindle/spindle/SpinRule", "spinNanos", "(J)J"⟩ : MethodName) prog_40_method_3_code 3 (some .long) :: ws) ({ frames := 0, cells := 0, slots := 0, locals := 0 } : Room)) (fun a U => a = #[(.ref a1), (.long x2)] ∧ Z.Warmed39 U.vm ∧ U.heap = h0) (fun _ _ _ _ _ => True) (fun _ U o U' => ∃ v L, o = .returned v ∧ (Q3_27 Z a1 x2 h0 n0) v U'.heap L ∧ FrameEnd U o U' L 0 0) := by
  refine MetFree.of_bodySF (plainFor_of_name pn_com_example_spindle_spindle_SpinRule) hisR ?_
  intro p e s m args below meth c s₁ Bd hml0 hP hK
  obtain ⟨rfl, hZ, hh⟩ := hP
  have hx := Bd.exec
  have hby := Bd.bytes
  have hml : c.maxLocals = 3 := hml0
  have hown : s.vm.findClass "com/example/spindle/spindle/SpinRule" = some m.cls := findClass_of_methodNamed Bd.named
  have hnm := (name_of_methodNamed Bd.named Bd.method).1
  have X0 : Stand p l e ({ frames := 0, cells := 0, slots := 0, locals := 0 } : Room) s m #[(.ref a1), (.long x2)] below meth c s₁ [] 0 0 := Stand.of_body Bd
  have e0 : s₁.heap = h0 := by rw [← hh, Bd.state]; rfl
  have N0 := Fr.nil n0
  refine GoW.mk ?_
  refine GoW.st (fun t k => castTop (ef3_rm3_27 m a1 x2) k) ?_
  show GoW p e below s (Q3_27 Z a1 x2 h0 n0) 0 0 (s₁.setTop (mkF m 0 (Sh7 a1 x2) []))
  refine GoW.sg (mkF m 1 (Sh7 a1 x2) [(.ref a1)]) (fun t k => XS.aloadN X0.here hx rfl (hb hby d3_0) rfl rfl k) ?_
  refine GoW.sg (mkF m 2 (Sh7 a1 x2) [(.ref a1), (.ref a1)]) (fun t k => XS.aloadN X0.here hx rfl (hb hby d3_1) rfl rfl k) ?_
  obtain ⟨T249, X249, e249, st249⟩ := getF X0 hx hZ hown (host := "") (Or.inl (ww hw 16 rfl)) Via.refl e0 P2 (g := (mkF m 2 (Sh7 a1 x2) [(.ref a1), (.ref a1)])) rfl rfl (hb hby d3_2)
  refine GoW.sg (mkF m 5 (Sh7 a1 x2) [(.int 0), (.ref a1)]) (fun t k => st249 t k) ?_
  obtain ⟨T250, h250, X250, e250, W250, st250⟩ := putF X249 hx hZ hown (host := "") (Or.inl (ww hw 18 rfl)) Via.refl e249 P3 P0 (Or.inl (ww hw 19 rfl)) (ww hw 1 rfl) (ty := .boolean) (by decide) rfl rfl (g := (mkF m 5 (Sh7 a1 x2) [(.int 0), (.ref a1)])) rfl rfl (hb hby d3_5)
  have N250 := Fr.snoc X250 N0 g_a1
  have Exa_a1_250 : Exa Z h250 a1 "com/example/spindle/spindle/SpinRule" := P0.wr W250
  have Fld_a1_answeredShare_250 : Fld Z h250 a1 "com/example/spindle/spindle/SpinRule" "answeredShare" "D" (.double (4598410768185032704 : UInt64)) := P1.other W250 (Or.inr (slot_ne (t := .double) (t' := .boolean) (Or.inl (ww hw 10 rfl)) (Or.inl (ww hw 19 rfl)) (by decide) (by decide) (by decide)))
  have Fld_a1_handedOn_250 : Fld Z h250 a1 "com/example/spindle/spindle/SpinRule" "handedOn" "Z" (.int (0 : Int32)) := P2.other W250 (Or.inr (slot_ne (t := .boolean) (t' := .boolean) (Or.inl (ww hw 17 rfl)) (Or.inl (ww hw 19 rfl)) (by decide) (by decide) (by decide)))
  have Keep_250 : Keep h0 h250 [a1] := (Keep.refl h0 [a1]).wr W250 (Or.inl (List.mem_of_getElem? (i := 0) rfl))
  have Fld_a1_awaitsAnswer_250 : Fld Z h250 a1 "com/example/spindle/spindle/SpinRule" "awaitsAnswer" "Z" (.int (0 : Int32)) := P3.same W250
  refine GoW.sg (mkF m 8 (Sh7 a1 x2) []) (fun t k => st250 t k) ?_
  refine GoW.sg (mkF m 9 (Sh7 a1 x2) [(.ref a1)]) (fun t k => XS.aloadN X250.here hx rfl (hb hby d3_8) rfl rfl k) ?_
  refine GoW.sg (mkF m 10 (Sh7 a1 x2) [(.int 0), (.ref a1)]) (fun t k => XS.iconst X250.here hx rfl (hb hby d3_9) k) ?_
  obtain ⟨T251, h251, X251, e251, W251, st251⟩ := putF X250 hx hZ hown (host := "") (Or.inl (ww hw 16 rfl)) Via.refl e250 Fld_a1_handedOn_250 Exa_a1_250 (Or.inl (ww hw 17 rfl)) (ww hw 1 rfl) (ty := .boolean) (by decide) rfl rfl (g := (mkF m 10 (Sh7 a1 x2) [(.int 0), (.ref a1)])) rfl rfl (hb hby d3_10)
  have N251 := Fr.snoc X251 N250 g_a1
  have Exa_a1_251 : Exa Z h251 a1 "com/example/spindle/spindle/SpinRule" := Exa_a1_250.wr W251
  have Fld_a1_answeredShare_251 : Fld Z h251 a1 "com/example/spindle/spindle/SpinRule" "answeredShare" "D" (.double (4598410768185032704 : UInt64)) := Fld_a1_answeredShare_250.other W251 (Or.inr (slot_ne (t := .double) (t' := .boolean) (Or.inl (ww hw 10 rfl)) (Or.inl (ww hw 17 rfl)) (by decide) (by decide) (by decide)))
  have Fld_a1_awaitsAnswer_251 : Fld Z h251 a1 "com/example/spindle/spindle/SpinRule" "awaitsAnswer" "Z" (.int (0 : Int32)) := Fld_a1_awaitsAnswer_250.other W251 (Or.inr (slot_ne (t := .boolean) (t' := .boolean) (Or.inl (ww hw 19 rfl)) (Or.inl (ww hw 17 rfl)) (by decide) (by decide) (by decide)))
  have Keep_251 : Keep h0 h251 [a1] := Keep_250.wr W251 (Or.inl (List.mem_of_getElem? (i := 0) rfl))
  have Fld_a1_handedOn_251 : Fld Z h251 a1 "com/example/spindle/spindle/SpinRule" "handedOn" "Z" (.int (0 : Int32)) := Fld_a1_handedOn_250.same W251
  refine GoW.sg (mkF m 13 (Sh7 a1 x2) []) (fun t k => st251 t k) ?_
  refine GoW.sg (mkF m 14 (Sh7 a1 x2) [(.long x2)]) (fun t k => XS.lloadN X251.here hx rfl (hb hby d3_13) rfl k) ?_
  refine GoW.sg (mkF m 17 (Sh7 a1 x2) [(.long 20000), (.long x2)]) (fun t k => X251.ldc2Long hx hown (mvT hZ (ww hw 20 rfl)) (g := (mkF m 14 (Sh7 a1 x2) [(.long x2)])) rfl (hb hby d3_14) t k) ?_
  refine GoW.sg (mkF m 18 (Sh7 a1 x2) [(.int (lcmpW x2 (20000 : Int64)))]) (fun t k => XS.lcmp X251.here hx rfl (hb hby d3_17) rfl k) ?_
  refine GoW.sg (mkF m 21 (Sh7 a1 x2) []) (fun t k => XS.ifNo X251.here hx rfl (hb hby d3_18) rfl ((if0 _ _).trans (flt (mt (lw_gt _ _).mp u0)).2.2.1) k) ?_
  refine GoW.sg (mkF m 22 (Sh7 a1 x2) [(.long x2)]) (fun t k => XS.lloadN X251.here hx rfl (hb hby d3_21) rfl k) ?_
  refine GoW.retL X251 hx Bd.returns (hb hby d3_22) Bd.notSynchronized ?_ (by decide) (by decide)
  rw [e251]
  exact ⟨rfl, N251, Keep_251, Exa_a1_251, Fld_a1_answeredShare_251, Fld_a1_handedOn_251, Fld_a1_awaitsAnswer_251⟩
def Q5_28 (Z : State) (a1 : Addr) (h0 : Heap) (n0 : Nat) (v : Option Value) (h : Heap) (L : List Loc) : Prop := v = none ∧ Fr n0 L ∧ (Keep h0 h [a1]) ∧ (Exa Z h a1 "com/example/spindle/spindle/SpinRule") ∧ (Fld Z h a1 "com/example/spindle/spindle/SpinRule" "answeredShare" "D" (.double (4598410768185032704 : UInt64))) ∧ (Fld Z h a1 "com/example/spindle/spindle/SpinRule" "handedOn" "Z" (.int (1 : Int32))) ∧ (Fld Z h a1 "com/example/spindle/spindle/SpinRule" "awaitsAnswer" "Z" (.int (1 : Int32)))
theorem ef5_rm5_28 (m : MethodId) (a1 : Addr) : entryFrame m #[(.ref a1)] 1 = (mkF m 0 #[.val (.ref a1)] []) := by first | (simp [entryFrame, mkF, argsToLocals, Value.category, maxLocals]; done) | rfl
set_option maxRecDepth 65536 in
set_option maxHeartbeats 40000000 in
theorem rm5_28 (l : Launch) (Z : State) (a0 : Array Value) (hw : ∀ d ∈ tables_1, d.before a0 Z = true) (ws : List Jvm.Cond) (a1 : Addr)  (h0 : Heap) (n0 : Nat) (P0 : Exa Z h0 a1 "com/example/spindle/spindle/SpinRule") (P1 : Fld Z h0 a1 "com/example/spindle/spindle/SpinRule" "answeredShare" "D" (.double (4598410768185032704 : UInt64))) (P2 : Fld Z h0 a1 "com/example/spindle/spindle/SpinRule" "handedOn" "Z" (.int (0 : Int32))) (P3 : Fld Z h0 a1 "com/example/spindle/spindle/SpinRule" "awaitsAnswer" "Z" (.int (1 : Int32))) (g_a1 : n0 ≤ a1)    :
    MetFree l (⟨"com/example/spindle/spindle/SpinRule", "handedOn", "()V"⟩ : MethodName) (head1 (Jvm.Cond.code (⟨"com/example/spindle/spindle/SpinRule", "handedOn", "()V"⟩ : MethodName) prog_40_method_2_code 1 none :: ws) ({ frames := 0, cells := 0, slots := 0, locals := 0 } : Room)) (fun a U => a = #[(.ref a1)] ∧ Z.Warmed39 U.vm ∧ U.heap = h0) (fun _ _ _ _ _ => True) (fun _ U o U' => ∃ v L, o = .returned v ∧ (Q5_28 Z a1 h0 n0) v U'.heap L ∧ FrameEnd U o U' L 0 0) := by
  refine MetFree.of_bodySF (plainFor_of_name pn_com_example_spindle_spindle_SpinRule) hisR ?_
  intro p e s m args below meth c s₁ Bd hml0 hP hK
  obtain ⟨rfl, hZ, hh⟩ := hP
  have hx := Bd.exec
  have hby := Bd.bytes
  have hml : c.maxLocals = 1 := hml0
  have hown : s.vm.findClass "com/example/spindle/spindle/SpinRule" = some m.cls := findClass_of_methodNamed Bd.named
  have hnm := (name_of_methodNamed Bd.named Bd.method).1
  have X0 : Stand p l e ({ frames := 0, cells := 0, slots := 0, locals := 0 } : Room) s m #[(.ref a1)] below meth c s₁ [] 0 0 := Stand.of_body Bd
  have e0 : s₁.heap = h0 := by rw [← hh, Bd.state]; rfl
  have N0 := Fr.nil n0
  refine GoW.mk ?_
  refine GoW.st (fun t k => castTop (ef5_rm5_28 m a1) k) ?_
  show GoW p e below s (Q5_28 Z a1 h0 n0) 0 0 (s₁.setTop (mkF m 0 #[.val (.ref a1)] []))
  refine GoW.sg (mkF m 1 #[.val (.ref a1)] [(.ref a1)]) (fun t k => XS.aloadN X0.here hx rfl (hb hby d5_0) rfl rfl k) ?_
  refine GoW.sg (mkF m 2 #[.val (.ref a1)] [(.int 1), (.ref a1)]) (fun t k => XS.iconst X0.here hx rfl (hb hby d5_1) k) ?_
  obtain ⟨T260, h260, X260, e260, W260, st260⟩ := putF X0 hx hZ hown (host := "") (Or.inl (ww hw 16 rfl)) Via.refl e0 P2 P0 (Or.inl (ww hw 17 rfl)) (ww hw 1 rfl) (ty := .boolean) (by decide) rfl rfl (g := (mkF m 2 #[.val (.ref a1)] [(.int 1), (.ref a1)])) rfl rfl (hb hby d5_2)
  have N260 := Fr.snoc X260 N0 g_a1
  have Exa_a1_260 : Exa Z h260 a1 "com/example/spindle/spindle/SpinRule" := P0.wr W260
  have Fld_a1_answeredShare_260 : Fld Z h260 a1 "com/example/spindle/spindle/SpinRule" "answeredShare" "D" (.double (4598410768185032704 : UInt64)) := P1.other W260 (Or.inr (slot_ne (t := .double) (t' := .boolean) (Or.inl (ww hw 10 rfl)) (Or.inl (ww hw 17 rfl)) (by decide) (by decide) (by decide)))
  have Fld_a1_awaitsAnswer_260 : Fld Z h260 a1 "com/example/spindle/spindle/SpinRule" "awaitsAnswer" "Z" (.int (1 : Int32)) := P3.other W260 (Or.inr (slot_ne (t := .boolean) (t' := .boolean) (Or.inl (ww hw 19 rfl)) (Or.inl (ww hw 17 rfl)) (by decide) (by decide) (by decide)))
  have Keep_260 : Keep h0 h260 [a1] := (Keep.refl h0 [a1]).wr W260 (Or.inl (List.mem_of_getElem? (i := 0) rfl))
  have Fld_a1_handedOn_260 : Fld Z h260 a1 "com/example/spindle/spindle/SpinRule" "handedOn" "Z" (.int (1 : Int32)) := P2.same W260
  refine GoW.sg (mkF m 5 #[.val (.ref a1)] []) (fun t k => st260 t k) ?_
  refine GoW.retV X260 hx Bd.returns (hb hby d5_5) Bd.notSynchronized ?_ (by decide) (by decide)
  rw [e260]
  exact ⟨rfl, N260, Keep_260, Exa_a1_260, Fld_a1_answeredShare_260, Fld_a1_handedOn_260, Fld_a1_awaitsAnswer_260⟩
def Q3_29 (Z : State) (a1 : Addr) (x2 : Int64) (h0 : Heap) (n0 : Nat) (v : Option Value) (h : Heap) (L : List Loc) : Prop := v = some (.long (20000 : Int64)) ∧ Fr n0 L ∧ (Keep h0 h [a1]) ∧ (Exa Z h a1 "com/example/spindle/spindle/SpinRule") ∧ (Fld Z h a1 "com/example/spindle/spindle/SpinRule" "answeredShare" "D" (.double (4598410768185032704 : UInt64))) ∧ (Fld Z h a1 "com/example/spindle/spindle/SpinRule" "handedOn" "Z" (.int (0 : Int32))) ∧ (Fld Z h a1 "com/example/spindle/spindle/SpinRule" "awaitsAnswer" "Z" (.int (1 : Int32)))
theorem ef3_rm3_29 (m : MethodId) (a1 : Addr) (x2 : Int64) : entryFrame m #[(.ref a1), (.long x2)] 3 = (mkF m 0 #[.val (.ref a1), .val (.long x2), .second] []) := by first | (simp [entryFrame, mkF, argsToLocals, Value.category, maxLocals]; done) | rfl
set_option maxRecDepth 65536 in
set_option maxHeartbeats 40000000 in
theorem rm3_29 (l : Launch) (Z : State) (a0 : Array Value) (hw : ∀ d ∈ tables_1, d.before a0 Z = true) (ws : List Jvm.Cond) (a1 : Addr) (x2 : Int64)  (h0 : Heap) (n0 : Nat) (P0 : Exa Z h0 a1 "com/example/spindle/spindle/SpinRule") (P1 : Fld Z h0 a1 "com/example/spindle/spindle/SpinRule" "answeredShare" "D" (.double (4598410768185032704 : UInt64))) (P2 : Fld Z h0 a1 "com/example/spindle/spindle/SpinRule" "handedOn" "Z" (.int (1 : Int32))) (P3 : Fld Z h0 a1 "com/example/spindle/spindle/SpinRule" "awaitsAnswer" "Z" (.int (1 : Int32))) (g_a1 : n0 ≤ a1)  (u0 : (20000 : Int64) < x2)  :
    MetFree l (⟨"com/example/spindle/spindle/SpinRule", "spinNanos", "(J)J"⟩ : MethodName) (head1 (Jvm.Cond.code (⟨"com/example/spindle/spindle/SpinRule", "spinNanos", "(J)J"⟩ : MethodName) prog_40_method_3_code 3 (some .long) :: ws) ({ frames := 0, cells := 0, slots := 0, locals := 0 } : Room)) (fun a U => a = #[(.ref a1), (.long x2)] ∧ Z.Warmed39 U.vm ∧ U.heap = h0) (fun _ _ _ _ _ => True) (fun _ U o U' => ∃ v L, o = .returned v ∧ (Q3_29 Z a1 x2 h0 n0) v U'.heap L ∧ FrameEnd U o U' L 0 0) := by
  refine MetFree.of_bodySF (plainFor_of_name pn_com_example_spindle_spindle_SpinRule) hisR ?_
  intro p e s m args below meth c s₁ Bd hml0 hP hK
  obtain ⟨rfl, hZ, hh⟩ := hP
  have hx := Bd.exec
  have hby := Bd.bytes
  have hml : c.maxLocals = 3 := hml0
  have hown : s.vm.findClass "com/example/spindle/spindle/SpinRule" = some m.cls := findClass_of_methodNamed Bd.named
  have hnm := (name_of_methodNamed Bd.named Bd.method).1
  have X0 : Stand p l e ({ frames := 0, cells := 0, slots := 0, locals := 0 } : Room) s m #[(.ref a1), (.long x2)] below meth c s₁ [] 0 0 := Stand.of_body Bd
  have e0 : s₁.heap = h0 := by rw [← hh, Bd.state]; rfl
  have N0 := Fr.nil n0
  refine GoW.mk ?_
  refine GoW.st (fun t k => castTop (ef3_rm3_29 m a1 x2) k) ?_
  show GoW p e below s (Q3_29 Z a1 x2 h0 n0) 0 0 (s₁.setTop (mkF m 0 (Sh7 a1 x2) []))
  refine GoW.sg (mkF m 1 (Sh7 a1 x2) [(.ref a1)]) (fun t k => XS.aloadN X0.here hx rfl (hb hby d3_0) rfl rfl k) ?_
  refine GoW.sg (mkF m 2 (Sh7 a1 x2) [(.ref a1), (.ref a1)]) (fun t k => XS.aloadN X0.here hx rfl (hb hby d3_1) rfl rfl k) ?_
  obtain ⟨T268, X268, e268, st268⟩ := getF X0 hx hZ hown (host := "") (Or.inl (ww hw 16 rfl)) Via.refl e0 P2 (g := (mkF m 2 (Sh7 a1 x2) [(.ref a1), (.ref a1)])) rfl rfl (hb hby d3_2)
  refine GoW.sg (mkF m 5 (Sh7 a1 x2) [(.int 1), (.ref a1)]) (fun t k => st268 t k) ?_
  obtain ⟨T269, h269, X269, e269, W269, st269⟩ := putF X268 hx hZ hown (host := "") (Or.inl (ww hw 18 rfl)) Via.refl e268 P3 P0 (Or.inl (ww hw 19 rfl)) (ww hw 1 rfl) (ty := .boolean) (by decide) rfl rfl (g := (mkF m 5 (Sh7 a1 x2) [(.int 1), (.ref a1)])) rfl rfl (hb hby d3_5)
  have N269 := Fr.snoc X269 N0 g_a1
  have Exa_a1_269 : Exa Z h269 a1 "com/example/spindle/spindle/SpinRule" := P0.wr W269
  have Fld_a1_answeredShare_269 : Fld Z h269 a1 "com/example/spindle/spindle/SpinRule" "answeredShare" "D" (.double (4598410768185032704 : UInt64)) := P1.other W269 (Or.inr (slot_ne (t := .double) (t' := .boolean) (Or.inl (ww hw 10 rfl)) (Or.inl (ww hw 19 rfl)) (by decide) (by decide) (by decide)))
  have Fld_a1_handedOn_269 : Fld Z h269 a1 "com/example/spindle/spindle/SpinRule" "handedOn" "Z" (.int (1 : Int32)) := P2.other W269 (Or.inr (slot_ne (t := .boolean) (t' := .boolean) (Or.inl (ww hw 17 rfl)) (Or.inl (ww hw 19 rfl)) (by decide) (by decide) (by decide)))
  have Keep_269 : Keep h0 h269 [a1] := (Keep.refl h0 [a1]).wr W269 (Or.inl (List.mem_of_getElem? (i := 0) rfl))
  have Fld_a1_awaitsAnswer_269 : Fld Z h269 a1 "com/example/spindle/spindle/SpinRule" "awaitsAnswer" "Z" (.int (1 : Int32)) := P3.same W269
  refine GoW.sg (mkF m 8 (Sh7 a1 x2) []) (fun t k => st269 t k) ?_
  refine GoW.sg (mkF m 9 (Sh7 a1 x2) [(.ref a1)]) (fun t k => XS.aloadN X269.here hx rfl (hb hby d3_8) rfl rfl k) ?_
  refine GoW.sg (mkF m 10 (Sh7 a1 x2) [(.int 0), (.ref a1)]) (fun t k => XS.iconst X269.here hx rfl (hb hby d3_9) k) ?_
  obtain ⟨T270, h270, X270, e270, W270, st270⟩ := putF X269 hx hZ hown (host := "") (Or.inl (ww hw 16 rfl)) Via.refl e269 Fld_a1_handedOn_269 Exa_a1_269 (Or.inl (ww hw 17 rfl)) (ww hw 1 rfl) (ty := .boolean) (by decide) rfl rfl (g := (mkF m 10 (Sh7 a1 x2) [(.int 0), (.ref a1)])) rfl rfl (hb hby d3_10)
  have N270 := Fr.snoc X270 N269 g_a1
  have Exa_a1_270 : Exa Z h270 a1 "com/example/spindle/spindle/SpinRule" := Exa_a1_269.wr W270
  have Fld_a1_answeredShare_270 : Fld Z h270 a1 "com/example/spindle/spindle/SpinRule" "answeredShare" "D" (.double (4598410768185032704 : UInt64)) := Fld_a1_answeredShare_269.other W270 (Or.inr (slot_ne (t := .double) (t' := .boolean) (Or.inl (ww hw 10 rfl)) (Or.inl (ww hw 17 rfl)) (by decide) (by decide) (by decide)))
  have Fld_a1_awaitsAnswer_270 : Fld Z h270 a1 "com/example/spindle/spindle/SpinRule" "awaitsAnswer" "Z" (.int (1 : Int32)) := Fld_a1_awaitsAnswer_269.other W270 (Or.inr (slot_ne (t := .boolean) (t' := .boolean) (Or.inl (ww hw 19 rfl)) (Or.inl (ww hw 17 rfl)) (by decide) (by decide) (by decide)))
  have Keep_270 : Keep h0 h270 [a1] := Keep_269.wr W270 (Or.inl (List.mem_of_getElem? (i := 0) rfl))
  have Fld_a1_handedOn_270 : Fld Z h270 a1 "com/example/spindle/spindle/SpinRule" "handedOn" "Z" (.int (0 : Int32)) := Fld_a1_handedOn_269.same W270
  refine GoW.sg (mkF m 13 (Sh7 a1 x2) []) (fun t k => st270 t k) ?_
  refine GoW.sg (mkF m 14 (Sh7 a1 x2) [(.long x2)]) (fun t k => XS.lloadN X270.here hx rfl (hb hby d3_13) rfl k) ?_
  refine GoW.sg (mkF m 17 (Sh7 a1 x2) [(.long 20000), (.long x2)]) (fun t k => X270.ldc2Long hx hown (mvT hZ (ww hw 20 rfl)) (g := (mkF m 14 (Sh7 a1 x2) [(.long x2)])) rfl (hb hby d3_14) t k) ?_
  refine GoW.sg (mkF m 18 (Sh7 a1 x2) [(.int (lcmpW x2 (20000 : Int64)))]) (fun t k => XS.lcmp X270.here hx rfl (hb hby d3_17) rfl k) ?_
  refine GoW.sg (mkF m 23 (Sh7 a1 x2) []) (fun t k => XS.ifYes X270.here hx rfl (pc0 := 18) (pc' := 23) rfl (hb hby d3_18) rfl ((if0 _ _).trans (tlt ((lw_gt _ _).mpr u0)).2.2.1) (by decide) (by decide) k) ?_
  refine GoW.sg (mkF m 24 (Sh7 a1 x2) [(.ref a1)]) (fun t k => XS.aloadN X270.here hx rfl (hb hby d3_23) rfl rfl k) ?_
  obtain ⟨T271, X271, e271, st271⟩ := getF X270 hx hZ hown (host := "") (Or.inl (ww hw 18 rfl)) Via.refl e270 Fld_a1_awaitsAnswer_270 (g := (mkF m 24 (Sh7 a1 x2) [(.ref a1)])) rfl rfl (hb hby d3_24)
  refine GoW.sg (mkF m 27 (Sh7 a1 x2) [(.int 1)]) (fun t k => st271 t k) ?_
  refine GoW.sg (mkF m 30 (Sh7 a1 x2) []) (fun t k => XS.ifNo X271.here hx rfl (hb hby d3_27) rfl (by decide) k) ?_
  refine GoW.sg (mkF m 31 (Sh7 a1 x2) [(.ref a1)]) (fun t k => XS.aloadN X271.here hx rfl (hb hby d3_30) rfl rfl k) ?_
  obtain ⟨T272, X272, e272, st272⟩ := getF X271 hx hZ hown (host := "") (Or.inl (ww hw 9 rfl)) Via.refl e271 Fld_a1_answeredShare_270 (g := (mkF m 31 (Sh7 a1 x2) [(.ref a1)])) rfl rfl (hb hby d3_31)
  refine GoW.sg (mkF m 34 (Sh7 a1 x2) [(.double 4598410768185032704)]) (fun t k => st272 t k) ?_
  refine GoW.sg (mkF m 37 (Sh7 a1 x2) [(.double 4598175219545276416), (.double 4598410768185032704)]) (fun t k => X272.ldc2DoubleC hx hown (mvT hZ (ww hw 33 rfl)) (g := (mkF m 34 (Sh7 a1 x2) [(.double 4598410768185032704)])) rfl (hb hby d3_34) t k) ?_
  refine GoW.sg (mkF m 38 (Sh7 a1 x2) [(.int 1)]) (fun t k => XS.dcmpS X272.here hx rfl (hb hby d3_37) rfl (v := (1 : Int32)) (by decide +kernel) k) ?_
  refine GoW.sg (mkF m 41 (Sh7 a1 x2) []) (fun t k => XS.ifNo X272.here hx rfl (hb hby d3_38) rfl (by decide) k) ?_
  refine GoW.sg (mkF m 44 (Sh7 a1 x2) [(.long 20000)]) (fun t k => X272.ldc2Long hx hown (mvT hZ (ww hw 20 rfl)) (g := (mkF m 41 (Sh7 a1 x2) [])) rfl (hb hby d3_41) t k) ?_
  refine GoW.sg (mkF m 48 (Sh7 a1 x2) [(.long 20000)]) (fun t k => XS.goto X272.here hx rfl (pc0 := 44) (pc' := 48) rfl (hb hby d3_44) (by decide) (by decide) k) ?_
  refine GoW.retL X272 hx Bd.returns (hb hby d3_48) Bd.notSynchronized ?_ (by decide) (by decide)
  rw [e272]
  exact ⟨rfl, N270, Keep_270, Exa_a1_270, Fld_a1_answeredShare_270, Fld_a1_handedOn_270, Fld_a1_awaitsAnswer_270⟩
def Q4_30 (Z : State) (a1 : Addr) (h0 : Heap) (n0 : Nat) (v : Option Value) (h : Heap) (L : List Loc) : Prop := v = some (.int (1 : Int32)) ∧ Fr n0 L ∧ (h = h0)
theorem ef4_rm4_30 (m : MethodId) (a1 : Addr) : entryFrame m #[(.ref a1), (.long (0 : Int64))] 3 = (mkF m 0 #[.val (.ref a1), .val (.long 0), .second] []) := by first | (simp [entryFrame, mkF, argsToLocals, Value.category, maxLocals]; done) | rfl
set_option maxRecDepth 65536 in
set_option maxHeartbeats 40000000 in
theorem rm4_30 (l : Launch) (Z : State) (a0 : Array Value) (hw : ∀ d ∈ tables_1, d.before a0 Z = true) (ws : List Jvm.Cond) (a1 : Addr)  (h0 : Heap) (n0 : Nat) (P0 : Exa Z h0 a1 "com/example/spindle/spindle/SpinRule") (P1 : Fld Z h0 a1 "com/example/spindle/spindle/SpinRule" "answeredShare" "D" (.double (4598410768185032704 : UInt64))) (P2 : Fld Z h0 a1 "com/example/spindle/spindle/SpinRule" "handedOn" "Z" (.int (0 : Int32))) (P3 : Fld Z h0 a1 "com/example/spindle/spindle/SpinRule" "awaitsAnswer" "Z" (.int (1 : Int32)))     :
    MetFree l (⟨"com/example/spindle/spindle/SpinRule", "timesWait", "(J)Z"⟩ : MethodName) (head1 (Jvm.Cond.code (⟨"com/example/spindle/spindle/SpinRule", "timesWait", "(J)Z"⟩ : MethodName) prog_40_method_4_code 3 (some .boolean) :: ws) ({ frames := 0, cells := 0, slots := 0, locals := 0 } : Room)) (fun a U => a = #[(.ref a1), (.long (0 : Int64))] ∧ Z.Warmed39 U.vm ∧ U.heap = h0) (fun _ _ _ _ _ => True) (fun _ U o U' => ∃ v L, o = .returned v ∧ (Q4_30 Z a1 h0 n0) v U'.heap L ∧ FrameEnd U o U' L 0 0) := by
  refine MetFree.of_bodySF (plainFor_of_name pn_com_example_spindle_spindle_SpinRule) hisR ?_
  intro p e s m args below meth c s₁ Bd hml0 hP hK
  obtain ⟨rfl, hZ, hh⟩ := hP
  have hx := Bd.exec
  have hby := Bd.bytes
  have hml : c.maxLocals = 3 := hml0
  have hown : s.vm.findClass "com/example/spindle/spindle/SpinRule" = some m.cls := findClass_of_methodNamed Bd.named
  have hnm := (name_of_methodNamed Bd.named Bd.method).1
  have X0 : Stand p l e ({ frames := 0, cells := 0, slots := 0, locals := 0 } : Room) s m #[(.ref a1), (.long (0 : Int64))] below meth c s₁ [] 0 0 := Stand.of_body Bd
  have e0 : s₁.heap = h0 := by rw [← hh, Bd.state]; rfl
  have N0 := Fr.nil n0
  refine GoW.mk ?_
  refine GoW.st (fun t k => castTop (ef4_rm4_30 m a1) k) ?_
  show GoW p e below s (Q4_30 Z a1 h0 n0) 0 0 (s₁.setTop (mkF m 0 (Sh7 a1 0) []))
  refine GoW.sg (mkF m 1 (Sh7 a1 0) [(.long 0)]) (fun t k => XS.lloadN X0.here hx rfl (hb hby d4_0) rfl k) ?_
  refine GoW.sg (mkF m 2 (Sh7 a1 0) [(.long 0), (.long 0)]) (fun t k => XS.lconst X0.here hx rfl (hb hby d4_1) k) ?_
  refine GoW.sg (mkF m 3 (Sh7 a1 0) [(.int (lcmpW (0 : Int64) (0 : Int64)))]) (fun t k => XS.lcmp X0.here hx rfl (hb hby d4_2) rfl k) ?_
  refine GoW.sg (mkF m 6 (Sh7 a1 0) []) (fun t k => XS.ifNo X0.here hx rfl (hb hby d4_3) rfl (by decide) k) ?_
  refine GoW.sg (mkF m 7 (Sh7 a1 0) [(.ref a1)]) (fun t k => XS.aloadN X0.here hx rfl (hb hby d4_6) rfl rfl k) ?_
  obtain ⟨T275, X275, e275, st275⟩ := getF X0 hx hZ hown (host := "") (Or.inl (ww hw 18 rfl)) Via.refl e0 P3 (g := (mkF m 7 (Sh7 a1 0) [(.ref a1)])) rfl rfl (hb hby d4_7)
  refine GoW.sg (mkF m 10 (Sh7 a1 0) [(.int 1)]) (fun t k => st275 t k) ?_
  refine GoW.sg (mkF m 13 (Sh7 a1 0) []) (fun t k => XS.ifNo X275.here hx rfl (hb hby d4_10) rfl (by decide) k) ?_
  refine GoW.sg (mkF m 14 (Sh7 a1 0) [(.int 1)]) (fun t k => XS.iconst X275.here hx rfl (hb hby d4_13) k) ?_
  refine GoW.sg (mkF m 18 (Sh7 a1 0) [(.int 1)]) (fun t k => XS.goto X275.here hx rfl (pc0 := 14) (pc' := 18) rfl (hb hby d4_14) (by decide) (by decide) k) ?_
  refine GoW.retN X275 hx (t := .boolean) Bd.returns (by simp) (hb hby d4_18) Bd.notSynchronized ?_ (by decide) (by decide)
  rw [e275]
  exact ⟨rfl, N0, rfl⟩
def Q3_31 (Z : State) (a1 : Addr) (x2 : Int64) (h0 : Heap) (n0 : Nat) (v : Option Value) (h : Heap) (L : List Loc) : Prop := v = some (.long x2) ∧ Fr n0 L ∧ (Keep h0 h [a1]) ∧ (Exa Z h a1 "com/example/spindle/spindle/SpinRule") ∧ (Fld Z h a1 "com/example/spindle/spindle/SpinRule" "answeredShare" "D" (.double (4598410768185032704 : UInt64))) ∧ (Fld Z h a1 "com/example/spindle/spindle/SpinRule" "handedOn" "Z" (.int (0 : Int32))) ∧ (Fld Z h a1 "com/example/spindle/spindle/SpinRule" "awaitsAnswer" "Z" (.int (1 : Int32)))
theorem ef3_rm3_31 (m : MethodId) (a1 : Addr) (x2 : Int64) : entryFrame m #[(.ref a1), (.long x2)] 3 = (mkF m 0 #[.val (.ref a1), .val (.long x2), .second] []) := by first | (simp [entryFrame, mkF, argsToLocals, Value.category, maxLocals]; done) | rfl
set_option maxRecDepth 65536 in
set_option maxHeartbeats 40000000 in
theorem rm3_31 (l : Launch) (Z : State) (a0 : Array Value) (hw : ∀ d ∈ tables_1, d.before a0 Z = true) (ws : List Jvm.Cond) (a1 : Addr) (x2 : Int64)  (h0 : Heap) (n0 : Nat) (P0 : Exa Z h0 a1 "com/example/spindle/spindle/SpinRule") (P1 : Fld Z h0 a1 "com/example/spindle/spindle/SpinRule" "answeredShare" "D" (.double (4598410768185032704 : UInt64))) (P2 : Fld Z h0 a1 "com/example/spindle/spindle/SpinRule" "handedOn" "Z" (.int (1 : Int32))) (P3 : Fld Z h0 a1 "com/example/spindle/spindle/SpinRule" "awaitsAnswer" "Z" (.int (1 : Int32))) (g_a1 : n0 ≤ a1)  (u0 : ¬ ((20000 : Int64) < x2))  :
    MetFree l (⟨"com/example/spindle/spindle/SpinRule", "spinNanos", "(J)J"⟩ : MethodName) (head1 (Jvm.Cond.code (⟨"com/example/spindle/spindle/SpinRule", "spinNanos", "(J)J"⟩ : MethodName) prog_40_method_3_code 3 (some .long) :: ws) ({ frames := 0, cells := 0, slots := 0, locals := 0 } : Room)) (fun a U => a = #[(.ref a1), (.long x2)] ∧ Z.Warmed39 U.vm ∧ U.heap = h0) (fun _ _ _ _ _ => True) (fun _ U o U' => ∃ v L, o = .returned v ∧ (Q3_31 Z a1 x2 h0 n0) v U'.heap L ∧ FrameEnd U o U' L 0 0) := by
  refine MetFree.of_bodySF (plainFor_of_name pn_com_example_spindle_spindle_SpinRule) hisR ?_
  intro p e s m args below meth c s₁ Bd hml0 hP hK
  obtain ⟨rfl, hZ, hh⟩ := hP
  have hx := Bd.exec
  have hby := Bd.bytes
  have hml : c.maxLocals = 3 := hml0
  have hown : s.vm.findClass "com/example/spindle/spindle/SpinRule" = some m.cls := findClass_of_methodNamed Bd.named
  have hnm := (name_of_methodNamed Bd.named Bd.method).1
  have X0 : Stand p l e ({ frames := 0, cells := 0, slots := 0, locals := 0 } : Room) s m #[(.ref a1), (.long x2)] below meth c s₁ [] 0 0 := Stand.of_body Bd
  have e0 : s₁.heap = h0 := by rw [← hh, Bd.state]; rfl
  have N0 := Fr.nil n0
  refine GoW.mk ?_
  refine GoW.st (fun t k => castTop (ef3_rm3_31 m a1 x2) k) ?_
  show GoW p e below s (Q3_31 Z a1 x2 h0 n0) 0 0 (s₁.setTop (mkF m 0 (Sh7 a1 x2) []))
  refine GoW.sg (mkF m 1 (Sh7 a1 x2) [(.ref a1)]) (fun t k => XS.aloadN X0.here hx rfl (hb hby d3_0) rfl rfl k) ?_
  refine GoW.sg (mkF m 2 (Sh7 a1 x2) [(.ref a1), (.ref a1)]) (fun t k => XS.aloadN X0.here hx rfl (hb hby d3_1) rfl rfl k) ?_
  obtain ⟨T285, X285, e285, st285⟩ := getF X0 hx hZ hown (host := "") (Or.inl (ww hw 16 rfl)) Via.refl e0 P2 (g := (mkF m 2 (Sh7 a1 x2) [(.ref a1), (.ref a1)])) rfl rfl (hb hby d3_2)
  refine GoW.sg (mkF m 5 (Sh7 a1 x2) [(.int 1), (.ref a1)]) (fun t k => st285 t k) ?_
  obtain ⟨T286, h286, X286, e286, W286, st286⟩ := putF X285 hx hZ hown (host := "") (Or.inl (ww hw 18 rfl)) Via.refl e285 P3 P0 (Or.inl (ww hw 19 rfl)) (ww hw 1 rfl) (ty := .boolean) (by decide) rfl rfl (g := (mkF m 5 (Sh7 a1 x2) [(.int 1), (.ref a1)])) rfl rfl (hb hby d3_5)
  have N286 := Fr.snoc X286 N0 g_a1
  have Exa_a1_286 : Exa Z h286 a1 "com/example/spindle/spindle/SpinRule" := P0.wr W286
  have Fld_a1_answeredShare_286 : Fld Z h286 a1 "com/example/spindle/spindle/SpinRule" "answeredShare" "D" (.double (4598410768185032704 : UInt64)) := P1.other W286 (Or.inr (slot_ne (t := .double) (t' := .boolean) (Or.inl (ww hw 10 rfl)) (Or.inl (ww hw 19 rfl)) (by decide) (by decide) (by decide)))
  have Fld_a1_handedOn_286 : Fld Z h286 a1 "com/example/spindle/spindle/SpinRule" "handedOn" "Z" (.int (1 : Int32)) := P2.other W286 (Or.inr (slot_ne (t := .boolean) (t' := .boolean) (Or.inl (ww hw 17 rfl)) (Or.inl (ww hw 19 rfl)) (by decide) (by decide) (by decide)))
  have Keep_286 : Keep h0 h286 [a1] := (Keep.refl h0 [a1]).wr W286 (Or.inl (List.mem_of_getElem? (i := 0) rfl))
  have Fld_a1_awaitsAnswer_286 : Fld Z h286 a1 "com/example/spindle/spindle/SpinRule" "awaitsAnswer" "Z" (.int (1 : Int32)) := P3.same W286
  refine GoW.sg (mkF m 8 (Sh7 a1 x2) []) (fun t k => st286 t k) ?_
  refine GoW.sg (mkF m 9 (Sh7 a1 x2) [(.ref a1)]) (fun t k => XS.aloadN X286.here hx rfl (hb hby d3_8) rfl rfl k) ?_
  refine GoW.sg (mkF m 10 (Sh7 a1 x2) [(.int 0), (.ref a1)]) (fun t k => XS.iconst X286.here hx rfl (hb hby d3_9) k) ?_
  obtain ⟨T287, h287, X287, e287, W287, st287⟩ := putF X286 hx hZ hown (host := "") (Or.inl (ww hw 16 rfl)) Via.refl e286 Fld_a1_handedOn_286 Exa_a1_286 (Or.inl (ww hw 17 rfl)) (ww hw 1 rfl) (ty := .boolean) (by decide) rfl rfl (g := (mkF m 10 (Sh7 a1 x2) [(.int 0), (.ref a1)])) rfl rfl (hb hby d3_10)
  have N287 := Fr.snoc X287 N286 g_a1
  have Exa_a1_287 : Exa Z h287 a1 "com/example/spindle/spindle/SpinRule" := Exa_a1_286.wr W287
  have Fld_a1_answeredShare_287 : Fld Z h287 a1 "com/example/spindle/spindle/SpinRule" "answeredShare" "D" (.double (4598410768185032704 : UInt64)) := Fld_a1_answeredShare_286.other W287 (Or.inr (slot_ne (t := .double) (t' := .boolean) (Or.inl (ww hw 10 rfl)) (Or.inl (ww hw 17 rfl)) (by decide) (by decide) (by decide)))
  have Fld_a1_awaitsAnswer_287 : Fld Z h287 a1 "com/example/spindle/spindle/SpinRule" "awaitsAnswer" "Z" (.int (1 : Int32)) := Fld_a1_awaitsAnswer_286.other W287 (Or.inr (slot_ne (t := .boolean) (t' := .boolean) (Or.inl (ww hw 19 rfl)) (Or.inl (ww hw 17 rfl)) (by decide) (by decide) (by decide)))
  have Keep_287 : Keep h0 h287 [a1] := Keep_286.wr W287 (Or.inl (List.mem_of_getElem? (i := 0) rfl))
  have Fld_a1_handedOn_287 : Fld Z h287 a1 "com/example/spindle/spindle/SpinRule" "handedOn" "Z" (.int (0 : Int32)) := Fld_a1_handedOn_286.same W287
  refine GoW.sg (mkF m 13 (Sh7 a1 x2) []) (fun t k => st287 t k) ?_
  refine GoW.sg (mkF m 14 (Sh7 a1 x2) [(.long x2)]) (fun t k => XS.lloadN X287.here hx rfl (hb hby d3_13) rfl k) ?_
  refine GoW.sg (mkF m 17 (Sh7 a1 x2) [(.long 20000), (.long x2)]) (fun t k => X287.ldc2Long hx hown (mvT hZ (ww hw 20 rfl)) (g := (mkF m 14 (Sh7 a1 x2) [(.long x2)])) rfl (hb hby d3_14) t k) ?_
  refine GoW.sg (mkF m 18 (Sh7 a1 x2) [(.int (lcmpW x2 (20000 : Int64)))]) (fun t k => XS.lcmp X287.here hx rfl (hb hby d3_17) rfl k) ?_
  refine GoW.sg (mkF m 21 (Sh7 a1 x2) []) (fun t k => XS.ifNo X287.here hx rfl (hb hby d3_18) rfl ((if0 _ _).trans (flt (mt (lw_gt _ _).mp u0)).2.2.1) k) ?_
  refine GoW.sg (mkF m 22 (Sh7 a1 x2) [(.long x2)]) (fun t k => XS.lloadN X287.here hx rfl (hb hby d3_21) rfl k) ?_
  refine GoW.retL X287 hx Bd.returns (hb hby d3_22) Bd.notSynchronized ?_ (by decide) (by decide)
  rw [e287]
  exact ⟨rfl, N287, Keep_287, Exa_a1_287, Fld_a1_answeredShare_287, Fld_a1_handedOn_287, Fld_a1_awaitsAnswer_287⟩
def Q7_32 (Z : State) (a1 : Addr) (h0 : Heap) (n0 : Nat) (v : Option Value) (h : Heap) (L : List Loc) : Prop := v = none ∧ Fr n0 L ∧ (Keep h0 h [a1]) ∧ (Exa Z h a1 "com/example/spindle/spindle/SpinRule") ∧ (Fld Z h a1 "com/example/spindle/spindle/SpinRule" "answeredShare" "D" (.double (4597461529758007296 : UInt64))) ∧ (Fld Z h a1 "com/example/spindle/spindle/SpinRule" "handedOn" "Z" (.int (0 : Int32))) ∧ (Fld Z h a1 "com/example/spindle/spindle/SpinRule" "awaitsAnswer" "Z" (.int (1 : Int32)))
theorem ef7_rm7_32 (m : MethodId) (a1 : Addr) : entryFrame m #[(.ref a1), (.int (1 : Int32)), (.int (0 : Int32)), (.long (0 : Int64))] 6 = (mkF m 0 #[.val (.ref a1), .val (.int 1), .val (.int 0), .val (.long 0), .second, .unset] []) := by first | (simp [entryFrame, mkF, argsToLocals, Value.category, maxLocals]; done) | rfl
set_option maxRecDepth 65536 in
set_option maxHeartbeats 40000000 in
theorem rm7_32 (l : Launch) (Z : State) (a0 : Array Value) (hw : ∀ d ∈ tables_1, d.before a0 Z = true) (ws : List Jvm.Cond) (a1 : Addr)  (h0 : Heap) (n0 : Nat) (P0 : Exa Z h0 a1 "com/example/spindle/spindle/SpinRule") (P1 : Fld Z h0 a1 "com/example/spindle/spindle/SpinRule" "answeredShare" "D" (.double (4598410768185032704 : UInt64))) (P2 : Fld Z h0 a1 "com/example/spindle/spindle/SpinRule" "handedOn" "Z" (.int (0 : Int32))) (P3 : Fld Z h0 a1 "com/example/spindle/spindle/SpinRule" "awaitsAnswer" "Z" (.int (1 : Int32))) (g_a1 : n0 ≤ a1)    :
    MetFree l (⟨"com/example/spindle/spindle/SpinRule", "countWait", "(ZZJ)V"⟩ : MethodName) (head1 (Jvm.Cond.code (⟨"com/example/spindle/spindle/SpinRule", "countWait", "(ZZJ)V"⟩ : MethodName) prog_40_method_5_code 6 none :: ws) ({ frames := 0, cells := 0, slots := 0, locals := 0 } : Room)) (fun a U => a = #[(.ref a1), (.int (1 : Int32)), (.int (0 : Int32)), (.long (0 : Int64))] ∧ Z.Warmed39 U.vm ∧ U.heap = h0) (fun _ _ _ _ _ => True) (fun _ U o U' => ∃ v L, o = .returned v ∧ (Q7_32 Z a1 h0 n0) v U'.heap L ∧ FrameEnd U o U' L 0 0) := by
  refine MetFree.of_bodySF (plainFor_of_name pn_com_example_spindle_spindle_SpinRule) hisR ?_
  intro p e s m args below meth c s₁ Bd hml0 hP hK
  obtain ⟨rfl, hZ, hh⟩ := hP
  have hx := Bd.exec
  have hby := Bd.bytes
  have hml : c.maxLocals = 6 := hml0
  have hown : s.vm.findClass "com/example/spindle/spindle/SpinRule" = some m.cls := findClass_of_methodNamed Bd.named
  have hnm := (name_of_methodNamed Bd.named Bd.method).1
  have X0 : Stand p l e ({ frames := 0, cells := 0, slots := 0, locals := 0 } : Room) s m #[(.ref a1), (.int (1 : Int32)), (.int (0 : Int32)), (.long (0 : Int64))] below meth c s₁ [] 0 0 := Stand.of_body Bd
  have e0 : s₁.heap = h0 := by rw [← hh, Bd.state]; rfl
  have N0 := Fr.nil n0
  refine GoW.mk ?_
  refine GoW.st (fun t k => castTop (ef7_rm7_32 m a1) k) ?_
  show GoW p e below s (Q7_32 Z a1 h0 n0) 0 0 (s₁.setTop (mkF m 0 (Sh12 a1 1 0 0) []))
  refine GoW.sg (mkF m 1 (Sh12 a1 1 0 0) [(.ref a1)]) (fun t k => XS.aloadN X0.here hx rfl (hb hby d7_0) rfl rfl k) ?_
  obtain ⟨T302, X302, e302, st302⟩ := getF X0 hx hZ hown (host := "") (Or.inl (ww hw 18 rfl)) Via.refl e0 P3 (g := (mkF m 1 (Sh12 a1 1 0 0) [(.ref a1)])) rfl rfl (hb hby d7_1)
  refine GoW.sg (mkF m 4 (Sh12 a1 1 0 0) [(.int 1)]) (fun t k => st302 t k) ?_
  refine GoW.sg (mkF m 7 (Sh12 a1 1 0 0) []) (fun t k => XS.ifNo X302.here hx rfl (hb hby d7_4) rfl (by decide) k) ?_
  refine GoW.sg (mkF m 8 (Sh12 a1 1 0 0) [(.int 1)]) (fun t k => XS.iloadN X302.here hx rfl (hb hby d7_7) rfl k) ?_
  refine GoW.sg (mkF m 20 (Sh12 a1 1 0 0) []) (fun t k => XS.ifYes X302.here hx rfl (pc0 := 8) (pc' := 20) rfl (hb hby d7_8) rfl (by decide) (by decide) (by decide) k) ?_
  refine GoW.sg (mkF m 21 (Sh12 a1 1 0 0) [(.int 1)]) (fun t k => XS.iloadN X302.here hx rfl (hb hby d7_20) rfl k) ?_
  refine GoW.sg (mkF m 24 (Sh12 a1 1 0 0) []) (fun t k => XS.ifNo X302.here hx rfl (hb hby d7_21) rfl (by decide) k) ?_
  refine GoW.sg (mkF m 25 (Sh12 a1 1 0 0) [(.int 0)]) (fun t k => XS.iloadN X302.here hx rfl (hb hby d7_24) rfl k) ?_
  refine GoW.sg (mkF m 40 (Sh12 a1 1 0 0) []) (fun t k => XS.ifYes X302.here hx rfl (pc0 := 25) (pc' := 40) rfl (hb hby d7_25) rfl (by decide) (by decide) (by decide) k) ?_
  refine GoW.sg (mkF m 41 (Sh12 a1 1 0 0) [(.int 0)]) (fun t k => XS.iconst X302.here hx rfl (hb hby d7_40) k) ?_
  refine GoW.sg (mkF m 43 (Sh13 a1 1 0 0 0) []) (fun t k => XS.istore X302.here hx rfl (hb hby d7_41) rfl (l' := (Sh13 a1 1 0 0 0)) rfl k) ?_
  refine GoW.sg (mkF m 44 (Sh13 a1 1 0 0 0) [(.ref a1)]) (fun t k => XS.aloadN X302.here hx rfl (hb hby d7_43) rfl rfl k) ?_
  refine GoW.sg (mkF m 45 (Sh13 a1 1 0 0 0) [(.ref a1), (.ref a1)]) (fun t k => XS.dup X302.here hx rfl (hb hby d7_44) rfl rfl k) ?_
  obtain ⟨T303, X303, e303, st303⟩ := getF X302 hx hZ hown (host := "") (Or.inl (ww hw 9 rfl)) Via.refl e302 P1 (g := (mkF m 45 (Sh13 a1 1 0 0 0) [(.ref a1), (.ref a1)])) rfl rfl (hb hby d7_45)
  refine GoW.sg (mkF m 48 (Sh13 a1 1 0 0 0) [(.double 4598410768185032704), (.ref a1)]) (fun t k => st303 t k) ?_
  refine GoW.sg (mkF m 50 (Sh13 a1 1 0 0 0) [(.int 0), (.double 4598410768185032704), (.ref a1)]) (fun t k => XS.iload X303.here hx rfl (hb hby d7_48) rfl k) ?_
  refine GoW.sg (mkF m 57 (Sh13 a1 1 0 0 0) [(.double 4598410768185032704), (.ref a1)]) (fun t k => XS.ifYes X303.here hx rfl (pc0 := 50) (pc' := 57) rfl (hb hby d7_50) rfl (by decide) (by decide) (by decide) k) ?_
  refine GoW.sg (mkF m 58 (Sh13 a1 1 0 0 0) [(.int 0), (.double 4598410768185032704), (.ref a1)]) (fun t k => XS.iconst X303.here hx rfl (hb hby d7_57) k) ?_
  refine GoW.sg (mkF m 59 (Sh13 a1 1 0 0 0) [(.double 0), (.double 4598410768185032704), (.ref a1)]) (fun t k => XS.i2dS X303.here hx rfl (hb hby d7_58) rfl (v := (0 : UInt64)) (by decide +kernel) k) ?_
  refine GoW.sg (mkF m 60 (Sh13 a1 1 0 0 0) [(.ref a1), (.double 0), (.double 4598410768185032704), (.ref a1)]) (fun t k => XS.aloadN X303.here hx rfl (hb hby d7_59) rfl rfl k) ?_
  obtain ⟨T304, X304, e304, st304⟩ := getF X303 hx hZ hown (host := "") (Or.inl (ww hw 9 rfl)) Via.refl e303 P1 (g := (mkF m 60 (Sh13 a1 1 0 0 0) [(.ref a1), (.double 0), (.double 4598410768185032704), (.ref a1)])) rfl rfl (hb hby d7_60)
  refine GoW.sg (mkF m 63 (Sh13 a1 1 0 0 0) [(.double 4598410768185032704), (.double 0), (.double 4598410768185032704), (.ref a1)]) (fun t k => st304 t k) ?_
  refine GoW.sg (mkF m 64 (Sh13 a1 1 0 0 0) [(.double 13821782805039808512), (.double 4598410768185032704), (.ref a1)]) (fun t k => XS.dsubS X304.here hx rfl (hb hby d7_63) rfl (v := (13821782805039808512 : UInt64)) (by decide +kernel) (by decide +kernel) k) ?_
  refine GoW.sg (mkF m 67 (Sh13 a1 1 0 0 0) [(.double 4593671619917905920), (.double 13821782805039808512), (.double 4598410768185032704), (.ref a1)]) (fun t k => X304.ldc2DoubleC hx hown (mvT hZ (ww hw 43 rfl)) (g := (mkF m 64 (Sh13 a1 1 0 0 0) [(.double 13821782805039808512), (.double 4598410768185032704), (.ref a1)])) rfl (hb hby d7_64) t k) ?_
  refine GoW.sg (mkF m 68 (Sh13 a1 1 0 0 0) [(.double 13808272006157697024), (.double 4598410768185032704), (.ref a1)]) (fun t k => XS.dmulS X304.here hx rfl (hb hby d7_67) rfl (v := (13808272006157697024 : UInt64)) (by decide +kernel) (by decide +kernel) k) ?_
  refine GoW.sg (mkF m 69 (Sh13 a1 1 0 0 0) [(.double 4597461529758007296), (.ref a1)]) (fun t k => XS.daddS X304.here hx rfl (hb hby d7_68) rfl (v := (4597461529758007296 : UInt64)) (by decide +kernel) (by decide +kernel) k) ?_
  obtain ⟨T305, h305, X305, e305, W305, st305⟩ := putF X304 hx hZ hown (host := "") (Or.inl (ww hw 9 rfl)) Via.refl e304 P1 P0 (Or.inl (ww hw 10 rfl)) (ww hw 1 rfl) (ty := .double) (by decide) rfl rfl (g := (mkF m 69 (Sh13 a1 1 0 0 0) [(.double 4597461529758007296), (.ref a1)])) rfl rfl (hb hby d7_69)
  have N305 := Fr.snoc X305 N0 g_a1
  have Exa_a1_305 : Exa Z h305 a1 "com/example/spindle/spindle/SpinRule" := P0.wr W305
  have Fld_a1_handedOn_305 : Fld Z h305 a1 "com/example/spindle/spindle/SpinRule" "handedOn" "Z" (.int (0 : Int32)) := P2.other W305 (Or.inr (slot_ne (t := .boolean) (t' := .double) (Or.inl (ww hw 17 rfl)) (Or.inl (ww hw 10 rfl)) (by decide) (by decide) (by decide)))
  have Fld_a1_awaitsAnswer_305 : Fld Z h305 a1 "com/example/spindle/spindle/SpinRule" "awaitsAnswer" "Z" (.int (1 : Int32)) := P3.other W305 (Or.inr (slot_ne (t := .boolean) (t' := .double) (Or.inl (ww hw 19 rfl)) (Or.inl (ww hw 10 rfl)) (by decide) (by decide) (by decide)))
  have Keep_305 : Keep h0 h305 [a1] := (Keep.refl h0 [a1]).wr W305 (Or.inl (List.mem_of_getElem? (i := 0) rfl))
  have Fld_a1_answeredShare_305 : Fld Z h305 a1 "com/example/spindle/spindle/SpinRule" "answeredShare" "D" (.double (4597461529758007296 : UInt64)) := P1.same W305
  refine GoW.sg (mkF m 72 (Sh13 a1 1 0 0 0) []) (fun t k => st305 t k) ?_
  refine GoW.retV X305 hx Bd.returns (hb hby d7_72) Bd.notSynchronized ?_ (by decide) (by decide)
  rw [e305]
  exact ⟨rfl, N305, Keep_305, Exa_a1_305, Fld_a1_answeredShare_305, Fld_a1_handedOn_305, Fld_a1_awaitsAnswer_305⟩
def Q3_33 (Z : State) (a1 : Addr) (x2 : Int64) (h0 : Heap) (n0 : Nat) (v : Option Value) (h : Heap) (L : List Loc) : Prop := v = some (.long (0 : Int64)) ∧ Fr n0 L ∧ (Keep h0 h [a1]) ∧ (Exa Z h a1 "com/example/spindle/spindle/SpinRule") ∧ (Fld Z h a1 "com/example/spindle/spindle/SpinRule" "answeredShare" "D" (.double (4597461529758007296 : UInt64))) ∧ (Fld Z h a1 "com/example/spindle/spindle/SpinRule" "handedOn" "Z" (.int (0 : Int32))) ∧ (Fld Z h a1 "com/example/spindle/spindle/SpinRule" "awaitsAnswer" "Z" (.int (0 : Int32)))
theorem ef3_rm3_33 (m : MethodId) (a1 : Addr) (x2 : Int64) : entryFrame m #[(.ref a1), (.long x2)] 3 = (mkF m 0 #[.val (.ref a1), .val (.long x2), .second] []) := by first | (simp [entryFrame, mkF, argsToLocals, Value.category, maxLocals]; done) | rfl
set_option maxRecDepth 65536 in
set_option maxHeartbeats 40000000 in
theorem rm3_33 (l : Launch) (Z : State) (a0 : Array Value) (hw : ∀ d ∈ tables_1, d.before a0 Z = true) (ws : List Jvm.Cond) (a1 : Addr) (x2 : Int64)  (h0 : Heap) (n0 : Nat) (P0 : Exa Z h0 a1 "com/example/spindle/spindle/SpinRule") (P1 : Fld Z h0 a1 "com/example/spindle/spindle/SpinRule" "answeredShare" "D" (.double (4597461529758007296 : UInt64))) (P2 : Fld Z h0 a1 "com/example/spindle/spindle/SpinRule" "handedOn" "Z" (.int (0 : Int32))) (P3 : Fld Z h0 a1 "com/example/spindle/spindle/SpinRule" "awaitsAnswer" "Z" (.int (1 : Int32))) (g_a1 : n0 ≤ a1)  (u0 : (20000 : Int64) < x2)  :
    MetFree l (⟨"com/example/spindle/spindle/SpinRule", "spinNanos", "(J)J"⟩ : MethodName) (head1 (Jvm.Cond.code (⟨"com/example/spindle/spindle/SpinRule", "spinNanos", "(J)J"⟩ : MethodName) prog_40_method_3_code 3 (some .long) :: ws) ({ frames := 0, cells := 0, slots := 0, locals := 0 } : Room)) (fun a U => a = #[(.ref a1), (.long x2)] ∧ Z.Warmed39 U.vm ∧ U.heap = h0) (fun _ _ _ _ _ => True) (fun _ U o U' => ∃ v L, o = .returned v ∧ (Q3_33 Z a1 x2 h0 n0) v U'.heap L ∧ FrameEnd U o U' L 0 0) := by
  refine MetFree.of_bodySF (plainFor_of_name pn_com_example_spindle_spindle_SpinRule) hisR ?_
  intro p e s m args below meth c s₁ Bd hml0 hP hK
  obtain ⟨rfl, hZ, hh⟩ := hP
  have hx := Bd.exec
  have hby := Bd.bytes
  have hml : c.maxLocals = 3 := hml0
  have hown : s.vm.findClass "com/example/spindle/spindle/SpinRule" = some m.cls := findClass_of_methodNamed Bd.named
  have hnm := (name_of_methodNamed Bd.named Bd.method).1
  have X0 : Stand p l e ({ frames := 0, cells := 0, slots := 0, locals := 0 } : Room) s m #[(.ref a1), (.long x2)] below meth c s₁ [] 0 0 := Stand.of_body Bd
  have e0 : s₁.heap = h0 := by rw [← hh, Bd.state]; rfl
  have N0 := Fr.nil n0
  refine GoW.mk ?_
  refine GoW.st (fun t k => castTop (ef3_rm3_33 m a1 x2) k) ?_
  show GoW p e below s (Q3_33 Z a1 x2 h0 n0) 0 0 (s₁.setTop (mkF m 0 (Sh7 a1 x2) []))
  refine GoW.sg (mkF m 1 (Sh7 a1 x2) [(.ref a1)]) (fun t k => XS.aloadN X0.here hx rfl (hb hby d3_0) rfl rfl k) ?_
  refine GoW.sg (mkF m 2 (Sh7 a1 x2) [(.ref a1), (.ref a1)]) (fun t k => XS.aloadN X0.here hx rfl (hb hby d3_1) rfl rfl k) ?_
  obtain ⟨T312, X312, e312, st312⟩ := getF X0 hx hZ hown (host := "") (Or.inl (ww hw 16 rfl)) Via.refl e0 P2 (g := (mkF m 2 (Sh7 a1 x2) [(.ref a1), (.ref a1)])) rfl rfl (hb hby d3_2)
  refine GoW.sg (mkF m 5 (Sh7 a1 x2) [(.int 0), (.ref a1)]) (fun t k => st312 t k) ?_
  obtain ⟨T313, h313, X313, e313, W313, st313⟩ := putF X312 hx hZ hown (host := "") (Or.inl (ww hw 18 rfl)) Via.refl e312 P3 P0 (Or.inl (ww hw 19 rfl)) (ww hw 1 rfl) (ty := .boolean) (by decide) rfl rfl (g := (mkF m 5 (Sh7 a1 x2) [(.int 0), (.ref a1)])) rfl rfl (hb hby d3_5)
  have N313 := Fr.snoc X313 N0 g_a1
  have Exa_a1_313 : Exa Z h313 a1 "com/example/spindle/spindle/SpinRule" := P0.wr W313
  have Fld_a1_answeredShare_313 : Fld Z h313 a1 "com/example/spindle/spindle/SpinRule" "answeredShare" "D" (.double (4597461529758007296 : UInt64)) := P1.other W313 (Or.inr (slot_ne (t := .double) (t' := .boolean) (Or.inl (ww hw 10 rfl)) (Or.inl (ww hw 19 rfl)) (by decide) (by decide) (by decide)))
  have Fld_a1_handedOn_313 : Fld Z h313 a1 "com/example/spindle/spindle/SpinRule" "handedOn" "Z" (.int (0 : Int32)) := P2.other W313 (Or.inr (slot_ne (t := .boolean) (t' := .boolean) (Or.inl (ww hw 17 rfl)) (Or.inl (ww hw 19 rfl)) (by decide) (by decide) (by decide)))
  have Keep_313 : Keep h0 h313 [a1] := (Keep.refl h0 [a1]).wr W313 (Or.inl (List.mem_of_getElem? (i := 0) rfl))
  have Fld_a1_awaitsAnswer_313 : Fld Z h313 a1 "com/example/spindle/spindle/SpinRule" "awaitsAnswer" "Z" (.int (0 : Int32)) := P3.same W313
  refine GoW.sg (mkF m 8 (Sh7 a1 x2) []) (fun t k => st313 t k) ?_
  refine GoW.sg (mkF m 9 (Sh7 a1 x2) [(.ref a1)]) (fun t k => XS.aloadN X313.here hx rfl (hb hby d3_8) rfl rfl k) ?_
  refine GoW.sg (mkF m 10 (Sh7 a1 x2) [(.int 0), (.ref a1)]) (fun t k => XS.iconst X313.here hx rfl (hb hby d3_9) k) ?_
  obtain ⟨T314, h314, X314, e314, W314, st314⟩ := putF X313 hx hZ hown (host := "") (Or.inl (ww hw 16 rfl)) Via.refl e313 Fld_a1_handedOn_313 Exa_a1_313 (Or.inl (ww hw 17 rfl)) (ww hw 1 rfl) (ty := .boolean) (by decide) rfl rfl (g := (mkF m 10 (Sh7 a1 x2) [(.int 0), (.ref a1)])) rfl rfl (hb hby d3_10)
  have N314 := Fr.snoc X314 N313 g_a1
  have Exa_a1_314 : Exa Z h314 a1 "com/example/spindle/spindle/SpinRule" := Exa_a1_313.wr W314
  have Fld_a1_answeredShare_314 : Fld Z h314 a1 "com/example/spindle/spindle/SpinRule" "answeredShare" "D" (.double (4597461529758007296 : UInt64)) := Fld_a1_answeredShare_313.other W314 (Or.inr (slot_ne (t := .double) (t' := .boolean) (Or.inl (ww hw 10 rfl)) (Or.inl (ww hw 17 rfl)) (by decide) (by decide) (by decide)))
  have Fld_a1_awaitsAnswer_314 : Fld Z h314 a1 "com/example/spindle/spindle/SpinRule" "awaitsAnswer" "Z" (.int (0 : Int32)) := Fld_a1_awaitsAnswer_313.other W314 (Or.inr (slot_ne (t := .boolean) (t' := .boolean) (Or.inl (ww hw 19 rfl)) (Or.inl (ww hw 17 rfl)) (by decide) (by decide) (by decide)))
  have Keep_314 : Keep h0 h314 [a1] := Keep_313.wr W314 (Or.inl (List.mem_of_getElem? (i := 0) rfl))
  have Fld_a1_handedOn_314 : Fld Z h314 a1 "com/example/spindle/spindle/SpinRule" "handedOn" "Z" (.int (0 : Int32)) := Fld_a1_handedOn_313.same W314
  refine GoW.sg (mkF m 13 (Sh7 a1 x2) []) (fun t k => st314 t k) ?_
  refine GoW.sg (mkF m 14 (Sh7 a1 x2) [(.long x2)]) (fun t k => XS.lloadN X314.here hx rfl (hb hby d3_13) rfl k) ?_
  refine GoW.sg (mkF m 17 (Sh7 a1 x2) [(.long 20000), (.long x2)]) (fun t k => X314.ldc2Long hx hown (mvT hZ (ww hw 20 rfl)) (g := (mkF m 14 (Sh7 a1 x2) [(.long x2)])) rfl (hb hby d3_14) t k) ?_
  refine GoW.sg (mkF m 18 (Sh7 a1 x2) [(.int (lcmpW x2 (20000 : Int64)))]) (fun t k => XS.lcmp X314.here hx rfl (hb hby d3_17) rfl k) ?_
  refine GoW.sg (mkF m 23 (Sh7 a1 x2) []) (fun t k => XS.ifYes X314.here hx rfl (pc0 := 18) (pc' := 23) rfl (hb hby d3_18) rfl ((if0 _ _).trans (tlt ((lw_gt _ _).mpr u0)).2.2.1) (by decide) (by decide) k) ?_
  refine GoW.sg (mkF m 24 (Sh7 a1 x2) [(.ref a1)]) (fun t k => XS.aloadN X314.here hx rfl (hb hby d3_23) rfl rfl k) ?_
  obtain ⟨T315, X315, e315, st315⟩ := getF X314 hx hZ hown (host := "") (Or.inl (ww hw 18 rfl)) Via.refl e314 Fld_a1_awaitsAnswer_314 (g := (mkF m 24 (Sh7 a1 x2) [(.ref a1)])) rfl rfl (hb hby d3_24)
  refine GoW.sg (mkF m 27 (Sh7 a1 x2) [(.int 0)]) (fun t k => st315 t k) ?_
  refine GoW.sg (mkF m 47 (Sh7 a1 x2) []) (fun t k => XS.ifYes X315.here hx rfl (pc0 := 27) (pc' := 47) rfl (hb hby d3_27) rfl (by decide) (by decide) (by decide) k) ?_
  refine GoW.sg (mkF m 48 (Sh7 a1 x2) [(.long 0)]) (fun t k => XS.lconst X315.here hx rfl (hb hby d3_47) k) ?_
  refine GoW.retL X315 hx Bd.returns (hb hby d3_48) Bd.notSynchronized ?_ (by decide) (by decide)
  rw [e315]
  exact ⟨rfl, N314, Keep_314, Exa_a1_314, Fld_a1_answeredShare_314, Fld_a1_handedOn_314, Fld_a1_awaitsAnswer_314⟩
def Q4_34 (Z : State) (a1 : Addr) (h0 : Heap) (n0 : Nat) (v : Option Value) (h : Heap) (L : List Loc) : Prop := v = some (.int (0 : Int32)) ∧ Fr n0 L ∧ (h = h0)
theorem ef4_rm4_34 (m : MethodId) (a1 : Addr) : entryFrame m #[(.ref a1), (.long (0 : Int64))] 3 = (mkF m 0 #[.val (.ref a1), .val (.long 0), .second] []) := by first | (simp [entryFrame, mkF, argsToLocals, Value.category, maxLocals]; done) | rfl
set_option maxRecDepth 65536 in
set_option maxHeartbeats 40000000 in
theorem rm4_34 (l : Launch) (Z : State) (a0 : Array Value) (hw : ∀ d ∈ tables_1, d.before a0 Z = true) (ws : List Jvm.Cond) (a1 : Addr)  (h0 : Heap) (n0 : Nat) (P0 : Exa Z h0 a1 "com/example/spindle/spindle/SpinRule") (P1 : Fld Z h0 a1 "com/example/spindle/spindle/SpinRule" "answeredShare" "D" (.double (4597461529758007296 : UInt64))) (P2 : Fld Z h0 a1 "com/example/spindle/spindle/SpinRule" "handedOn" "Z" (.int (0 : Int32))) (P3 : Fld Z h0 a1 "com/example/spindle/spindle/SpinRule" "awaitsAnswer" "Z" (.int (0 : Int32)))     :
    MetFree l (⟨"com/example/spindle/spindle/SpinRule", "timesWait", "(J)Z"⟩ : MethodName) (head1 (Jvm.Cond.code (⟨"com/example/spindle/spindle/SpinRule", "timesWait", "(J)Z"⟩ : MethodName) prog_40_method_4_code 3 (some .boolean) :: ws) ({ frames := 0, cells := 0, slots := 0, locals := 0 } : Room)) (fun a U => a = #[(.ref a1), (.long (0 : Int64))] ∧ Z.Warmed39 U.vm ∧ U.heap = h0) (fun _ _ _ _ _ => True) (fun _ U o U' => ∃ v L, o = .returned v ∧ (Q4_34 Z a1 h0 n0) v U'.heap L ∧ FrameEnd U o U' L 0 0) := by
  refine MetFree.of_bodySF (plainFor_of_name pn_com_example_spindle_spindle_SpinRule) hisR ?_
  intro p e s m args below meth c s₁ Bd hml0 hP hK
  obtain ⟨rfl, hZ, hh⟩ := hP
  have hx := Bd.exec
  have hby := Bd.bytes
  have hml : c.maxLocals = 3 := hml0
  have hown : s.vm.findClass "com/example/spindle/spindle/SpinRule" = some m.cls := findClass_of_methodNamed Bd.named
  have hnm := (name_of_methodNamed Bd.named Bd.method).1
  have X0 : Stand p l e ({ frames := 0, cells := 0, slots := 0, locals := 0 } : Room) s m #[(.ref a1), (.long (0 : Int64))] below meth c s₁ [] 0 0 := Stand.of_body Bd
  have e0 : s₁.heap = h0 := by rw [← hh, Bd.state]; rfl
  have N0 := Fr.nil n0
  refine GoW.mk ?_
  refine GoW.st (fun t k => castTop (ef4_rm4_34 m a1) k) ?_
  show GoW p e below s (Q4_34 Z a1 h0 n0) 0 0 (s₁.setTop (mkF m 0 (Sh7 a1 0) []))
  refine GoW.sg (mkF m 1 (Sh7 a1 0) [(.long 0)]) (fun t k => XS.lloadN X0.here hx rfl (hb hby d4_0) rfl k) ?_
  refine GoW.sg (mkF m 2 (Sh7 a1 0) [(.long 0), (.long 0)]) (fun t k => XS.lconst X0.here hx rfl (hb hby d4_1) k) ?_
  refine GoW.sg (mkF m 3 (Sh7 a1 0) [(.int (lcmpW (0 : Int64) (0 : Int64)))]) (fun t k => XS.lcmp X0.here hx rfl (hb hby d4_2) rfl k) ?_
  refine GoW.sg (mkF m 6 (Sh7 a1 0) []) (fun t k => XS.ifNo X0.here hx rfl (hb hby d4_3) rfl (by decide) k) ?_
  refine GoW.sg (mkF m 7 (Sh7 a1 0) [(.ref a1)]) (fun t k => XS.aloadN X0.here hx rfl (hb hby d4_6) rfl rfl k) ?_
  obtain ⟨T318, X318, e318, st318⟩ := getF X0 hx hZ hown (host := "") (Or.inl (ww hw 18 rfl)) Via.refl e0 P3 (g := (mkF m 7 (Sh7 a1 0) [(.ref a1)])) rfl rfl (hb hby d4_7)
  refine GoW.sg (mkF m 10 (Sh7 a1 0) [(.int 0)]) (fun t k => st318 t k) ?_
  refine GoW.sg (mkF m 17 (Sh7 a1 0) []) (fun t k => XS.ifYes X318.here hx rfl (pc0 := 10) (pc' := 17) rfl (hb hby d4_10) rfl (by decide) (by decide) (by decide) k) ?_
  refine GoW.sg (mkF m 18 (Sh7 a1 0) [(.int 0)]) (fun t k => XS.iconst X318.here hx rfl (hb hby d4_17) k) ?_
  refine GoW.retN X318 hx (t := .boolean) Bd.returns (by simp) (hb hby d4_18) Bd.notSynchronized ?_ (by decide) (by decide)
  rw [e318]
  exact ⟨rfl, N0, rfl⟩
def Q3_35 (Z : State) (a1 : Addr) (x2 : Int64) (h0 : Heap) (n0 : Nat) (v : Option Value) (h : Heap) (L : List Loc) : Prop := v = some (.long (0 : Int64)) ∧ Fr n0 L ∧ (Keep h0 h [a1]) ∧ (Exa Z h a1 "com/example/spindle/spindle/SpinRule") ∧ (Fld Z h a1 "com/example/spindle/spindle/SpinRule" "answeredShare" "D" (.double (4597461529758007296 : UInt64))) ∧ (Fld Z h a1 "com/example/spindle/spindle/SpinRule" "handedOn" "Z" (.int (0 : Int32))) ∧ (Fld Z h a1 "com/example/spindle/spindle/SpinRule" "awaitsAnswer" "Z" (.int (0 : Int32)))
theorem ef3_rm3_35 (m : MethodId) (a1 : Addr) (x2 : Int64) : entryFrame m #[(.ref a1), (.long x2)] 3 = (mkF m 0 #[.val (.ref a1), .val (.long x2), .second] []) := by first | (simp [entryFrame, mkF, argsToLocals, Value.category, maxLocals]; done) | rfl
set_option maxRecDepth 65536 in
set_option maxHeartbeats 40000000 in
theorem rm3_35 (l : Launch) (Z : State) (a0 : Array Value) (hw : ∀ d ∈ tables_1, d.before a0 Z = true) (ws : List Jvm.Cond) (a1 : Addr) (x2 : Int64)  (h0 : Heap) (n0 : Nat) (P0 : Exa Z h0 a1 "com/example/spindle/spindle/SpinRule") (P1 : Fld Z h0 a1 "com/example/spindle/spindle/SpinRule" "answeredShare" "D" (.double (4597461529758007296 : UInt64))) (P2 : Fld Z h0 a1 "com/example/spindle/spindle/SpinRule" "handedOn" "Z" (.int (0 : Int32))) (P3 : Fld Z h0 a1 "com/example/spindle/spindle/SpinRule" "awaitsAnswer" "Z" (.int (0 : Int32))) (g_a1 : n0 ≤ a1)  (u0 : (20000 : Int64) < x2)  :
    MetFree l (⟨"com/example/spindle/spindle/SpinRule", "spinNanos", "(J)J"⟩ : MethodName) (head1 (Jvm.Cond.code (⟨"com/example/spindle/spindle/SpinRule", "spinNanos", "(J)J"⟩ : MethodName) prog_40_method_3_code 3 (some .long) :: ws) ({ frames := 0, cells := 0, slots := 0, locals := 0 } : Room)) (fun a U => a = #[(.ref a1), (.long x2)] ∧ Z.Warmed39 U.vm ∧ U.heap = h0) (fun _ _ _ _ _ => True) (fun _ U o U' => ∃ v L, o = .returned v ∧ (Q3_35 Z a1 x2 h0 n0) v U'.heap L ∧ FrameEnd U o U' L 0 0) := by
  refine MetFree.of_bodySF (plainFor_of_name pn_com_example_spindle_spindle_SpinRule) hisR ?_
  intro p e s m args below meth c s₁ Bd hml0 hP hK
  obtain ⟨rfl, hZ, hh⟩ := hP
  have hx := Bd.exec
  have hby := Bd.bytes
  have hml : c.maxLocals = 3 := hml0
  have hown : s.vm.findClass "com/example/spindle/spindle/SpinRule" = some m.cls := findClass_of_methodNamed Bd.named
  have hnm := (name_of_methodNamed Bd.named Bd.method).1
  have X0 : Stand p l e ({ frames := 0, cells := 0, slots := 0, locals := 0 } : Room) s m #[(.ref a1), (.long x2)] below meth c s₁ [] 0 0 := Stand.of_body Bd
  have e0 : s₁.heap = h0 := by rw [← hh, Bd.state]; rfl
  have N0 := Fr.nil n0
  refine GoW.mk ?_
  refine GoW.st (fun t k => castTop (ef3_rm3_35 m a1 x2) k) ?_
  show GoW p e below s (Q3_35 Z a1 x2 h0 n0) 0 0 (s₁.setTop (mkF m 0 (Sh7 a1 x2) []))
  refine GoW.sg (mkF m 1 (Sh7 a1 x2) [(.ref a1)]) (fun t k => XS.aloadN X0.here hx rfl (hb hby d3_0) rfl rfl k) ?_
  refine GoW.sg (mkF m 2 (Sh7 a1 x2) [(.ref a1), (.ref a1)]) (fun t k => XS.aloadN X0.here hx rfl (hb hby d3_1) rfl rfl k) ?_
  obtain ⟨T325, X325, e325, st325⟩ := getF X0 hx hZ hown (host := "") (Or.inl (ww hw 16 rfl)) Via.refl e0 P2 (g := (mkF m 2 (Sh7 a1 x2) [(.ref a1), (.ref a1)])) rfl rfl (hb hby d3_2)
  refine GoW.sg (mkF m 5 (Sh7 a1 x2) [(.int 0), (.ref a1)]) (fun t k => st325 t k) ?_
  obtain ⟨T326, h326, X326, e326, W326, st326⟩ := putF X325 hx hZ hown (host := "") (Or.inl (ww hw 18 rfl)) Via.refl e325 P3 P0 (Or.inl (ww hw 19 rfl)) (ww hw 1 rfl) (ty := .boolean) (by decide) rfl rfl (g := (mkF m 5 (Sh7 a1 x2) [(.int 0), (.ref a1)])) rfl rfl (hb hby d3_5)
  have N326 := Fr.snoc X326 N0 g_a1
  have Exa_a1_326 : Exa Z h326 a1 "com/example/spindle/spindle/SpinRule" := P0.wr W326
  have Fld_a1_answeredShare_326 : Fld Z h326 a1 "com/example/spindle/spindle/SpinRule" "answeredShare" "D" (.double (4597461529758007296 : UInt64)) := P1.other W326 (Or.inr (slot_ne (t := .double) (t' := .boolean) (Or.inl (ww hw 10 rfl)) (Or.inl (ww hw 19 rfl)) (by decide) (by decide) (by decide)))
  have Fld_a1_handedOn_326 : Fld Z h326 a1 "com/example/spindle/spindle/SpinRule" "handedOn" "Z" (.int (0 : Int32)) := P2.other W326 (Or.inr (slot_ne (t := .boolean) (t' := .boolean) (Or.inl (ww hw 17 rfl)) (Or.inl (ww hw 19 rfl)) (by decide) (by decide) (by decide)))
  have Keep_326 : Keep h0 h326 [a1] := (Keep.refl h0 [a1]).wr W326 (Or.inl (List.mem_of_getElem? (i := 0) rfl))
  have Fld_a1_awaitsAnswer_326 : Fld Z h326 a1 "com/example/spindle/spindle/SpinRule" "awaitsAnswer" "Z" (.int (0 : Int32)) := P3.same W326
  refine GoW.sg (mkF m 8 (Sh7 a1 x2) []) (fun t k => st326 t k) ?_
  refine GoW.sg (mkF m 9 (Sh7 a1 x2) [(.ref a1)]) (fun t k => XS.aloadN X326.here hx rfl (hb hby d3_8) rfl rfl k) ?_
  refine GoW.sg (mkF m 10 (Sh7 a1 x2) [(.int 0), (.ref a1)]) (fun t k => XS.iconst X326.here hx rfl (hb hby d3_9) k) ?_
  obtain ⟨T327, h327, X327, e327, W327, st327⟩ := putF X326 hx hZ hown (host := "") (Or.inl (ww hw 16 rfl)) Via.refl e326 Fld_a1_handedOn_326 Exa_a1_326 (Or.inl (ww hw 17 rfl)) (ww hw 1 rfl) (ty := .boolean) (by decide) rfl rfl (g := (mkF m 10 (Sh7 a1 x2) [(.int 0), (.ref a1)])) rfl rfl (hb hby d3_10)
  have N327 := Fr.snoc X327 N326 g_a1
  have Exa_a1_327 : Exa Z h327 a1 "com/example/spindle/spindle/SpinRule" := Exa_a1_326.wr W327
  have Fld_a1_answeredShare_327 : Fld Z h327 a1 "com/example/spindle/spindle/SpinRule" "answeredShare" "D" (.double (4597461529758007296 : UInt64)) := Fld_a1_answeredShare_326.other W327 (Or.inr (slot_ne (t := .double) (t' := .boolean) (Or.inl (ww hw 10 rfl)) (Or.inl (ww hw 17 rfl)) (by decide) (by decide) (by decide)))
  have Fld_a1_awaitsAnswer_327 : Fld Z h327 a1 "com/example/spindle/spindle/SpinRule" "awaitsAnswer" "Z" (.int (0 : Int32)) := Fld_a1_awaitsAnswer_326.other W327 (Or.inr (slot_ne (t := .boolean) (t' := .boolean) (Or.inl (ww hw 19 rfl)) (Or.inl (ww hw 17 rfl)) (by decide) (by decide) (by decide)))
  have Keep_327 : Keep h0 h327 [a1] := Keep_326.wr W327 (Or.inl (List.mem_of_getElem? (i := 0) rfl))
  have Fld_a1_handedOn_327 : Fld Z h327 a1 "com/example/spindle/spindle/SpinRule" "handedOn" "Z" (.int (0 : Int32)) := Fld_a1_handedOn_326.same W327
  refine GoW.sg (mkF m 13 (Sh7 a1 x2) []) (fun t k => st327 t k) ?_
  refine GoW.sg (mkF m 14 (Sh7 a1 x2) [(.long x2)]) (fun t k => XS.lloadN X327.here hx rfl (hb hby d3_13) rfl k) ?_
  refine GoW.sg (mkF m 17 (Sh7 a1 x2) [(.long 20000), (.long x2)]) (fun t k => X327.ldc2Long hx hown (mvT hZ (ww hw 20 rfl)) (g := (mkF m 14 (Sh7 a1 x2) [(.long x2)])) rfl (hb hby d3_14) t k) ?_
  refine GoW.sg (mkF m 18 (Sh7 a1 x2) [(.int (lcmpW x2 (20000 : Int64)))]) (fun t k => XS.lcmp X327.here hx rfl (hb hby d3_17) rfl k) ?_
  refine GoW.sg (mkF m 23 (Sh7 a1 x2) []) (fun t k => XS.ifYes X327.here hx rfl (pc0 := 18) (pc' := 23) rfl (hb hby d3_18) rfl ((if0 _ _).trans (tlt ((lw_gt _ _).mpr u0)).2.2.1) (by decide) (by decide) k) ?_
  refine GoW.sg (mkF m 24 (Sh7 a1 x2) [(.ref a1)]) (fun t k => XS.aloadN X327.here hx rfl (hb hby d3_23) rfl rfl k) ?_
  obtain ⟨T328, X328, e328, st328⟩ := getF X327 hx hZ hown (host := "") (Or.inl (ww hw 18 rfl)) Via.refl e327 Fld_a1_awaitsAnswer_327 (g := (mkF m 24 (Sh7 a1 x2) [(.ref a1)])) rfl rfl (hb hby d3_24)
  refine GoW.sg (mkF m 27 (Sh7 a1 x2) [(.int 0)]) (fun t k => st328 t k) ?_
  refine GoW.sg (mkF m 47 (Sh7 a1 x2) []) (fun t k => XS.ifYes X328.here hx rfl (pc0 := 27) (pc' := 47) rfl (hb hby d3_27) rfl (by decide) (by decide) (by decide) k) ?_
  refine GoW.sg (mkF m 48 (Sh7 a1 x2) [(.long 0)]) (fun t k => XS.lconst X328.here hx rfl (hb hby d3_47) k) ?_
  refine GoW.retL X328 hx Bd.returns (hb hby d3_48) Bd.notSynchronized ?_ (by decide) (by decide)
  rw [e328]
  exact ⟨rfl, N327, Keep_327, Exa_a1_327, Fld_a1_answeredShare_327, Fld_a1_handedOn_327, Fld_a1_awaitsAnswer_327⟩
def Q3_36 (Z : State) (a1 : Addr) (x2 : Int64) (h0 : Heap) (n0 : Nat) (v : Option Value) (h : Heap) (L : List Loc) : Prop := v = some (.long x2) ∧ Fr n0 L ∧ (Keep h0 h [a1]) ∧ (Exa Z h a1 "com/example/spindle/spindle/SpinRule") ∧ (Fld Z h a1 "com/example/spindle/spindle/SpinRule" "answeredShare" "D" (.double (4597461529758007296 : UInt64))) ∧ (Fld Z h a1 "com/example/spindle/spindle/SpinRule" "handedOn" "Z" (.int (0 : Int32))) ∧ (Fld Z h a1 "com/example/spindle/spindle/SpinRule" "awaitsAnswer" "Z" (.int (0 : Int32)))
theorem ef3_rm3_36 (m : MethodId) (a1 : Addr) (x2 : Int64) : entryFrame m #[(.ref a1), (.long x2)] 3 = (mkF m 0 #[.val (.ref a1), .val (.long x2), .second] []) := by first | (simp [entryFrame, mkF, argsToLocals, Value.category, maxLocals]; done) | rfl
set_option maxRecDepth 65536 in
set_option maxHeartbeats 40000000 in
theorem rm3_36 (l : Launch) (Z : State) (a0 : Array Value) (hw : ∀ d ∈ tables_1, d.before a0 Z = true) (ws : List Jvm.Cond) (a1 : Addr) (x2 : Int64)  (h0 : Heap) (n0 : Nat) (P0 : Exa Z h0 a1 "com/example/spindle/spindle/SpinRule") (P1 : Fld Z h0 a1 "com/example/spindle/spindle/SpinRule" "answeredShare" "D" (.double (4597461529758007296 : UInt64))) (P2 : Fld Z h0 a1 "com/example/spindle/spindle/SpinRule" "handedOn" "Z" (.int (0 : Int32))) (P3 : Fld Z h0 a1 "com/example/spindle/spindle/SpinRule" "awaitsAnswer" "Z" (.int (0 : Int32))) (g_a1 : n0 ≤ a1)  (u0 : ¬ ((20000 : Int64) < x2))  :
    MetFree l (⟨"com/example/spindle/spindle/SpinRule", "spinNanos", "(J)J"⟩ : MethodName) (head1 (Jvm.Cond.code (⟨"com/example/spindle/spindle/SpinRule", "spinNanos", "(J)J"⟩ : MethodName) prog_40_method_3_code 3 (some .long) :: ws) ({ frames := 0, cells := 0, slots := 0, locals := 0 } : Room)) (fun a U => a = #[(.ref a1), (.long x2)] ∧ Z.Warmed39 U.vm ∧ U.heap = h0) (fun _ _ _ _ _ => True) (fun _ U o U' => ∃ v L, o = .returned v ∧ (Q3_36 Z a1 x2 h0 n0) v U'.heap L ∧ FrameEnd U o U' L 0 0) := by
  refine MetFree.of_bodySF (plainFor_of_name pn_com_example_spindle_spindle_SpinRule) hisR ?_
  intro p e s m args below meth c s₁ Bd hml0 hP hK
  obtain ⟨rfl, hZ, hh⟩ := hP
  have hx := Bd.exec
  have hby := Bd.bytes
  have hml : c.maxLocals = 3 := hml0
  have hown : s.vm.findClass "com/example/spindle/spindle/SpinRule" = some m.cls := findClass_of_methodNamed Bd.named
  have hnm := (name_of_methodNamed Bd.named Bd.method).1
  have X0 : Stand p l e ({ frames := 0, cells := 0, slots := 0, locals := 0 } : Room) s m #[(.ref a1), (.long x2)] below meth c s₁ [] 0 0 := Stand.of_body Bd
  have e0 : s₁.heap = h0 := by rw [← hh, Bd.state]; rfl
  have N0 := Fr.nil n0
  refine GoW.mk ?_
  refine GoW.st (fun t k => castTop (ef3_rm3_36 m a1 x2) k) ?_
  show GoW p e below s (Q3_36 Z a1 x2 h0 n0) 0 0 (s₁.setTop (mkF m 0 (Sh7 a1 x2) []))
  refine GoW.sg (mkF m 1 (Sh7 a1 x2) [(.ref a1)]) (fun t k => XS.aloadN X0.here hx rfl (hb hby d3_0) rfl rfl k) ?_
  refine GoW.sg (mkF m 2 (Sh7 a1 x2) [(.ref a1), (.ref a1)]) (fun t k => XS.aloadN X0.here hx rfl (hb hby d3_1) rfl rfl k) ?_
  obtain ⟨T334, X334, e334, st334⟩ := getF X0 hx hZ hown (host := "") (Or.inl (ww hw 16 rfl)) Via.refl e0 P2 (g := (mkF m 2 (Sh7 a1 x2) [(.ref a1), (.ref a1)])) rfl rfl (hb hby d3_2)
  refine GoW.sg (mkF m 5 (Sh7 a1 x2) [(.int 0), (.ref a1)]) (fun t k => st334 t k) ?_
  obtain ⟨T335, h335, X335, e335, W335, st335⟩ := putF X334 hx hZ hown (host := "") (Or.inl (ww hw 18 rfl)) Via.refl e334 P3 P0 (Or.inl (ww hw 19 rfl)) (ww hw 1 rfl) (ty := .boolean) (by decide) rfl rfl (g := (mkF m 5 (Sh7 a1 x2) [(.int 0), (.ref a1)])) rfl rfl (hb hby d3_5)
  have N335 := Fr.snoc X335 N0 g_a1
  have Exa_a1_335 : Exa Z h335 a1 "com/example/spindle/spindle/SpinRule" := P0.wr W335
  have Fld_a1_answeredShare_335 : Fld Z h335 a1 "com/example/spindle/spindle/SpinRule" "answeredShare" "D" (.double (4597461529758007296 : UInt64)) := P1.other W335 (Or.inr (slot_ne (t := .double) (t' := .boolean) (Or.inl (ww hw 10 rfl)) (Or.inl (ww hw 19 rfl)) (by decide) (by decide) (by decide)))
  have Fld_a1_handedOn_335 : Fld Z h335 a1 "com/example/spindle/spindle/SpinRule" "handedOn" "Z" (.int (0 : Int32)) := P2.other W335 (Or.inr (slot_ne (t := .boolean) (t' := .boolean) (Or.inl (ww hw 17 rfl)) (Or.inl (ww hw 19 rfl)) (by decide) (by decide) (by decide)))
  have Keep_335 : Keep h0 h335 [a1] := (Keep.refl h0 [a1]).wr W335 (Or.inl (List.mem_of_getElem? (i := 0) rfl))
  have Fld_a1_awaitsAnswer_335 : Fld Z h335 a1 "com/example/spindle/spindle/SpinRule" "awaitsAnswer" "Z" (.int (0 : Int32)) := P3.same W335
  refine GoW.sg (mkF m 8 (Sh7 a1 x2) []) (fun t k => st335 t k) ?_
  refine GoW.sg (mkF m 9 (Sh7 a1 x2) [(.ref a1)]) (fun t k => XS.aloadN X335.here hx rfl (hb hby d3_8) rfl rfl k) ?_
  refine GoW.sg (mkF m 10 (Sh7 a1 x2) [(.int 0), (.ref a1)]) (fun t k => XS.iconst X335.here hx rfl (hb hby d3_9) k) ?_
  obtain ⟨T336, h336, X336, e336, W336, st336⟩ := putF X335 hx hZ hown (host := "") (Or.inl (ww hw 16 rfl)) Via.refl e335 Fld_a1_handedOn_335 Exa_a1_335 (Or.inl (ww hw 17 rfl)) (ww hw 1 rfl) (ty := .boolean) (by decide) rfl rfl (g := (mkF m 10 (Sh7 a1 x2) [(.int 0), (.ref a1)])) rfl rfl (hb hby d3_10)
  have N336 := Fr.snoc X336 N335 g_a1
  have Exa_a1_336 : Exa Z h336 a1 "com/example/spindle/spindle/SpinRule" := Exa_a1_335.wr W336
  have Fld_a1_answeredShare_336 : Fld Z h336 a1 "com/example/spindle/spindle/SpinRule" "answeredShare" "D" (.double (4597461529758007296 : UInt64)) := Fld_a1_answeredShare_335.other W336 (Or.inr (slot_ne (t := .double) (t' := .boolean) (Or.inl (ww hw 10 rfl)) (Or.inl (ww hw 17 rfl)) (by decide) (by decide) (by decide)))
  have Fld_a1_awaitsAnswer_336 : Fld Z h336 a1 "com/example/spindle/spindle/SpinRule" "awaitsAnswer" "Z" (.int (0 : Int32)) := Fld_a1_awaitsAnswer_335.other W336 (Or.inr (slot_ne (t := .boolean) (t' := .boolean) (Or.inl (ww hw 19 rfl)) (Or.inl (ww hw 17 rfl)) (by decide) (by decide) (by decide)))
  have Keep_336 : Keep h0 h336 [a1] := Keep_335.wr W336 (Or.inl (List.mem_of_getElem? (i := 0) rfl))
  have Fld_a1_handedOn_336 : Fld Z h336 a1 "com/example/spindle/spindle/SpinRule" "handedOn" "Z" (.int (0 : Int32)) := Fld_a1_handedOn_335.same W336
  refine GoW.sg (mkF m 13 (Sh7 a1 x2) []) (fun t k => st336 t k) ?_
  refine GoW.sg (mkF m 14 (Sh7 a1 x2) [(.long x2)]) (fun t k => XS.lloadN X336.here hx rfl (hb hby d3_13) rfl k) ?_
  refine GoW.sg (mkF m 17 (Sh7 a1 x2) [(.long 20000), (.long x2)]) (fun t k => X336.ldc2Long hx hown (mvT hZ (ww hw 20 rfl)) (g := (mkF m 14 (Sh7 a1 x2) [(.long x2)])) rfl (hb hby d3_14) t k) ?_
  refine GoW.sg (mkF m 18 (Sh7 a1 x2) [(.int (lcmpW x2 (20000 : Int64)))]) (fun t k => XS.lcmp X336.here hx rfl (hb hby d3_17) rfl k) ?_
  refine GoW.sg (mkF m 21 (Sh7 a1 x2) []) (fun t k => XS.ifNo X336.here hx rfl (hb hby d3_18) rfl ((if0 _ _).trans (flt (mt (lw_gt _ _).mp u0)).2.2.1) k) ?_
  refine GoW.sg (mkF m 22 (Sh7 a1 x2) [(.long x2)]) (fun t k => XS.lloadN X336.here hx rfl (hb hby d3_21) rfl k) ?_
  refine GoW.retL X336 hx Bd.returns (hb hby d3_22) Bd.notSynchronized ?_ (by decide) (by decide)
  rw [e336]
  exact ⟨rfl, N336, Keep_336, Exa_a1_336, Fld_a1_answeredShare_336, Fld_a1_handedOn_336, Fld_a1_awaitsAnswer_336⟩
def Q3_37 (Z : State) (a1 : Addr) (x2 : Int64) (h0 : Heap) (n0 : Nat) (v : Option Value) (h : Heap) (L : List Loc) : Prop := v = some (.long x2) ∧ Fr n0 L ∧ (Keep h0 h [a1]) ∧ (Exa Z h a1 "com/example/spindle/spindle/SpinRule") ∧ (Fld Z h a1 "com/example/spindle/spindle/SpinRule" "answeredShare" "D" (.double (4597461529758007296 : UInt64))) ∧ (Fld Z h a1 "com/example/spindle/spindle/SpinRule" "handedOn" "Z" (.int (0 : Int32))) ∧ (Fld Z h a1 "com/example/spindle/spindle/SpinRule" "awaitsAnswer" "Z" (.int (0 : Int32)))
theorem ef3_rm3_37 (m : MethodId) (a1 : Addr) (x2 : Int64) : entryFrame m #[(.ref a1), (.long x2)] 3 = (mkF m 0 #[.val (.ref a1), .val (.long x2), .second] []) := by first | (simp [entryFrame, mkF, argsToLocals, Value.category, maxLocals]; done) | rfl
set_option maxRecDepth 65536 in
set_option maxHeartbeats 40000000 in
theorem rm3_37 (l : Launch) (Z : State) (a0 : Array Value) (hw : ∀ d ∈ tables_1, d.before a0 Z = true) (ws : List Jvm.Cond) (a1 : Addr) (x2 : Int64)  (h0 : Heap) (n0 : Nat) (P0 : Exa Z h0 a1 "com/example/spindle/spindle/SpinRule") (P1 : Fld Z h0 a1 "com/example/spindle/spindle/SpinRule" "answeredShare" "D" (.double (4597461529758007296 : UInt64))) (P2 : Fld Z h0 a1 "com/example/spindle/spindle/SpinRule" "handedOn" "Z" (.int (0 : Int32))) (P3 : Fld Z h0 a1 "com/example/spindle/spindle/SpinRule" "awaitsAnswer" "Z" (.int (1 : Int32))) (g_a1 : n0 ≤ a1)  (u0 : ¬ ((20000 : Int64) < x2))  :
    MetFree l (⟨"com/example/spindle/spindle/SpinRule", "spinNanos", "(J)J"⟩ : MethodName) (head1 (Jvm.Cond.code (⟨"com/example/spindle/spindle/SpinRule", "spinNanos", "(J)J"⟩ : MethodName) prog_40_method_3_code 3 (some .long) :: ws) ({ frames := 0, cells := 0, slots := 0, locals := 0 } : Room)) (fun a U => a = #[(.ref a1), (.long x2)] ∧ Z.Warmed39 U.vm ∧ U.heap = h0) (fun _ _ _ _ _ => True) (fun _ U o U' => ∃ v L, o = .returned v ∧ (Q3_37 Z a1 x2 h0 n0) v U'.heap L ∧ FrameEnd U o U' L 0 0) := by
  refine MetFree.of_bodySF (plainFor_of_name pn_com_example_spindle_spindle_SpinRule) hisR ?_
  intro p e s m args below meth c s₁ Bd hml0 hP hK
  obtain ⟨rfl, hZ, hh⟩ := hP
  have hx := Bd.exec
  have hby := Bd.bytes
  have hml : c.maxLocals = 3 := hml0
  have hown : s.vm.findClass "com/example/spindle/spindle/SpinRule" = some m.cls := findClass_of_methodNamed Bd.named
  have hnm := (name_of_methodNamed Bd.named Bd.method).1
  have X0 : Stand p l e ({ frames := 0, cells := 0, slots := 0, locals := 0 } : Room) s m #[(.ref a1), (.long x2)] below meth c s₁ [] 0 0 := Stand.of_body Bd
  have e0 : s₁.heap = h0 := by rw [← hh, Bd.state]; rfl
  have N0 := Fr.nil n0
  refine GoW.mk ?_
  refine GoW.st (fun t k => castTop (ef3_rm3_37 m a1 x2) k) ?_
  show GoW p e below s (Q3_37 Z a1 x2 h0 n0) 0 0 (s₁.setTop (mkF m 0 (Sh7 a1 x2) []))
  refine GoW.sg (mkF m 1 (Sh7 a1 x2) [(.ref a1)]) (fun t k => XS.aloadN X0.here hx rfl (hb hby d3_0) rfl rfl k) ?_
  refine GoW.sg (mkF m 2 (Sh7 a1 x2) [(.ref a1), (.ref a1)]) (fun t k => XS.aloadN X0.here hx rfl (hb hby d3_1) rfl rfl k) ?_
  obtain ⟨T342, X342, e342, st342⟩ := getF X0 hx hZ hown (host := "") (Or.inl (ww hw 16 rfl)) Via.refl e0 P2 (g := (mkF m 2 (Sh7 a1 x2) [(.ref a1), (.ref a1)])) rfl rfl (hb hby d3_2)
  refine GoW.sg (mkF m 5 (Sh7 a1 x2) [(.int 0), (.ref a1)]) (fun t k => st342 t k) ?_
  obtain ⟨T343, h343, X343, e343, W343, st343⟩ := putF X342 hx hZ hown (host := "") (Or.inl (ww hw 18 rfl)) Via.refl e342 P3 P0 (Or.inl (ww hw 19 rfl)) (ww hw 1 rfl) (ty := .boolean) (by decide) rfl rfl (g := (mkF m 5 (Sh7 a1 x2) [(.int 0), (.ref a1)])) rfl rfl (hb hby d3_5)
  have N343 := Fr.snoc X343 N0 g_a1
  have Exa_a1_343 : Exa Z h343 a1 "com/example/spindle/spindle/SpinRule" := P0.wr W343
  have Fld_a1_answeredShare_343 : Fld Z h343 a1 "com/example/spindle/spindle/SpinRule" "answeredShare" "D" (.double (4597461529758007296 : UInt64)) := P1.other W343 (Or.inr (slot_ne (t := .double) (t' := .boolean) (Or.inl (ww hw 10 rfl)) (Or.inl (ww hw 19 rfl)) (by decide) (by decide) (by decide)))
  have Fld_a1_handedOn_343 : Fld Z h343 a1 "com/example/spindle/spindle/SpinRule" "handedOn" "Z" (.int (0 : Int32)) := P2.other W343 (Or.inr (slot_ne (t := .boolean) (t' := .boolean) (Or.inl (ww hw 17 rfl)) (Or.inl (ww hw 19 rfl)) (by decide) (by decide) (by decide)))
  have Keep_343 : Keep h0 h343 [a1] := (Keep.refl h0 [a1]).wr W343 (Or.inl (List.mem_of_getElem? (i := 0) rfl))
  have Fld_a1_awaitsAnswer_343 : Fld Z h343 a1 "com/example/spindle/spindle/SpinRule" "awaitsAnswer" "Z" (.int (0 : Int32)) := P3.same W343
  refine GoW.sg (mkF m 8 (Sh7 a1 x2) []) (fun t k => st343 t k) ?_
  refine GoW.sg (mkF m 9 (Sh7 a1 x2) [(.ref a1)]) (fun t k => XS.aloadN X343.here hx rfl (hb hby d3_8) rfl rfl k) ?_
  refine GoW.sg (mkF m 10 (Sh7 a1 x2) [(.int 0), (.ref a1)]) (fun t k => XS.iconst X343.here hx rfl (hb hby d3_9) k) ?_
  obtain ⟨T344, h344, X344, e344, W344, st344⟩ := putF X343 hx hZ hown (host := "") (Or.inl (ww hw 16 rfl)) Via.refl e343 Fld_a1_handedOn_343 Exa_a1_343 (Or.inl (ww hw 17 rfl)) (ww hw 1 rfl) (ty := .boolean) (by decide) rfl rfl (g := (mkF m 10 (Sh7 a1 x2) [(.int 0), (.ref a1)])) rfl rfl (hb hby d3_10)
  have N344 := Fr.snoc X344 N343 g_a1
  have Exa_a1_344 : Exa Z h344 a1 "com/example/spindle/spindle/SpinRule" := Exa_a1_343.wr W344
  have Fld_a1_answeredShare_344 : Fld Z h344 a1 "com/example/spindle/spindle/SpinRule" "answeredShare" "D" (.double (4597461529758007296 : UInt64)) := Fld_a1_answeredShare_343.other W344 (Or.inr (slot_ne (t := .double) (t' := .boolean) (Or.inl (ww hw 10 rfl)) (Or.inl (ww hw 17 rfl)) (by decide) (by decide) (by decide)))
  have Fld_a1_awaitsAnswer_344 : Fld Z h344 a1 "com/example/spindle/spindle/SpinRule" "awaitsAnswer" "Z" (.int (0 : Int32)) := Fld_a1_awaitsAnswer_343.other W344 (Or.inr (slot_ne (t := .boolean) (t' := .boolean) (Or.inl (ww hw 19 rfl)) (Or.inl (ww hw 17 rfl)) (by decide) (by decide) (by decide)))
  have Keep_344 : Keep h0 h344 [a1] := Keep_343.wr W344 (Or.inl (List.mem_of_getElem? (i := 0) rfl))
  have Fld_a1_handedOn_344 : Fld Z h344 a1 "com/example/spindle/spindle/SpinRule" "handedOn" "Z" (.int (0 : Int32)) := Fld_a1_handedOn_343.same W344
  refine GoW.sg (mkF m 13 (Sh7 a1 x2) []) (fun t k => st344 t k) ?_
  refine GoW.sg (mkF m 14 (Sh7 a1 x2) [(.long x2)]) (fun t k => XS.lloadN X344.here hx rfl (hb hby d3_13) rfl k) ?_
  refine GoW.sg (mkF m 17 (Sh7 a1 x2) [(.long 20000), (.long x2)]) (fun t k => X344.ldc2Long hx hown (mvT hZ (ww hw 20 rfl)) (g := (mkF m 14 (Sh7 a1 x2) [(.long x2)])) rfl (hb hby d3_14) t k) ?_
  refine GoW.sg (mkF m 18 (Sh7 a1 x2) [(.int (lcmpW x2 (20000 : Int64)))]) (fun t k => XS.lcmp X344.here hx rfl (hb hby d3_17) rfl k) ?_
  refine GoW.sg (mkF m 21 (Sh7 a1 x2) []) (fun t k => XS.ifNo X344.here hx rfl (hb hby d3_18) rfl ((if0 _ _).trans (flt (mt (lw_gt _ _).mp u0)).2.2.1) k) ?_
  refine GoW.sg (mkF m 22 (Sh7 a1 x2) [(.long x2)]) (fun t k => XS.lloadN X344.here hx rfl (hb hby d3_21) rfl k) ?_
  refine GoW.retL X344 hx Bd.returns (hb hby d3_22) Bd.notSynchronized ?_ (by decide) (by decide)
  rw [e344]
  exact ⟨rfl, N344, Keep_344, Exa_a1_344, Fld_a1_answeredShare_344, Fld_a1_handedOn_344, Fld_a1_awaitsAnswer_344⟩
def Q5_38 (Z : State) (a1 : Addr) (h0 : Heap) (n0 : Nat) (v : Option Value) (h : Heap) (L : List Loc) : Prop := v = none ∧ Fr n0 L ∧ (Keep h0 h [a1]) ∧ (Exa Z h a1 "com/example/spindle/spindle/SpinRule") ∧ (Fld Z h a1 "com/example/spindle/spindle/SpinRule" "answeredShare" "D" (.double (4597461529758007296 : UInt64))) ∧ (Fld Z h a1 "com/example/spindle/spindle/SpinRule" "handedOn" "Z" (.int (1 : Int32))) ∧ (Fld Z h a1 "com/example/spindle/spindle/SpinRule" "awaitsAnswer" "Z" (.int (1 : Int32)))
theorem ef5_rm5_38 (m : MethodId) (a1 : Addr) : entryFrame m #[(.ref a1)] 1 = (mkF m 0 #[.val (.ref a1)] []) := by first | (simp [entryFrame, mkF, argsToLocals, Value.category, maxLocals]; done) | rfl
set_option maxRecDepth 65536 in
set_option maxHeartbeats 40000000 in
theorem rm5_38 (l : Launch) (Z : State) (a0 : Array Value) (hw : ∀ d ∈ tables_1, d.before a0 Z = true) (ws : List Jvm.Cond) (a1 : Addr)  (h0 : Heap) (n0 : Nat) (P0 : Exa Z h0 a1 "com/example/spindle/spindle/SpinRule") (P1 : Fld Z h0 a1 "com/example/spindle/spindle/SpinRule" "answeredShare" "D" (.double (4597461529758007296 : UInt64))) (P2 : Fld Z h0 a1 "com/example/spindle/spindle/SpinRule" "handedOn" "Z" (.int (0 : Int32))) (P3 : Fld Z h0 a1 "com/example/spindle/spindle/SpinRule" "awaitsAnswer" "Z" (.int (1 : Int32))) (g_a1 : n0 ≤ a1)    :
    MetFree l (⟨"com/example/spindle/spindle/SpinRule", "handedOn", "()V"⟩ : MethodName) (head1 (Jvm.Cond.code (⟨"com/example/spindle/spindle/SpinRule", "handedOn", "()V"⟩ : MethodName) prog_40_method_2_code 1 none :: ws) ({ frames := 0, cells := 0, slots := 0, locals := 0 } : Room)) (fun a U => a = #[(.ref a1)] ∧ Z.Warmed39 U.vm ∧ U.heap = h0) (fun _ _ _ _ _ => True) (fun _ U o U' => ∃ v L, o = .returned v ∧ (Q5_38 Z a1 h0 n0) v U'.heap L ∧ FrameEnd U o U' L 0 0) := by
  refine MetFree.of_bodySF (plainFor_of_name pn_com_example_spindle_spindle_SpinRule) hisR ?_
  intro p e s m args below meth c s₁ Bd hml0 hP hK
  obtain ⟨rfl, hZ, hh⟩ := hP
  have hx := Bd.exec
  have hby := Bd.bytes
  have hml : c.maxLocals = 1 := hml0
  have hown : s.vm.findClass "com/example/spindle/spindle/SpinRule" = some m.cls := findClass_of_methodNamed Bd.named
  have hnm := (name_of_methodNamed Bd.named Bd.method).1
  have X0 : Stand p l e ({ frames := 0, cells := 0, slots := 0, locals := 0 } : Room) s m #[(.ref a1)] below meth c s₁ [] 0 0 := Stand.of_body Bd
  have e0 : s₁.heap = h0 := by rw [← hh, Bd.state]; rfl
  have N0 := Fr.nil n0
  refine GoW.mk ?_
  refine GoW.st (fun t k => castTop (ef5_rm5_38 m a1) k) ?_
  show GoW p e below s (Q5_38 Z a1 h0 n0) 0 0 (s₁.setTop (mkF m 0 #[.val (.ref a1)] []))
  refine GoW.sg (mkF m 1 #[.val (.ref a1)] [(.ref a1)]) (fun t k => XS.aloadN X0.here hx rfl (hb hby d5_0) rfl rfl k) ?_
  refine GoW.sg (mkF m 2 #[.val (.ref a1)] [(.int 1), (.ref a1)]) (fun t k => XS.iconst X0.here hx rfl (hb hby d5_1) k) ?_
  obtain ⟨T353, h353, X353, e353, W353, st353⟩ := putF X0 hx hZ hown (host := "") (Or.inl (ww hw 16 rfl)) Via.refl e0 P2 P0 (Or.inl (ww hw 17 rfl)) (ww hw 1 rfl) (ty := .boolean) (by decide) rfl rfl (g := (mkF m 2 #[.val (.ref a1)] [(.int 1), (.ref a1)])) rfl rfl (hb hby d5_2)
  have N353 := Fr.snoc X353 N0 g_a1
  have Exa_a1_353 : Exa Z h353 a1 "com/example/spindle/spindle/SpinRule" := P0.wr W353
  have Fld_a1_answeredShare_353 : Fld Z h353 a1 "com/example/spindle/spindle/SpinRule" "answeredShare" "D" (.double (4597461529758007296 : UInt64)) := P1.other W353 (Or.inr (slot_ne (t := .double) (t' := .boolean) (Or.inl (ww hw 10 rfl)) (Or.inl (ww hw 17 rfl)) (by decide) (by decide) (by decide)))
  have Fld_a1_awaitsAnswer_353 : Fld Z h353 a1 "com/example/spindle/spindle/SpinRule" "awaitsAnswer" "Z" (.int (1 : Int32)) := P3.other W353 (Or.inr (slot_ne (t := .boolean) (t' := .boolean) (Or.inl (ww hw 19 rfl)) (Or.inl (ww hw 17 rfl)) (by decide) (by decide) (by decide)))
  have Keep_353 : Keep h0 h353 [a1] := (Keep.refl h0 [a1]).wr W353 (Or.inl (List.mem_of_getElem? (i := 0) rfl))
  have Fld_a1_handedOn_353 : Fld Z h353 a1 "com/example/spindle/spindle/SpinRule" "handedOn" "Z" (.int (1 : Int32)) := P2.same W353
  refine GoW.sg (mkF m 5 #[.val (.ref a1)] []) (fun t k => st353 t k) ?_
  refine GoW.retV X353 hx Bd.returns (hb hby d5_5) Bd.notSynchronized ?_ (by decide) (by decide)
  rw [e353]
  exact ⟨rfl, N353, Keep_353, Exa_a1_353, Fld_a1_answeredShare_353, Fld_a1_handedOn_353, Fld_a1_awaitsAnswer_353⟩
def Q3_39 (Z : State) (a1 : Addr) (x2 : Int64) (h0 : Heap) (n0 : Nat) (v : Option Value) (h : Heap) (L : List Loc) : Prop := v = some (.long (0 : Int64)) ∧ Fr n0 L ∧ (Keep h0 h [a1]) ∧ (Exa Z h a1 "com/example/spindle/spindle/SpinRule") ∧ (Fld Z h a1 "com/example/spindle/spindle/SpinRule" "answeredShare" "D" (.double (4597461529758007296 : UInt64))) ∧ (Fld Z h a1 "com/example/spindle/spindle/SpinRule" "handedOn" "Z" (.int (0 : Int32))) ∧ (Fld Z h a1 "com/example/spindle/spindle/SpinRule" "awaitsAnswer" "Z" (.int (1 : Int32)))
theorem ef3_rm3_39 (m : MethodId) (a1 : Addr) (x2 : Int64) : entryFrame m #[(.ref a1), (.long x2)] 3 = (mkF m 0 #[.val (.ref a1), .val (.long x2), .second] []) := by first | (simp [entryFrame, mkF, argsToLocals, Value.category, maxLocals]; done) | rfl
set_option maxRecDepth 65536 in
set_option maxHeartbeats 40000000 in
theorem rm3_39 (l : Launch) (Z : State) (a0 : Array Value) (hw : ∀ d ∈ tables_1, d.before a0 Z = true) (ws : List Jvm.Cond) (a1 : Addr) (x2 : Int64)  (h0 : Heap) (n0 : Nat) (P0 : Exa Z h0 a1 "com/example/spindle/spindle/SpinRule") (P1 : Fld Z h0 a1 "com/example/spindle/spindle/SpinRule" "answeredShare" "D" (.double (4597461529758007296 : UInt64))) (P2 : Fld Z h0 a1 "com/example/spindle/spindle/SpinRule" "handedOn" "Z" (.int (1 : Int32))) (P3 : Fld Z h0 a1 "com/example/spindle/spindle/SpinRule" "awaitsAnswer" "Z" (.int (1 : Int32))) (g_a1 : n0 ≤ a1)  (u0 : (20000 : Int64) < x2)  :
    MetFree l (⟨"com/example/spindle/spindle/SpinRule", "spinNanos", "(J)J"⟩ : MethodName) (head1 (Jvm.Cond.code (⟨"com/example/spindle/spindle/SpinRule", "spinNanos", "(J)J"⟩ : MethodName) prog_40_method_3_code 3 (some .long) :: ws) ({ frames := 0, cells := 0, slots := 0, locals := 0 } : Room)) (fun a U => a = #[(.ref a1), (.long x2)] ∧ Z.Warmed39 U.vm ∧ U.heap = h0) (fun _ _ _ _ _ => True) (fun _ U o U' => ∃ v L, o = .returned v ∧ (Q3_39 Z a1 x2 h0 n0) v U'.heap L ∧ FrameEnd U o U' L 0 0) := by
  refine MetFree.of_bodySF (plainFor_of_name pn_com_example_spindle_spindle_SpinRule) hisR ?_
  intro p e s m args below meth c s₁ Bd hml0 hP hK
  obtain ⟨rfl, hZ, hh⟩ := hP
  have hx := Bd.exec
  have hby := Bd.bytes
  have hml : c.maxLocals = 3 := hml0
  have hown : s.vm.findClass "com/example/spindle/spindle/SpinRule" = some m.cls := findClass_of_methodNamed Bd.named
  have hnm := (name_of_methodNamed Bd.named Bd.method).1
  have X0 : Stand p l e ({ frames := 0, cells := 0, slots := 0, locals := 0 } : Room) s m #[(.ref a1), (.long x2)] below meth c s₁ [] 0 0 := Stand.of_body Bd
  have e0 : s₁.heap = h0 := by rw [← hh, Bd.state]; rfl
  have N0 := Fr.nil n0
  refine GoW.mk ?_
  refine GoW.st (fun t k => castTop (ef3_rm3_39 m a1 x2) k) ?_
  show GoW p e below s (Q3_39 Z a1 x2 h0 n0) 0 0 (s₁.setTop (mkF m 0 (Sh7 a1 x2) []))
  refine GoW.sg (mkF m 1 (Sh7 a1 x2) [(.ref a1)]) (fun t k => XS.aloadN X0.here hx rfl (hb hby d3_0) rfl rfl k) ?_
  refine GoW.sg (mkF m 2 (Sh7 a1 x2) [(.ref a1), (.ref a1)]) (fun t k => XS.aloadN X0.here hx rfl (hb hby d3_1) rfl rfl k) ?_
  obtain ⟨T361, X361, e361, st361⟩ := getF X0 hx hZ hown (host := "") (Or.inl (ww hw 16 rfl)) Via.refl e0 P2 (g := (mkF m 2 (Sh7 a1 x2) [(.ref a1), (.ref a1)])) rfl rfl (hb hby d3_2)
  refine GoW.sg (mkF m 5 (Sh7 a1 x2) [(.int 1), (.ref a1)]) (fun t k => st361 t k) ?_
  obtain ⟨T362, h362, X362, e362, W362, st362⟩ := putF X361 hx hZ hown (host := "") (Or.inl (ww hw 18 rfl)) Via.refl e361 P3 P0 (Or.inl (ww hw 19 rfl)) (ww hw 1 rfl) (ty := .boolean) (by decide) rfl rfl (g := (mkF m 5 (Sh7 a1 x2) [(.int 1), (.ref a1)])) rfl rfl (hb hby d3_5)
  have N362 := Fr.snoc X362 N0 g_a1
  have Exa_a1_362 : Exa Z h362 a1 "com/example/spindle/spindle/SpinRule" := P0.wr W362
  have Fld_a1_answeredShare_362 : Fld Z h362 a1 "com/example/spindle/spindle/SpinRule" "answeredShare" "D" (.double (4597461529758007296 : UInt64)) := P1.other W362 (Or.inr (slot_ne (t := .double) (t' := .boolean) (Or.inl (ww hw 10 rfl)) (Or.inl (ww hw 19 rfl)) (by decide) (by decide) (by decide)))
  have Fld_a1_handedOn_362 : Fld Z h362 a1 "com/example/spindle/spindle/SpinRule" "handedOn" "Z" (.int (1 : Int32)) := P2.other W362 (Or.inr (slot_ne (t := .boolean) (t' := .boolean) (Or.inl (ww hw 17 rfl)) (Or.inl (ww hw 19 rfl)) (by decide) (by decide) (by decide)))
  have Keep_362 : Keep h0 h362 [a1] := (Keep.refl h0 [a1]).wr W362 (Or.inl (List.mem_of_getElem? (i := 0) rfl))
  have Fld_a1_awaitsAnswer_362 : Fld Z h362 a1 "com/example/spindle/spindle/SpinRule" "awaitsAnswer" "Z" (.int (1 : Int32)) := P3.same W362
  refine GoW.sg (mkF m 8 (Sh7 a1 x2) []) (fun t k => st362 t k) ?_
  refine GoW.sg (mkF m 9 (Sh7 a1 x2) [(.ref a1)]) (fun t k => XS.aloadN X362.here hx rfl (hb hby d3_8) rfl rfl k) ?_
  refine GoW.sg (mkF m 10 (Sh7 a1 x2) [(.int 0), (.ref a1)]) (fun t k => XS.iconst X362.here hx rfl (hb hby d3_9) k) ?_
  obtain ⟨T363, h363, X363, e363, W363, st363⟩ := putF X362 hx hZ hown (host := "") (Or.inl (ww hw 16 rfl)) Via.refl e362 Fld_a1_handedOn_362 Exa_a1_362 (Or.inl (ww hw 17 rfl)) (ww hw 1 rfl) (ty := .boolean) (by decide) rfl rfl (g := (mkF m 10 (Sh7 a1 x2) [(.int 0), (.ref a1)])) rfl rfl (hb hby d3_10)
  have N363 := Fr.snoc X363 N362 g_a1
  have Exa_a1_363 : Exa Z h363 a1 "com/example/spindle/spindle/SpinRule" := Exa_a1_362.wr W363
  have Fld_a1_answeredShare_363 : Fld Z h363 a1 "com/example/spindle/spindle/SpinRule" "answeredShare" "D" (.double (4597461529758007296 : UInt64)) := Fld_a1_answeredShare_362.other W363 (Or.inr (slot_ne (t := .double) (t' := .boolean) (Or.inl (ww hw 10 rfl)) (Or.inl (ww hw 17 rfl)) (by decide) (by decide) (by decide)))
  have Fld_a1_awaitsAnswer_363 : Fld Z h363 a1 "com/example/spindle/spindle/SpinRule" "awaitsAnswer" "Z" (.int (1 : Int32)) := Fld_a1_awaitsAnswer_362.other W363 (Or.inr (slot_ne (t := .boolean) (t' := .boolean) (Or.inl (ww hw 19 rfl)) (Or.inl (ww hw 17 rfl)) (by decide) (by decide) (by decide)))
  have Keep_363 : Keep h0 h363 [a1] := Keep_362.wr W363 (Or.inl (List.mem_of_getElem? (i := 0) rfl))
  have Fld_a1_handedOn_363 : Fld Z h363 a1 "com/example/spindle/spindle/SpinRule" "handedOn" "Z" (.int (0 : Int32)) := Fld_a1_handedOn_362.same W363
  refine GoW.sg (mkF m 13 (Sh7 a1 x2) []) (fun t k => st363 t k) ?_
  refine GoW.sg (mkF m 14 (Sh7 a1 x2) [(.long x2)]) (fun t k => XS.lloadN X363.here hx rfl (hb hby d3_13) rfl k) ?_
  refine GoW.sg (mkF m 17 (Sh7 a1 x2) [(.long 20000), (.long x2)]) (fun t k => X363.ldc2Long hx hown (mvT hZ (ww hw 20 rfl)) (g := (mkF m 14 (Sh7 a1 x2) [(.long x2)])) rfl (hb hby d3_14) t k) ?_
  refine GoW.sg (mkF m 18 (Sh7 a1 x2) [(.int (lcmpW x2 (20000 : Int64)))]) (fun t k => XS.lcmp X363.here hx rfl (hb hby d3_17) rfl k) ?_
  refine GoW.sg (mkF m 23 (Sh7 a1 x2) []) (fun t k => XS.ifYes X363.here hx rfl (pc0 := 18) (pc' := 23) rfl (hb hby d3_18) rfl ((if0 _ _).trans (tlt ((lw_gt _ _).mpr u0)).2.2.1) (by decide) (by decide) k) ?_
  refine GoW.sg (mkF m 24 (Sh7 a1 x2) [(.ref a1)]) (fun t k => XS.aloadN X363.here hx rfl (hb hby d3_23) rfl rfl k) ?_
  obtain ⟨T364, X364, e364, st364⟩ := getF X363 hx hZ hown (host := "") (Or.inl (ww hw 18 rfl)) Via.refl e363 Fld_a1_awaitsAnswer_363 (g := (mkF m 24 (Sh7 a1 x2) [(.ref a1)])) rfl rfl (hb hby d3_24)
  refine GoW.sg (mkF m 27 (Sh7 a1 x2) [(.int 1)]) (fun t k => st364 t k) ?_
  refine GoW.sg (mkF m 30 (Sh7 a1 x2) []) (fun t k => XS.ifNo X364.here hx rfl (hb hby d3_27) rfl (by decide) k) ?_
  refine GoW.sg (mkF m 31 (Sh7 a1 x2) [(.ref a1)]) (fun t k => XS.aloadN X364.here hx rfl (hb hby d3_30) rfl rfl k) ?_
  obtain ⟨T365, X365, e365, st365⟩ := getF X364 hx hZ hown (host := "") (Or.inl (ww hw 9 rfl)) Via.refl e364 Fld_a1_answeredShare_363 (g := (mkF m 31 (Sh7 a1 x2) [(.ref a1)])) rfl rfl (hb hby d3_31)
  refine GoW.sg (mkF m 34 (Sh7 a1 x2) [(.double 4597461529758007296)]) (fun t k => st365 t k) ?_
  refine GoW.sg (mkF m 37 (Sh7 a1 x2) [(.double 4598175219545276416), (.double 4597461529758007296)]) (fun t k => X365.ldc2DoubleC hx hown (mvT hZ (ww hw 33 rfl)) (g := (mkF m 34 (Sh7 a1 x2) [(.double 4597461529758007296)])) rfl (hb hby d3_34) t k) ?_
  refine GoW.sg (mkF m 38 (Sh7 a1 x2) [(.int (-1))]) (fun t k => XS.dcmpS X365.here hx rfl (hb hby d3_37) rfl (v := (-1 : Int32)) (by decide +kernel) k) ?_
  refine GoW.sg (mkF m 47 (Sh7 a1 x2) []) (fun t k => XS.ifYes X365.here hx rfl (pc0 := 38) (pc' := 47) rfl (hb hby d3_38) rfl (by decide) (by decide) (by decide) k) ?_
  refine GoW.sg (mkF m 48 (Sh7 a1 x2) [(.long 0)]) (fun t k => XS.lconst X365.here hx rfl (hb hby d3_47) k) ?_
  refine GoW.retL X365 hx Bd.returns (hb hby d3_48) Bd.notSynchronized ?_ (by decide) (by decide)
  rw [e365]
  exact ⟨rfl, N363, Keep_363, Exa_a1_363, Fld_a1_answeredShare_363, Fld_a1_handedOn_363, Fld_a1_awaitsAnswer_363⟩
def Q4_40 (Z : State) (a1 : Addr) (h0 : Heap) (n0 : Nat) (v : Option Value) (h : Heap) (L : List Loc) : Prop := v = some (.int (1 : Int32)) ∧ Fr n0 L ∧ (h = h0)
theorem ef4_rm4_40 (m : MethodId) (a1 : Addr) : entryFrame m #[(.ref a1), (.long (0 : Int64))] 3 = (mkF m 0 #[.val (.ref a1), .val (.long 0), .second] []) := by first | (simp [entryFrame, mkF, argsToLocals, Value.category, maxLocals]; done) | rfl
set_option maxRecDepth 65536 in
set_option maxHeartbeats 40000000 in
theorem rm4_40 (l : Launch) (Z : State) (a0 : Array Value) (hw : ∀ d ∈ tables_1, d.before a0 Z = true) (ws : List Jvm.Cond) (a1 : Addr)  (h0 : Heap) (n0 : Nat) (P0 : Exa Z h0 a1 "com/example/spindle/spindle/SpinRule") (P1 : Fld Z h0 a1 "com/example/spindle/spindle/SpinRule" "answeredShare" "D" (.double (4597461529758007296 : UInt64))) (P2 : Fld Z h0 a1 "com/example/spindle/spindle/SpinRule" "handedOn" "Z" (.int (0 : Int32))) (P3 : Fld Z h0 a1 "com/example/spindle/spindle/SpinRule" "awaitsAnswer" "Z" (.int (1 : Int32)))     :
    MetFree l (⟨"com/example/spindle/spindle/SpinRule", "timesWait", "(J)Z"⟩ : MethodName) (head1 (Jvm.Cond.code (⟨"com/example/spindle/spindle/SpinRule", "timesWait", "(J)Z"⟩ : MethodName) prog_40_method_4_code 3 (some .boolean) :: ws) ({ frames := 0, cells := 0, slots := 0, locals := 0 } : Room)) (fun a U => a = #[(.ref a1), (.long (0 : Int64))] ∧ Z.Warmed39 U.vm ∧ U.heap = h0) (fun _ _ _ _ _ => True) (fun _ U o U' => ∃ v L, o = .returned v ∧ (Q4_40 Z a1 h0 n0) v U'.heap L ∧ FrameEnd U o U' L 0 0) := by
  refine MetFree.of_bodySF (plainFor_of_name pn_com_example_spindle_spindle_SpinRule) hisR ?_
  intro p e s m args below meth c s₁ Bd hml0 hP hK
  obtain ⟨rfl, hZ, hh⟩ := hP
  have hx := Bd.exec
  have hby := Bd.bytes
  have hml : c.maxLocals = 3 := hml0
  have hown : s.vm.findClass "com/example/spindle/spindle/SpinRule" = some m.cls := findClass_of_methodNamed Bd.named
  have hnm := (name_of_methodNamed Bd.named Bd.method).1
  have X0 : Stand p l e ({ frames := 0, cells := 0, slots := 0, locals := 0 } : Room) s m #[(.ref a1), (.long (0 : Int64))] below meth c s₁ [] 0 0 := Stand.of_body Bd
  have e0 : s₁.heap = h0 := by rw [← hh, Bd.state]; rfl
  have N0 := Fr.nil n0
  refine GoW.mk ?_
  refine GoW.st (fun t k => castTop (ef4_rm4_40 m a1) k) ?_
  show GoW p e below s (Q4_40 Z a1 h0 n0) 0 0 (s₁.setTop (mkF m 0 (Sh7 a1 0) []))
  refine GoW.sg (mkF m 1 (Sh7 a1 0) [(.long 0)]) (fun t k => XS.lloadN X0.here hx rfl (hb hby d4_0) rfl k) ?_
  refine GoW.sg (mkF m 2 (Sh7 a1 0) [(.long 0), (.long 0)]) (fun t k => XS.lconst X0.here hx rfl (hb hby d4_1) k) ?_
  refine GoW.sg (mkF m 3 (Sh7 a1 0) [(.int (lcmpW (0 : Int64) (0 : Int64)))]) (fun t k => XS.lcmp X0.here hx rfl (hb hby d4_2) rfl k) ?_
  refine GoW.sg (mkF m 6 (Sh7 a1 0) []) (fun t k => XS.ifNo X0.here hx rfl (hb hby d4_3) rfl (by decide) k) ?_
  refine GoW.sg (mkF m 7 (Sh7 a1 0) [(.ref a1)]) (fun t k => XS.aloadN X0.here hx rfl (hb hby d4_6) rfl rfl k) ?_
  obtain ⟨T368, X368, e368, st368⟩ := getF X0 hx hZ hown (host := "") (Or.inl (ww hw 18 rfl)) Via.refl e0 P3 (g := (mkF m 7 (Sh7 a1 0) [(.ref a1)])) rfl rfl (hb hby d4_7)
  refine GoW.sg (mkF m 10 (Sh7 a1 0) [(.int 1)]) (fun t k => st368 t k) ?_
  refine GoW.sg (mkF m 13 (Sh7 a1 0) []) (fun t k => XS.ifNo X368.here hx rfl (hb hby d4_10) rfl (by decide) k) ?_
  refine GoW.sg (mkF m 14 (Sh7 a1 0) [(.int 1)]) (fun t k => XS.iconst X368.here hx rfl (hb hby d4_13) k) ?_
  refine GoW.sg (mkF m 18 (Sh7 a1 0) [(.int 1)]) (fun t k => XS.goto X368.here hx rfl (pc0 := 14) (pc' := 18) rfl (hb hby d4_14) (by decide) (by decide) k) ?_
  refine GoW.retN X368 hx (t := .boolean) Bd.returns (by simp) (hb hby d4_18) Bd.notSynchronized ?_ (by decide) (by decide)
  rw [e368]
  exact ⟨rfl, N0, rfl⟩
def Q3_41 (Z : State) (a1 : Addr) (x2 : Int64) (h0 : Heap) (n0 : Nat) (v : Option Value) (h : Heap) (L : List Loc) : Prop := v = some (.long x2) ∧ Fr n0 L ∧ (Keep h0 h [a1]) ∧ (Exa Z h a1 "com/example/spindle/spindle/SpinRule") ∧ (Fld Z h a1 "com/example/spindle/spindle/SpinRule" "answeredShare" "D" (.double (4597461529758007296 : UInt64))) ∧ (Fld Z h a1 "com/example/spindle/spindle/SpinRule" "handedOn" "Z" (.int (0 : Int32))) ∧ (Fld Z h a1 "com/example/spindle/spindle/SpinRule" "awaitsAnswer" "Z" (.int (1 : Int32)))
theorem ef3_rm3_41 (m : MethodId) (a1 : Addr) (x2 : Int64) : entryFrame m #[(.ref a1), (.long x2)] 3 = (mkF m 0 #[.val (.ref a1), .val (.long x2), .second] []) := by first | (simp [entryFrame, mkF, argsToLocals, Value.category, maxLocals]; done) | rfl
set_option maxRecDepth 65536 in
set_option maxHeartbeats 40000000 in
theorem rm3_41 (l : Launch) (Z : State) (a0 : Array Value) (hw : ∀ d ∈ tables_1, d.before a0 Z = true) (ws : List Jvm.Cond) (a1 : Addr) (x2 : Int64)  (h0 : Heap) (n0 : Nat) (P0 : Exa Z h0 a1 "com/example/spindle/spindle/SpinRule") (P1 : Fld Z h0 a1 "com/example/spindle/spindle/SpinRule" "answeredShare" "D" (.double (4597461529758007296 : UInt64))) (P2 : Fld Z h0 a1 "com/example/spindle/spindle/SpinRule" "handedOn" "Z" (.int (1 : Int32))) (P3 : Fld Z h0 a1 "com/example/spindle/spindle/SpinRule" "awaitsAnswer" "Z" (.int (1 : Int32))) (g_a1 : n0 ≤ a1)  (u0 : ¬ ((20000 : Int64) < x2))  :
    MetFree l (⟨"com/example/spindle/spindle/SpinRule", "spinNanos", "(J)J"⟩ : MethodName) (head1 (Jvm.Cond.code (⟨"com/example/spindle/spindle/SpinRule", "spinNanos", "(J)J"⟩ : MethodName) prog_40_method_3_code 3 (some .long) :: ws) ({ frames := 0, cells := 0, slots := 0, locals := 0 } : Room)) (fun a U => a = #[(.ref a1), (.long x2)] ∧ Z.Warmed39 U.vm ∧ U.heap = h0) (fun _ _ _ _ _ => True) (fun _ U o U' => ∃ v L, o = .returned v ∧ (Q3_41 Z a1 x2 h0 n0) v U'.heap L ∧ FrameEnd U o U' L 0 0) := by
  refine MetFree.of_bodySF (plainFor_of_name pn_com_example_spindle_spindle_SpinRule) hisR ?_
  intro p e s m args below meth c s₁ Bd hml0 hP hK
  obtain ⟨rfl, hZ, hh⟩ := hP
  have hx := Bd.exec
  have hby := Bd.bytes
  have hml : c.maxLocals = 3 := hml0
  have hown : s.vm.findClass "com/example/spindle/spindle/SpinRule" = some m.cls := findClass_of_methodNamed Bd.named
  have hnm := (name_of_methodNamed Bd.named Bd.method).1
  have X0 : Stand p l e ({ frames := 0, cells := 0, slots := 0, locals := 0 } : Room) s m #[(.ref a1), (.long x2)] below meth c s₁ [] 0 0 := Stand.of_body Bd
  have e0 : s₁.heap = h0 := by rw [← hh, Bd.state]; rfl
  have N0 := Fr.nil n0
  refine GoW.mk ?_
  refine GoW.st (fun t k => castTop (ef3_rm3_41 m a1 x2) k) ?_
  show GoW p e below s (Q3_41 Z a1 x2 h0 n0) 0 0 (s₁.setTop (mkF m 0 (Sh7 a1 x2) []))
  refine GoW.sg (mkF m 1 (Sh7 a1 x2) [(.ref a1)]) (fun t k => XS.aloadN X0.here hx rfl (hb hby d3_0) rfl rfl k) ?_
  refine GoW.sg (mkF m 2 (Sh7 a1 x2) [(.ref a1), (.ref a1)]) (fun t k => XS.aloadN X0.here hx rfl (hb hby d3_1) rfl rfl k) ?_
  obtain ⟨T378, X378, e378, st378⟩ := getF X0 hx hZ hown (host := "") (Or.inl (ww hw 16 rfl)) Via.refl e0 P2 (g := (mkF m 2 (Sh7 a1 x2) [(.ref a1), (.ref a1)])) rfl rfl (hb hby d3_2)
  refine GoW.sg (mkF m 5 (Sh7 a1 x2) [(.int 1), (.ref a1)]) (fun t k => st378 t k) ?_
  obtain ⟨T379, h379, X379, e379, W379, st379⟩ := putF X378 hx hZ hown (host := "") (Or.inl (ww hw 18 rfl)) Via.refl e378 P3 P0 (Or.inl (ww hw 19 rfl)) (ww hw 1 rfl) (ty := .boolean) (by decide) rfl rfl (g := (mkF m 5 (Sh7 a1 x2) [(.int 1), (.ref a1)])) rfl rfl (hb hby d3_5)
  have N379 := Fr.snoc X379 N0 g_a1
  have Exa_a1_379 : Exa Z h379 a1 "com/example/spindle/spindle/SpinRule" := P0.wr W379
  have Fld_a1_answeredShare_379 : Fld Z h379 a1 "com/example/spindle/spindle/SpinRule" "answeredShare" "D" (.double (4597461529758007296 : UInt64)) := P1.other W379 (Or.inr (slot_ne (t := .double) (t' := .boolean) (Or.inl (ww hw 10 rfl)) (Or.inl (ww hw 19 rfl)) (by decide) (by decide) (by decide)))
  have Fld_a1_handedOn_379 : Fld Z h379 a1 "com/example/spindle/spindle/SpinRule" "handedOn" "Z" (.int (1 : Int32)) := P2.other W379 (Or.inr (slot_ne (t := .boolean) (t' := .boolean) (Or.inl (ww hw 17 rfl)) (Or.inl (ww hw 19 rfl)) (by decide) (by decide) (by decide)))
  have Keep_379 : Keep h0 h379 [a1] := (Keep.refl h0 [a1]).wr W379 (Or.inl (List.mem_of_getElem? (i := 0) rfl))
  have Fld_a1_awaitsAnswer_379 : Fld Z h379 a1 "com/example/spindle/spindle/SpinRule" "awaitsAnswer" "Z" (.int (1 : Int32)) := P3.same W379
  refine GoW.sg (mkF m 8 (Sh7 a1 x2) []) (fun t k => st379 t k) ?_
  refine GoW.sg (mkF m 9 (Sh7 a1 x2) [(.ref a1)]) (fun t k => XS.aloadN X379.here hx rfl (hb hby d3_8) rfl rfl k) ?_
  refine GoW.sg (mkF m 10 (Sh7 a1 x2) [(.int 0), (.ref a1)]) (fun t k => XS.iconst X379.here hx rfl (hb hby d3_9) k) ?_
  obtain ⟨T380, h380, X380, e380, W380, st380⟩ := putF X379 hx hZ hown (host := "") (Or.inl (ww hw 16 rfl)) Via.refl e379 Fld_a1_handedOn_379 Exa_a1_379 (Or.inl (ww hw 17 rfl)) (ww hw 1 rfl) (ty := .boolean) (by decide) rfl rfl (g := (mkF m 10 (Sh7 a1 x2) [(.int 0), (.ref a1)])) rfl rfl (hb hby d3_10)
  have N380 := Fr.snoc X380 N379 g_a1
  have Exa_a1_380 : Exa Z h380 a1 "com/example/spindle/spindle/SpinRule" := Exa_a1_379.wr W380
  have Fld_a1_answeredShare_380 : Fld Z h380 a1 "com/example/spindle/spindle/SpinRule" "answeredShare" "D" (.double (4597461529758007296 : UInt64)) := Fld_a1_answeredShare_379.other W380 (Or.inr (slot_ne (t := .double) (t' := .boolean) (Or.inl (ww hw 10 rfl)) (Or.inl (ww hw 17 rfl)) (by decide) (by decide) (by decide)))
  have Fld_a1_awaitsAnswer_380 : Fld Z h380 a1 "com/example/spindle/spindle/SpinRule" "awaitsAnswer" "Z" (.int (1 : Int32)) := Fld_a1_awaitsAnswer_379.other W380 (Or.inr (slot_ne (t := .boolean) (t' := .boolean) (Or.inl (ww hw 19 rfl)) (Or.inl (ww hw 17 rfl)) (by decide) (by decide) (by decide)))
  have Keep_380 : Keep h0 h380 [a1] := Keep_379.wr W380 (Or.inl (List.mem_of_getElem? (i := 0) rfl))
  have Fld_a1_handedOn_380 : Fld Z h380 a1 "com/example/spindle/spindle/SpinRule" "handedOn" "Z" (.int (0 : Int32)) := Fld_a1_handedOn_379.same W380
  refine GoW.sg (mkF m 13 (Sh7 a1 x2) []) (fun t k => st380 t k) ?_
  refine GoW.sg (mkF m 14 (Sh7 a1 x2) [(.long x2)]) (fun t k => XS.lloadN X380.here hx rfl (hb hby d3_13) rfl k) ?_
  refine GoW.sg (mkF m 17 (Sh7 a1 x2) [(.long 20000), (.long x2)]) (fun t k => X380.ldc2Long hx hown (mvT hZ (ww hw 20 rfl)) (g := (mkF m 14 (Sh7 a1 x2) [(.long x2)])) rfl (hb hby d3_14) t k) ?_
  refine GoW.sg (mkF m 18 (Sh7 a1 x2) [(.int (lcmpW x2 (20000 : Int64)))]) (fun t k => XS.lcmp X380.here hx rfl (hb hby d3_17) rfl k) ?_
  refine GoW.sg (mkF m 21 (Sh7 a1 x2) []) (fun t k => XS.ifNo X380.here hx rfl (hb hby d3_18) rfl ((if0 _ _).trans (flt (mt (lw_gt _ _).mp u0)).2.2.1) k) ?_
  refine GoW.sg (mkF m 22 (Sh7 a1 x2) [(.long x2)]) (fun t k => XS.lloadN X380.here hx rfl (hb hby d3_21) rfl k) ?_
  refine GoW.retL X380 hx Bd.returns (hb hby d3_22) Bd.notSynchronized ?_ (by decide) (by decide)
  rw [e380]
  exact ⟨rfl, N380, Keep_380, Exa_a1_380, Fld_a1_answeredShare_380, Fld_a1_handedOn_380, Fld_a1_awaitsAnswer_380⟩
theorem ef0_rm0 (m : MethodId) (q1 : Int64) (q2 : Int64) (q3 : Int32) : entryFrame m #[(.long q1), (.long q2), (.int q3)] maxLocals = (mkF m 0 #[.val (.long q1), .second, .val (.long q2), .second, .val (.int q3), .unset, .unset, .unset, .unset, .unset, .unset, .unset, .unset, .unset, .unset, .unset, .unset, .unset, .unset, .unset] []) := by first | (simp [entryFrame, mkF, argsToLocals, Value.category, maxLocals]; done) | rfl
set_option maxRecDepth 65536 in
set_option maxHeartbeats 40000000 in
theorem rm0 (l : Launch) (Z : State) (a0 : Array Value) (hw : ∀ d ∈ tables_1, d.before a0 Z = true) (ws : List Jvm.Cond) (q1 : Int64) (q2 : Int64) (q3 : Int32)  (h0 : Heap) (n0 : Nat) (Z0 : n0 ≤ h0.size)    :
    MetFree l x (head1 (Jvm.Cond.code x code maxLocals ret :: ws) room_1) (fun a U => a = #[(.long q1), (.long q2), (.int q3)] ∧ Z.Warmed39 U.vm ∧ U.heap = h0) (fun _ _ _ _ _ => True) (fun _ U o U' => ∃ v L, o = .returned v ∧ (ValQ (.int (1 : Int32)) n0) v U'.heap L ∧ FrameEnd U o U' L room_1.cells room_1.slots) := by
  refine MetFree.of_bodySF (plainFor_of_name pn_com_example_spindle_spindle_SpinRuleSpinNanosPinLaw) hisR ?_
  intro p e s m args below meth c s₁ Bd hml0 hP hK
  obtain ⟨rfl, hZ, hh⟩ := hP
  have hx := Bd.exec
  have hby := Bd.bytes
  have hml : c.maxLocals = 20 := hml0
  have hown : s.vm.findClass "com/example/spindle/spindle/SpinRuleSpinNanosPinLaw" = some m.cls := findClass_of_methodNamed Bd.named
  have hnm := (name_of_methodNamed Bd.named Bd.method).1
  have X0 : Stand p l e room_1 s m #[(.long q1), (.long q2), (.int q3)] below meth c s₁ [] 0 0 := Stand.of_body Bd
  have e0 : s₁.heap = h0 := by rw [← hh, Bd.state]; rfl
  have N0 := Fr.nil n0
  refine GoW.mk ?_
  refine GoW.st (fun t k => castTop (ef0_rm0 m q1 q2 q3) k) ?_
  show GoW p e below s (ValQ (.int (1 : Int32)) n0) room_1.cells room_1.slots (s₁.setTop (mkF m 0 (Sh0 q1 q2 q3) []))
  refine GoW.sg (mkF m 2 (Sh0 q1 q2 q3) [(.int q3)]) (fun t k => XS.iload X0.here hx rfl (hb hby at_0) rfl k) ?_
  refine GoW.sg (mkF m 3 (Sh0 q1 q2 q3) [(.int 1), (.int q3)]) (fun t k => XS.iconst X0.here hx rfl (hb hby at_2) k) ?_
  refine GoW.sg (mkF m 4 (Sh0 q1 q2 q3) [(.int (q3 &&& (1 : Int32)))]) (fun t k => XS.iand X0.here hx rfl (hb hby at_3) rfl k) ?_
  have J12_3 : ∀ b2 : Int32, b2 = (if (q3 &&& (1 : Int32)) = (0 : Int32) then (0 : Int32) else (1 : Int32)) → GoW p e below s (ValQ (.int (1 : Int32)) n0) room_1.cells room_1.slots (s₁.setTop (mkF m 12 (Sh0 q1 q2 q3) [(.int b2)])) := by
    intro b2 hb2
    refine GoW.sg (mkF m 14 (Sh1 q1 q2 q3 b2) []) (fun t k => XS.istore X0.here hx rfl (hb hby at_12) rfl (l' := (Sh1 q1 q2 q3 b2)) rfl k) ?_
    refine GoW.sg (mkF m 16 (Sh1 q1 q2 q3 b2) [(.int q3)]) (fun t k => XS.iload X0.here hx rfl (hb hby at_14) rfl k) ?_
    refine GoW.sg (mkF m 17 (Sh1 q1 q2 q3 b2) [(.int 1), (.int q3)]) (fun t k => XS.iconst X0.here hx rfl (hb hby at_16) k) ?_
    refine GoW.sg (mkF m 18 (Sh1 q1 q2 q3 b2) [(.int (q3 >>> ((1 : Int32) &&& 31)))]) (fun t k => XS.ishr X0.here hx rfl (hb hby at_17) rfl k) ?_
    refine GoW.sg (mkF m 19 (Sh1 q1 q2 q3 b2) [(.int 3), (.int (q3 >>> ((1 : Int32) &&& 31)))]) (fun t k => XS.iconst X0.here hx rfl (hb hby at_18) k) ?_
    refine GoW.sg (mkF m 20 (Sh1 q1 q2 q3 b2) [(.int ((q3 >>> ((1 : Int32) &&& 31)) &&& (3 : Int32)))]) (fun t k => XS.iand X0.here hx rfl (hb hby at_19) rfl k) ?_
    refine GoW.sg (mkF m 22 (Sh2 q1 q2 q3 b2 ((q3 >>> ((1 : Int32) &&& 31)) &&& (3 : Int32))) []) (fun t k => XS.istore X0.here hx rfl (hb hby at_20) rfl (l' := (Sh2 q1 q2 q3 b2 ((q3 >>> ((1 : Int32) &&& 31)) &&& (3 : Int32)))) rfl k) ?_
    obtain ⟨z5, hz5⟩ : ∃ z : Int32, z = ((q3 >>> ((1 : Int32) &&& 31)) &&& (3 : Int32)) := ⟨_, rfl⟩
    rw [← hz5]
    show GoW p e below s (ValQ (.int (1 : Int32)) n0) room_1.cells room_1.slots (s₁.setTop (mkF m 22 (Sh2 q1 q2 q3 b2 z5) []))
    refine GoW.sg (mkF m 24 (Sh2 q1 q2 q3 b2 z5) [(.int q3)]) (fun t k => XS.iload X0.here hx rfl (hb hby at_22) rfl k) ?_
    refine GoW.sg (mkF m 26 (Sh2 q1 q2 q3 b2 z5) [(.int 8), (.int q3)]) (fun t k => XS.bipush X0.here hx rfl (hb hby at_24) k) ?_
    refine GoW.sg (mkF m 27 (Sh2 q1 q2 q3 b2 z5) [(.int (q3 &&& (8 : Int32)))]) (fun t k => XS.iand X0.here hx rfl (hb hby at_26) rfl k) ?_
    have J35_8 : ∀ b7 : Int32, b7 = (if (q3 &&& (8 : Int32)) = (0 : Int32) then (0 : Int32) else (1 : Int32)) → GoW p e below s (ValQ (.int (1 : Int32)) n0) room_1.cells room_1.slots (s₁.setTop (mkF m 35 (Sh2 q1 q2 q3 b2 z5) [(.int b7)])) := by
      intro b7 hb7
      refine GoW.sg (mkF m 37 (Sh3 q1 q2 q3 b2 z5 b7) []) (fun t k => XS.istore X0.here hx rfl (hb hby at_35) rfl (l' := (Sh3 q1 q2 q3 b2 z5 b7)) rfl k) ?_
      refine GoW.sg (mkF m 39 (Sh3 q1 q2 q3 b2 z5 b7) [(.int b7)]) (fun t k => XS.iload X0.here hx rfl (hb hby at_37) rfl k) ?_
      have J55_12 : ∀ b11 : Int64, b11 = (if b7 = (0 : Int32) then q1 else ((19999 : Int64) + (q1 &&& (3 : Int64)))) → GoW p e below s (ValQ (.int (1 : Int32)) n0) room_1.cells room_1.slots (s₁.setTop (mkF m 55 (Sh3 q1 q2 q3 b2 z5 b7) [(.long b11)])) := by
        intro b11 hb11
        refine GoW.sg (mkF m 57 (Sh4 q1 q2 q3 b2 z5 b7 b11) []) (fun t k => XS.lstore X0.here hx rfl (hb hby at_55) rfl (l' := (Sh4 q1 q2 q3 b2 z5 b7 b11)) rfl k) ?_
        obtain ⟨T14, h14, X14, e14, E14, A14, D14, -, st14⟩ := newO X0 hx hZ hown (ww hw 0 rfl) (ww hw 1 rfl) (ww hw 2 rfl) e0 (g := (mkF m 57 (Sh4 q1 q2 q3 b2 z5 b7 b11) [])) rfl (hb hby at_57) (by decide) (by decide)
        obtain ⟨b14, g14⟩ : ∃ z, z = h0.size := ⟨_, rfl⟩
        rw [← g14] at A14 D14 st14
        have g_b14 : n0 ≤ b14 := Nat.le_trans Z0 (Nat.le_of_eq g14.symm)
        have Zs_14 : n0 ≤ h14.size := Nat.le_trans Z0 E14.1
        have Fld_b14_answeredShare_14 : Fld Z h14 b14 "com/example/spindle/spindle/SpinRule" "answeredShare" "D" (.double (0 : UInt64)) := D14 (Or.inl (ww hw 10 rfl)) (ty := .double) (by decide)
        have Fld_b14_handedOn_14 : Fld Z h14 b14 "com/example/spindle/spindle/SpinRule" "handedOn" "Z" (.int (0 : Int32)) := D14 (Or.inl (ww hw 17 rfl)) (ty := .boolean) (by decide)
        have Fld_b14_awaitsAnswer_14 : Fld Z h14 b14 "com/example/spindle/spindle/SpinRule" "awaitsAnswer" "Z" (.int (0 : Int32)) := D14 (Or.inl (ww hw 19 rfl)) (ty := .boolean) (by decide)
        refine GoW.sg (mkF m 60 (Sh4 q1 q2 q3 b2 z5 b7 b11) [(.ref b14)]) (fun t k => st14 t k) ?_
        refine GoW.sg (mkF m 61 (Sh4 q1 q2 q3 b2 z5 b7 b11) [(.ref b14), (.ref b14)]) (fun t k => XS.dup X14.here hx rfl (hb hby at_60) rfl rfl k) ?_
        obtain ⟨_, _, ⟨T19, L19, k19, n19⟩, -, X19, ⟨Lc19, hQ19, l19, y19, z19⟩, st19⟩ := X14.specialBack hx (y := (⟨"com/example/spindle/spindle/SpinRule", "<init>", "()V"⟩ : MethodName)) rfl hown (mvT hZ (ww hw 3 rfl)) (mvT hZ (ww hw 4 rfl)) (mvT hZ (ww hw 5 rfl)) (by decide) (backOf (W := 1) (rm1_1 l Z a0 hw [] b14  h14 n0  A14 Fld_b14_answeredShare_14 Fld_b14_handedOn_14 Fld_b14_awaitsAnswer_14 g_b14   ) hZ (ww hw 5 rfl) (ww hw 2 rfl) (by decide) (by decide)) (g := (mkF m 61 (Sh4 q1 q2 q3 b2 z5 b7 b11) [(.ref b14), (.ref b14)])) rfl (by rw [hml]; rfl) (Steps.refl _) (a := b14) (argsL := []) (rest := [(.ref b14)]) (lenOf pd_2829V rfl) rfl (by show 2 * 0 + _ ≤ _; exact Nat.le_of_eq rfl) (hb hby at_61) (fun _ _ => ⟨rfl, e14, (by decide : 1 + 0 ≤ _), (by decide : 3 + 0 ≤ _)⟩)
        dsimp only [Pt.U, Pt.locs, Pt.cells, Pt.slots] at X19 l19 y19 z19 st19 hQ19
        subst l19 y19 z19
        obtain ⟨rfl, N19q, K19, p19_0, p19_1, p19_2, p19_3⟩ := hQ19
        have N19 := Fr.app N0 N19q
        have Zs_19 : n0 ≤ T19.heap.size := Nat.le_trans Zs_14 K19.1
        refine GoW.sg (mkF m 64 (Sh4 q1 q2 q3 b2 z5 b7 b11) [(.ref b14)]) (fun t k => st19.trans k) ?_
        refine GoW.sg (mkF m 66 (Sh5 q1 q2 q3 b2 z5 b7 b11 b14) []) (fun t k => XS.astore X19.here hx rfl (hb hby at_64) rfl rfl (l' := (Sh5 q1 q2 q3 b2 z5 b7 b11 b14)) rfl k) ?_
        refine GoW.sg (mkF m 67 (Sh5 q1 q2 q3 b2 z5 b7 b11 b14) [(.int 1)]) (fun t k => XS.iconst X19.here hx rfl (hb hby at_66) k) ?_
        refine GoW.sg (mkF m 69 (Sh6 q1 q2 q3 b2 z5 b7 b11 b14 1) []) (fun t k => XS.istore X19.here hx rfl (hb hby at_67) rfl (l' := (Sh6 q1 q2 q3 b2 z5 b7 b11 b14 1)) rfl k) ?_
        have hor : z5 = 0 ∨ z5 = 1 ∨ z5 = 2 ∨ z5 = 3 := by rw [hz5]; exact own_and3 _
        clear hz5
        rcases hor with cc | cc | cc | cc
        · subst cc
          show GoW p e below s (ValQ (.int (1 : Int32)) n0) room_1.cells room_1.slots (T19.setTop (mkF m 69 (Sh6 q1 q2 q3 b2 0 b7 b11 b14 1) []))
          refine GoW.sg (mkF m 71 (Sh6 q1 q2 q3 b2 0 b7 b11 b14 1) [(.int 0)]) (fun t k => XS.iload X19.here hx rfl (hb hby at_69) rfl k) ?_
          refine GoW.sg (mkF m 72 (Sh6 q1 q2 q3 b2 0 b7 b11 b14 1) [(.int 1), (.int 0)]) (fun t k => XS.iconst X19.here hx rfl (hb hby at_71) k) ?_
          refine GoW.sg (mkF m 130 (Sh6 q1 q2 q3 b2 0 b7 b11 b14 1) []) (fun t k => XS.icmpYes X19.here hx rfl (pc0 := 72) (pc' := 130) rfl (hb hby at_72) rfl (by decide) (by decide) (by decide) k) ?_
          rcases own_01 hb2 with cc | cc
          · subst cc
            show GoW p e below s (ValQ (.int (1 : Int32)) n0) room_1.cells room_1.slots (T19.setTop (mkF m 130 (Sh6 q1 q2 q3 0 0 b7 b11 b14 1) []))
            refine GoW.sg (mkF m 132 (Sh6 q1 q2 q3 0 0 b7 b11 b14 1) [(.int 0)]) (fun t k => XS.iload X19.here hx rfl (hb hby at_130) rfl k) ?_
            refine GoW.sg (mkF m 140 (Sh6 q1 q2 q3 0 0 b7 b11 b14 1) []) (fun t k => XS.ifYes X19.here hx rfl (pc0 := 132) (pc' := 140) rfl (hb hby at_132) rfl (by decide) (by decide) (by decide) k) ?_
            by_cases c20 : (20000 : Int64) < b11
            · show GoW p e below s (ValQ (.int (1 : Int32)) n0) room_1.cells room_1.slots (T19.setTop (mkF m 140 (Sh6 q1 q2 q3 0 0 b7 b11 b14 1) []))
              refine GoW.sg (mkF m 142 (Sh6 q1 q2 q3 0 0 b7 b11 b14 1) [(.ref b14)]) (fun t k => XS.aload X19.here hx rfl (hb hby at_140) rfl rfl k) ?_
              refine GoW.sg (mkF m 144 (Sh6 q1 q2 q3 0 0 b7 b11 b14 1) [(.long b11), (.ref b14)]) (fun t k => XS.lload X19.here hx rfl (hb hby at_142) rfl k) ?_
              obtain ⟨cq29, kq29, q29a, q29b, q29c⟩ := isOf hZ rfl p19_0
              obtain ⟨_, _, ⟨T29, L29, k29, n29⟩, -, X29, ⟨Lc29, hQ29, l29, y29, z29⟩, st29⟩ := X19.virtualBack hx (y := (⟨"com/example/spindle/spindle/SpinRule", "spinNanos", "(J)J"⟩ : MethodName)) (z := (⟨"com/example/spindle/spindle/SpinRule", "spinNanos", "(J)J"⟩ : MethodName)) hown (mvT hZ (ww hw 11 rfl)) (mvT hZ (ww hw 12 rfl)) (notFace_of_selects (args := #[]) (mvT hZ (ww hw 14 rfl))) (mvT hZ (ww hw 14 rfl)) (mvT hZ (ww hw 13 rfl)) (by decide) (backOf (W := 0) (rm3_2 l Z a0 hw [] b14 b11  T19.heap n0  p19_0 p19_1 p19_2 p19_3 g_b14  c20 ) hZ (ww hw 15 rfl) (ww hw 2 rfl) (by decide) (by decide)) q29a q29c (g := (mkF m 144 (Sh6 q1 q2 q3 0 0 b7 b11 b14 1) [(.long b11), (.ref b14)])) rfl (by rw [hml]; rfl) (Steps.refl _) (argsL := [(.long b11)]) (rest := []) (lenOf pd_28J29J rfl) rfl (by show 2 * 0 + _ ≤ _; exact Nat.le_of_eq rfl) (hb hby at_144) (fun _ _ => ⟨rfl, rfl, (by decide : 1 + 0 ≤ _), (by decide : 3 + 0 ≤ _)⟩)
              dsimp only [Pt.U, Pt.locs, Pt.cells, Pt.slots] at X29 l29 y29 z29 st29 hQ29
              subst l29 y29 z29
              obtain ⟨rfl, N29q, K29, p29_0, p29_1, p29_2, p29_3⟩ := hQ29
              have N29 := Fr.app N19 N29q
              have Zs_29 : n0 ≤ T29.heap.size := Nat.le_trans Zs_19 K29.1
              refine GoW.sg (mkF m 147 (Sh6 q1 q2 q3 0 0 b7 b11 b14 1) [(.long 0)]) (fun t k => st29.trans k) ?_
              refine GoW.sg (mkF m 149 (Sh8 q1 q2 q3 0 0 b7 b11 b14 1 0) []) (fun t k => XS.lstore X29.here hx rfl (hb hby at_147) rfl (l' := (Sh8 q1 q2 q3 0 0 b7 b11 b14 1 0)) rfl k) ?_
              refine GoW.sg (mkF m 151 (Sh8 q1 q2 q3 0 0 b7 b11 b14 1 0) [(.long b11)]) (fun t k => XS.lload X29.here hx rfl (hb hby at_149) rfl k) ?_
              refine GoW.sg (mkF m 154 (Sh8 q1 q2 q3 0 0 b7 b11 b14 1 0) [(.long 20000), (.long b11)]) (fun t k => X29.ldc2Long hx hown (mvT hZ (ww hw 21 rfl)) (g := (mkF m 151 (Sh8 q1 q2 q3 0 0 b7 b11 b14 1 0) [(.long b11)])) rfl (hb hby at_151) t k) ?_
              refine GoW.sg (mkF m 155 (Sh8 q1 q2 q3 0 0 b7 b11 b14 1 0) [(.int (lcmpW b11 (20000 : Int64)))]) (fun t k => XS.lcmp X29.here hx rfl (hb hby at_154) rfl k) ?_
              refine GoW.sg (mkF m 165 (Sh8 q1 q2 q3 0 0 b7 b11 b14 1 0) []) (fun t k => XS.ifYes X29.here hx rfl (pc0 := 155) (pc' := 165) rfl (hb hby at_155) rfl ((if0 _ _).trans (tlt ((lw_gt _ _).mpr c20)).2.2.1) (by decide) (by decide) k) ?_
              refine GoW.sg (mkF m 167 (Sh8 q1 q2 q3 0 0 b7 b11 b14 1 0) [(.int 0)]) (fun t k => XS.iload X29.here hx rfl (hb hby at_165) rfl k) ?_
              refine GoW.sg (mkF m 184 (Sh8 q1 q2 q3 0 0 b7 b11 b14 1 0) []) (fun t k => XS.ifYes X29.here hx rfl (pc0 := 167) (pc' := 184) rfl (hb hby at_167) rfl (by decide) (by decide) (by decide) k) ?_
              refine GoW.sg (mkF m 185 (Sh8 q1 q2 q3 0 0 b7 b11 b14 1 0) [(.long 0)]) (fun t k => XS.lconst X29.here hx rfl (hb hby at_184) k) ?_
              refine GoW.sg (mkF m 187 (Sh9 q1 q2 q3 0 0 b7 b11 b14 1 0 0) []) (fun t k => XS.lstore X29.here hx rfl (hb hby at_185) rfl (l' := (Sh9 q1 q2 q3 0 0 b7 b11 b14 1 0 0)) rfl k) ?_
              refine GoW.sg (mkF m 189 (Sh9 q1 q2 q3 0 0 b7 b11 b14 1 0 0) [(.int 1)]) (fun t k => XS.iload X29.here hx rfl (hb hby at_187) rfl k) ?_
              refine GoW.sg (mkF m 192 (Sh9 q1 q2 q3 0 0 b7 b11 b14 1 0 0) []) (fun t k => XS.ifNo X29.here hx rfl (hb hby at_189) rfl (by decide) k) ?_
              refine GoW.sg (mkF m 194 (Sh9 q1 q2 q3 0 0 b7 b11 b14 1 0 0) [(.long 0)]) (fun t k => XS.lload X29.here hx rfl (hb hby at_192) rfl k) ?_
              refine GoW.sg (mkF m 196 (Sh9 q1 q2 q3 0 0 b7 b11 b14 1 0 0) [(.long 0), (.long 0)]) (fun t k => XS.lload X29.here hx rfl (hb hby at_194) rfl k) ?_
              refine GoW.sg (mkF m 197 (Sh9 q1 q2 q3 0 0 b7 b11 b14 1 0 0) [(.int (lcmpW (0 : Int64) (0 : Int64)))]) (fun t k => XS.lcmp X29.here hx rfl (hb hby at_196) rfl k) ?_
              refine GoW.sg (mkF m 200 (Sh9 q1 q2 q3 0 0 b7 b11 b14 1 0 0) []) (fun t k => XS.ifNo X29.here hx rfl (hb hby at_197) rfl (by decide) k) ?_
              refine GoW.sg (mkF m 201 (Sh9 q1 q2 q3 0 0 b7 b11 b14 1 0 0) [(.int 1)]) (fun t k => XS.iconst X29.here hx rfl (hb hby at_200) k) ?_
              refine GoW.sg (mkF m 205 (Sh9 q1 q2 q3 0 0 b7 b11 b14 1 0 0) [(.int 1)]) (fun t k => XS.goto X29.here hx rfl (pc0 := 201) (pc' := 205) rfl (hb hby at_201) (by decide) (by decide) k) ?_
              refine GoW.sg (mkF m 207 (Sh9 q1 q2 q3 0 0 b7 b11 b14 1 0 0) []) (fun t k => XS.istore X29.here hx rfl (hb hby at_205) rfl (l' := (Sh9 q1 q2 q3 0 0 b7 b11 b14 1 0 0)) rfl k) ?_
              refine GoW.sg (mkF m 209 (Sh9 q1 q2 q3 0 0 b7 b11 b14 1 0 0) [(.int 1)]) (fun t k => XS.iload X29.here hx rfl (hb hby at_207) rfl k) ?_
              refine GoW.sg (mkF m 212 (Sh9 q1 q2 q3 0 0 b7 b11 b14 1 0 0) []) (fun t k => XS.ifNo X29.here hx rfl (hb hby at_209) rfl (by decide) k) ?_
              refine GoW.sg (mkF m 214 (Sh9 q1 q2 q3 0 0 b7 b11 b14 1 0 0) [(.ref b14)]) (fun t k => XS.aload X29.here hx rfl (hb hby at_212) rfl rfl k) ?_
              refine GoW.sg (mkF m 215 (Sh9 q1 q2 q3 0 0 b7 b11 b14 1 0 0) [(.long 0), (.ref b14)]) (fun t k => XS.lconst X29.here hx rfl (hb hby at_214) k) ?_
              obtain ⟨cq32, kq32, q32a, q32b, q32c⟩ := isOf hZ rfl p29_0
              obtain ⟨_, _, ⟨T32, L32, k32, n32⟩, -, X32, ⟨Lc32, hQ32, l32, y32, z32⟩, st32⟩ := X29.virtualBack hx (y := (⟨"com/example/spindle/spindle/SpinRule", "timesWait", "(J)Z"⟩ : MethodName)) (z := (⟨"com/example/spindle/spindle/SpinRule", "timesWait", "(J)Z"⟩ : MethodName)) hown (mvT hZ (ww hw 22 rfl)) (mvT hZ (ww hw 23 rfl)) (notFace_of_selects (args := #[]) (mvT hZ (ww hw 25 rfl))) (mvT hZ (ww hw 25 rfl)) (mvT hZ (ww hw 24 rfl)) (by decide) (backOf (W := 0) (rm4_3 l Z a0 hw [] b14  T29.heap n0  p29_0 p29_1 p29_2 p29_3    ) hZ (ww hw 26 rfl) (ww hw 2 rfl) (by decide) (by decide)) q32a q32c (g := (mkF m 215 (Sh9 q1 q2 q3 0 0 b7 b11 b14 1 0 0) [(.long 0), (.ref b14)])) rfl (by rw [hml]; rfl) (Steps.refl _) (argsL := [(.long (0 : Int64))]) (rest := []) (lenOf pd_28J29Z rfl) rfl (by show 2 * 0 + _ ≤ _; exact Nat.le_of_eq rfl) (hb hby at_215) (fun _ _ => ⟨rfl, rfl, (by decide : 1 + 0 ≤ _), (by decide : 3 + 0 ≤ _)⟩)
              dsimp only [Pt.U, Pt.locs, Pt.cells, Pt.slots] at X32 l32 y32 z32 st32 hQ32
              subst l32 y32 z32
              obtain ⟨rfl, N32q, e32⟩ := hQ32
              have N32 := Fr.app N29 N32q
              refine GoW.sg (mkF m 218 (Sh9 q1 q2 q3 0 0 b7 b11 b14 1 0 0) [(.int 0)]) (fun t k => st32.trans k) ?_
              refine GoW.sg (mkF m 220 (Sh9 q1 q2 q3 0 0 b7 b11 b14 1 0 0) [(.int 0), (.int 0)]) (fun t k => XS.iload X32.here hx rfl (hb hby at_218) rfl k) ?_
              refine GoW.sg (mkF m 223 (Sh9 q1 q2 q3 0 0 b7 b11 b14 1 0 0) []) (fun t k => XS.icmpNo X32.here hx rfl (hb hby at_220) rfl (by decide) k) ?_
              refine GoW.sg (mkF m 224 (Sh9 q1 q2 q3 0 0 b7 b11 b14 1 0 0) [(.int 1)]) (fun t k => XS.iconst X32.here hx rfl (hb hby at_223) k) ?_
              refine GoW.sg (mkF m 228 (Sh9 q1 q2 q3 0 0 b7 b11 b14 1 0 0) [(.int 1)]) (fun t k => XS.goto X32.here hx rfl (pc0 := 224) (pc' := 228) rfl (hb hby at_224) (by decide) (by decide) k) ?_
              refine GoW.sg (mkF m 230 (Sh9 q1 q2 q3 0 0 b7 b11 b14 1 0 0) []) (fun t k => XS.istore X32.here hx rfl (hb hby at_228) rfl (l' := (Sh9 q1 q2 q3 0 0 b7 b11 b14 1 0 0)) rfl k) ?_
              by_cases c33 : (20000 : Int64) < q2
              · show GoW p e below s (ValQ (.int (1 : Int32)) n0) room_1.cells room_1.slots (T32.setTop (mkF m 230 (Sh9 q1 q2 q3 0 0 b7 b11 b14 1 0 0) []))
                refine GoW.sg (mkF m 232 (Sh9 q1 q2 q3 0 0 b7 b11 b14 1 0 0) [(.ref b14)]) (fun t k => XS.aload X32.here hx rfl (hb hby at_230) rfl rfl k) ?_
                refine GoW.sg (mkF m 233 (Sh9 q1 q2 q3 0 0 b7 b11 b14 1 0 0) [(.long q2), (.ref b14)]) (fun t k => XS.lloadN X32.here hx rfl (hb hby at_232) rfl k) ?_
                obtain ⟨cq34, kq34, q34a, q34b, q34c⟩ := isOf hZ e32 p29_0
                obtain ⟨_, _, ⟨T34, L34, k34, n34⟩, -, X34, ⟨Lc34, hQ34, l34, y34, z34⟩, st34⟩ := X32.virtualBack hx (y := (⟨"com/example/spindle/spindle/SpinRule", "spinNanos", "(J)J"⟩ : MethodName)) (z := (⟨"com/example/spindle/spindle/SpinRule", "spinNanos", "(J)J"⟩ : MethodName)) hown (mvT hZ (ww hw 11 rfl)) (mvT hZ (ww hw 12 rfl)) (notFace_of_selects (args := #[]) (mvT hZ (ww hw 14 rfl))) (mvT hZ (ww hw 14 rfl)) (mvT hZ (ww hw 13 rfl)) (by decide) (backOf (W := 0) (rm3_2 l Z a0 hw [] b14 q2  T29.heap n0  p29_0 p29_1 p29_2 p29_3 g_b14  c33 ) hZ (ww hw 15 rfl) (ww hw 2 rfl) (by decide) (by decide)) q34a q34c (g := (mkF m 233 (Sh9 q1 q2 q3 0 0 b7 b11 b14 1 0 0) [(.long q2), (.ref b14)])) rfl (by rw [hml]; rfl) (Steps.refl _) (argsL := [(.long q2)]) (rest := []) (lenOf pd_28J29J rfl) rfl (by show 2 * 0 + _ ≤ _; exact Nat.le_of_eq rfl) (hb hby at_233) (fun _ _ => ⟨rfl, e32, (by decide : 1 + 0 ≤ _), (by decide : 3 + 0 ≤ _)⟩)
                dsimp only [Pt.U, Pt.locs, Pt.cells, Pt.slots] at X34 l34 y34 z34 st34 hQ34
                subst l34 y34 z34
                obtain ⟨rfl, N34q, K34, p34_0, p34_1, p34_2, p34_3⟩ := hQ34
                have N34 := Fr.app N32 N34q
                have Zs_34 : n0 ≤ T34.heap.size := Nat.le_trans Zs_29 K34.1
                refine GoW.sg (mkF m 236 (Sh9 q1 q2 q3 0 0 b7 b11 b14 1 0 0) [(.long 0)]) (fun t k => st34.trans k) ?_
                refine GoW.sg (mkF m 238 (Sh10 q1 q2 q3 0 0 b7 b11 b14 1 0 0 0) []) (fun t k => XS.lstore X34.here hx rfl (hb hby at_236) rfl (l' := (Sh10 q1 q2 q3 0 0 b7 b11 b14 1 0 0 0)) rfl k) ?_
                refine GoW.sg (mkF m 239 (Sh10 q1 q2 q3 0 0 b7 b11 b14 1 0 0 0) [(.long q2)]) (fun t k => XS.lloadN X34.here hx rfl (hb hby at_238) rfl k) ?_
                refine GoW.sg (mkF m 242 (Sh10 q1 q2 q3 0 0 b7 b11 b14 1 0 0 0) [(.long 20000), (.long q2)]) (fun t k => X34.ldc2Long hx hown (mvT hZ (ww hw 21 rfl)) (g := (mkF m 239 (Sh10 q1 q2 q3 0 0 b7 b11 b14 1 0 0 0) [(.long q2)])) rfl (hb hby at_239) t k) ?_
                refine GoW.sg (mkF m 243 (Sh10 q1 q2 q3 0 0 b7 b11 b14 1 0 0 0) [(.int (lcmpW q2 (20000 : Int64)))]) (fun t k => XS.lcmp X34.here hx rfl (hb hby at_242) rfl k) ?_
                refine GoW.sg (mkF m 250 (Sh10 q1 q2 q3 0 0 b7 b11 b14 1 0 0 0) []) (fun t k => XS.ifYes X34.here hx rfl (pc0 := 243) (pc' := 250) rfl (hb hby at_243) rfl ((if0 _ _).trans (tlt ((lw_gt _ _).mpr c33)).2.2.1) (by decide) (by decide) k) ?_
                refine GoW.sg (mkF m 251 (Sh10 q1 q2 q3 0 0 b7 b11 b14 1 0 0 0) [(.long 0)]) (fun t k => XS.lconst X34.here hx rfl (hb hby at_250) k) ?_
                refine GoW.sg (mkF m 253 (Sh11 q1 q2 q3 0 0 b7 b11 b14 1 0 0 0 0) []) (fun t k => XS.lstore X34.here hx rfl (hb hby at_251) rfl (l' := (Sh11 q1 q2 q3 0 0 b7 b11 b14 1 0 0 0 0)) rfl k) ?_
                refine GoW.sg (mkF m 255 (Sh11 q1 q2 q3 0 0 b7 b11 b14 1 0 0 0 0) [(.int 1)]) (fun t k => XS.iload X34.here hx rfl (hb hby at_253) rfl k) ?_
                refine GoW.sg (mkF m 258 (Sh11 q1 q2 q3 0 0 b7 b11 b14 1 0 0 0 0) []) (fun t k => XS.ifNo X34.here hx rfl (hb hby at_255) rfl (by decide) k) ?_
                refine GoW.sg (mkF m 260 (Sh11 q1 q2 q3 0 0 b7 b11 b14 1 0 0 0 0) [(.long 0)]) (fun t k => XS.lload X34.here hx rfl (hb hby at_258) rfl k) ?_
                refine GoW.sg (mkF m 262 (Sh11 q1 q2 q3 0 0 b7 b11 b14 1 0 0 0 0) [(.long 0), (.long 0)]) (fun t k => XS.lload X34.here hx rfl (hb hby at_260) rfl k) ?_
                refine GoW.sg (mkF m 263 (Sh11 q1 q2 q3 0 0 b7 b11 b14 1 0 0 0 0) [(.int (lcmpW (0 : Int64) (0 : Int64)))]) (fun t k => XS.lcmp X34.here hx rfl (hb hby at_262) rfl k) ?_
                refine GoW.sg (mkF m 266 (Sh11 q1 q2 q3 0 0 b7 b11 b14 1 0 0 0 0) []) (fun t k => XS.ifNo X34.here hx rfl (hb hby at_263) rfl (by decide) k) ?_
                refine GoW.sg (mkF m 267 (Sh11 q1 q2 q3 0 0 b7 b11 b14 1 0 0 0 0) [(.int 1)]) (fun t k => XS.iconst X34.here hx rfl (hb hby at_266) k) ?_
                refine GoW.sg (mkF m 271 (Sh11 q1 q2 q3 0 0 b7 b11 b14 1 0 0 0 0) [(.int 1)]) (fun t k => XS.goto X34.here hx rfl (pc0 := 267) (pc' := 271) rfl (hb hby at_267) (by decide) (by decide) k) ?_
                refine GoW.sg (mkF m 273 (Sh11 q1 q2 q3 0 0 b7 b11 b14 1 0 0 0 0) []) (fun t k => XS.istore X34.here hx rfl (hb hby at_271) rfl (l' := (Sh11 q1 q2 q3 0 0 b7 b11 b14 1 0 0 0 0)) rfl k) ?_
                refine GoW.sg (mkF m 275 (Sh11 q1 q2 q3 0 0 b7 b11 b14 1 0 0 0 0) [(.int 1)]) (fun t k => XS.iload X34.here hx rfl (hb hby at_273) rfl k) ?_
                refine GoW.sg (mkF m 278 (Sh11 q1 q2 q3 0 0 b7 b11 b14 1 0 0 0 0) []) (fun t k => XS.ifNo X34.here hx rfl (hb hby at_275) rfl (by decide) k) ?_
                refine GoW.sg (mkF m 280 (Sh11 q1 q2 q3 0 0 b7 b11 b14 1 0 0 0 0) [(.ref b14)]) (fun t k => XS.aload X34.here hx rfl (hb hby at_278) rfl rfl k) ?_
                refine GoW.sg (mkF m 281 (Sh11 q1 q2 q3 0 0 b7 b11 b14 1 0 0 0 0) [(.long 0), (.ref b14)]) (fun t k => XS.lconst X34.here hx rfl (hb hby at_280) k) ?_
                obtain ⟨cq35, kq35, q35a, q35b, q35c⟩ := isOf hZ rfl p34_0
                obtain ⟨_, _, ⟨T35, L35, k35, n35⟩, -, X35, ⟨Lc35, hQ35, l35, y35, z35⟩, st35⟩ := X34.virtualBack hx (y := (⟨"com/example/spindle/spindle/SpinRule", "timesWait", "(J)Z"⟩ : MethodName)) (z := (⟨"com/example/spindle/spindle/SpinRule", "timesWait", "(J)Z"⟩ : MethodName)) hown (mvT hZ (ww hw 22 rfl)) (mvT hZ (ww hw 23 rfl)) (notFace_of_selects (args := #[]) (mvT hZ (ww hw 25 rfl))) (mvT hZ (ww hw 25 rfl)) (mvT hZ (ww hw 24 rfl)) (by decide) (backOf (W := 0) (rm4_3 l Z a0 hw [] b14  T34.heap n0  p34_0 p34_1 p34_2 p34_3    ) hZ (ww hw 26 rfl) (ww hw 2 rfl) (by decide) (by decide)) q35a q35c (g := (mkF m 281 (Sh11 q1 q2 q3 0 0 b7 b11 b14 1 0 0 0 0) [(.long 0), (.ref b14)])) rfl (by rw [hml]; rfl) (Steps.refl _) (argsL := [(.long (0 : Int64))]) (rest := []) (lenOf pd_28J29Z rfl) rfl (by show 2 * 0 + _ ≤ _; exact Nat.le_of_eq rfl) (hb hby at_281) (fun _ _ => ⟨rfl, rfl, (by decide : 1 + 0 ≤ _), (by decide : 3 + 0 ≤ _)⟩)
                dsimp only [Pt.U, Pt.locs, Pt.cells, Pt.slots] at X35 l35 y35 z35 st35 hQ35
                subst l35 y35 z35
                obtain ⟨rfl, N35q, e35⟩ := hQ35
                have N35 := Fr.app N34 N35q
                refine GoW.sg (mkF m 284 (Sh11 q1 q2 q3 0 0 b7 b11 b14 1 0 0 0 0) [(.int 0)]) (fun t k => st35.trans k) ?_
                refine GoW.sg (mkF m 287 (Sh11 q1 q2 q3 0 0 b7 b11 b14 1 0 0 0 0) []) (fun t k => XS.ifNo X35.here hx rfl (hb hby at_284) rfl (by decide) k) ?_
                refine GoW.sg (mkF m 288 (Sh11 q1 q2 q3 0 0 b7 b11 b14 1 0 0 0 0) [(.int 1)]) (fun t k => XS.iconst X35.here hx rfl (hb hby at_287) k) ?_
                refine GoW.sg (mkF m 292 (Sh11 q1 q2 q3 0 0 b7 b11 b14 1 0 0 0 0) [(.int 1)]) (fun t k => XS.goto X35.here hx rfl (pc0 := 288) (pc' := 292) rfl (hb hby at_288) (by decide) (by decide) k) ?_
                refine GoW.sg (mkF m 294 (Sh11 q1 q2 q3 0 0 b7 b11 b14 1 0 0 0 0) []) (fun t k => XS.istore X35.here hx rfl (hb hby at_292) rfl (l' := (Sh11 q1 q2 q3 0 0 b7 b11 b14 1 0 0 0 0)) rfl k) ?_
                refine GoW.sg (mkF m 296 (Sh11 q1 q2 q3 0 0 b7 b11 b14 1 0 0 0 0) [(.int 1)]) (fun t k => XS.iload X35.here hx rfl (hb hby at_294) rfl k) ?_
                refine GoW.retN X35 hx (t := .boolean) Bd.returns (by simp) (hb hby at_296) Bd.notSynchronized ?_ (by decide) (by decide)
                exact ⟨rfl, N35⟩
              · show GoW p e below s (ValQ (.int (1 : Int32)) n0) room_1.cells room_1.slots (T32.setTop (mkF m 230 (Sh9 q1 q2 q3 0 0 b7 b11 b14 1 0 0) []))
                refine GoW.sg (mkF m 232 (Sh9 q1 q2 q3 0 0 b7 b11 b14 1 0 0) [(.ref b14)]) (fun t k => XS.aload X32.here hx rfl (hb hby at_230) rfl rfl k) ?_
                refine GoW.sg (mkF m 233 (Sh9 q1 q2 q3 0 0 b7 b11 b14 1 0 0) [(.long q2), (.ref b14)]) (fun t k => XS.lloadN X32.here hx rfl (hb hby at_232) rfl k) ?_
                obtain ⟨cq42, kq42, q42a, q42b, q42c⟩ := isOf hZ e32 p29_0
                obtain ⟨_, _, ⟨T42, L42, k42, n42⟩, -, X42, ⟨Lc42, hQ42, l42, y42, z42⟩, st42⟩ := X32.virtualBack hx (y := (⟨"com/example/spindle/spindle/SpinRule", "spinNanos", "(J)J"⟩ : MethodName)) (z := (⟨"com/example/spindle/spindle/SpinRule", "spinNanos", "(J)J"⟩ : MethodName)) hown (mvT hZ (ww hw 11 rfl)) (mvT hZ (ww hw 12 rfl)) (notFace_of_selects (args := #[]) (mvT hZ (ww hw 14 rfl))) (mvT hZ (ww hw 14 rfl)) (mvT hZ (ww hw 13 rfl)) (by decide) (backOf (W := 0) (rm3_4 l Z a0 hw [] b14 q2  T29.heap n0  p29_0 p29_1 p29_2 p29_3 g_b14  c33 ) hZ (ww hw 15 rfl) (ww hw 2 rfl) (by decide) (by decide)) q42a q42c (g := (mkF m 233 (Sh9 q1 q2 q3 0 0 b7 b11 b14 1 0 0) [(.long q2), (.ref b14)])) rfl (by rw [hml]; rfl) (Steps.refl _) (argsL := [(.long q2)]) (rest := []) (lenOf pd_28J29J rfl) rfl (by show 2 * 0 + _ ≤ _; exact Nat.le_of_eq rfl) (hb hby at_233) (fun _ _ => ⟨rfl, e32, (by decide : 1 + 0 ≤ _), (by decide : 3 + 0 ≤ _)⟩)
                dsimp only [Pt.U, Pt.locs, Pt.cells, Pt.slots] at X42 l42 y42 z42 st42 hQ42
                subst l42 y42 z42
                obtain ⟨rfl, N42q, K42, p42_0, p42_1, p42_2, p42_3⟩ := hQ42
                have N42 := Fr.app N32 N42q
                have Zs_42 : n0 ≤ T42.heap.size := Nat.le_trans Zs_29 K42.1
                refine GoW.sg (mkF m 236 (Sh9 q1 q2 q3 0 0 b7 b11 b14 1 0 0) [(.long q2)]) (fun t k => st42.trans k) ?_
                refine GoW.sg (mkF m 238 (Sh10 q1 q2 q3 0 0 b7 b11 b14 1 0 0 q2) []) (fun t k => XS.lstore X42.here hx rfl (hb hby at_236) rfl (l' := (Sh10 q1 q2 q3 0 0 b7 b11 b14 1 0 0 q2)) rfl k) ?_
                refine GoW.sg (mkF m 239 (Sh10 q1 q2 q3 0 0 b7 b11 b14 1 0 0 q2) [(.long q2)]) (fun t k => XS.lloadN X42.here hx rfl (hb hby at_238) rfl k) ?_
                refine GoW.sg (mkF m 242 (Sh10 q1 q2 q3 0 0 b7 b11 b14 1 0 0 q2) [(.long 20000), (.long q2)]) (fun t k => X42.ldc2Long hx hown (mvT hZ (ww hw 21 rfl)) (g := (mkF m 239 (Sh10 q1 q2 q3 0 0 b7 b11 b14 1 0 0 q2) [(.long q2)])) rfl (hb hby at_239) t k) ?_
                refine GoW.sg (mkF m 243 (Sh10 q1 q2 q3 0 0 b7 b11 b14 1 0 0 q2) [(.int (lcmpW q2 (20000 : Int64)))]) (fun t k => XS.lcmp X42.here hx rfl (hb hby at_242) rfl k) ?_
                refine GoW.sg (mkF m 246 (Sh10 q1 q2 q3 0 0 b7 b11 b14 1 0 0 q2) []) (fun t k => XS.ifNo X42.here hx rfl (hb hby at_243) rfl ((if0 _ _).trans (flt (mt (lw_gt _ _).mp c33)).2.2.1) k) ?_
                refine GoW.sg (mkF m 247 (Sh10 q1 q2 q3 0 0 b7 b11 b14 1 0 0 q2) [(.long q2)]) (fun t k => XS.lloadN X42.here hx rfl (hb hby at_246) rfl k) ?_
                refine GoW.sg (mkF m 251 (Sh10 q1 q2 q3 0 0 b7 b11 b14 1 0 0 q2) [(.long q2)]) (fun t k => XS.goto X42.here hx rfl (pc0 := 247) (pc' := 251) rfl (hb hby at_247) (by decide) (by decide) k) ?_
                refine GoW.sg (mkF m 253 (Sh11 q1 q2 q3 0 0 b7 b11 b14 1 0 0 q2 q2) []) (fun t k => XS.lstore X42.here hx rfl (hb hby at_251) rfl (l' := (Sh11 q1 q2 q3 0 0 b7 b11 b14 1 0 0 q2 q2)) rfl k) ?_
                refine GoW.sg (mkF m 255 (Sh11 q1 q2 q3 0 0 b7 b11 b14 1 0 0 q2 q2) [(.int 1)]) (fun t k => XS.iload X42.here hx rfl (hb hby at_253) rfl k) ?_
                refine GoW.sg (mkF m 258 (Sh11 q1 q2 q3 0 0 b7 b11 b14 1 0 0 q2 q2) []) (fun t k => XS.ifNo X42.here hx rfl (hb hby at_255) rfl (by decide) k) ?_
                refine GoW.sg (mkF m 260 (Sh11 q1 q2 q3 0 0 b7 b11 b14 1 0 0 q2 q2) [(.long q2)]) (fun t k => XS.lload X42.here hx rfl (hb hby at_258) rfl k) ?_
                refine GoW.sg (mkF m 262 (Sh11 q1 q2 q3 0 0 b7 b11 b14 1 0 0 q2 q2) [(.long q2), (.long q2)]) (fun t k => XS.lload X42.here hx rfl (hb hby at_260) rfl k) ?_
                refine GoW.sg (mkF m 263 (Sh11 q1 q2 q3 0 0 b7 b11 b14 1 0 0 q2 q2) [(.int (lcmpW q2 q2))]) (fun t k => XS.lcmp X42.here hx rfl (hb hby at_262) rfl k) ?_
                refine GoW.sg (mkF m 266 (Sh11 q1 q2 q3 0 0 b7 b11 b14 1 0 0 q2 q2) []) (fun t k => XS.ifNo X42.here hx rfl (hb hby at_263) rfl ((if0 _ _).trans (teq ((lw_eq _ _).mpr rfl)).2) k) ?_
                refine GoW.sg (mkF m 267 (Sh11 q1 q2 q3 0 0 b7 b11 b14 1 0 0 q2 q2) [(.int 1)]) (fun t k => XS.iconst X42.here hx rfl (hb hby at_266) k) ?_
                refine GoW.sg (mkF m 271 (Sh11 q1 q2 q3 0 0 b7 b11 b14 1 0 0 q2 q2) [(.int 1)]) (fun t k => XS.goto X42.here hx rfl (pc0 := 267) (pc' := 271) rfl (hb hby at_267) (by decide) (by decide) k) ?_
                refine GoW.sg (mkF m 273 (Sh11 q1 q2 q3 0 0 b7 b11 b14 1 0 0 q2 q2) []) (fun t k => XS.istore X42.here hx rfl (hb hby at_271) rfl (l' := (Sh11 q1 q2 q3 0 0 b7 b11 b14 1 0 0 q2 q2)) rfl k) ?_
                refine GoW.sg (mkF m 275 (Sh11 q1 q2 q3 0 0 b7 b11 b14 1 0 0 q2 q2) [(.int 1)]) (fun t k => XS.iload X42.here hx rfl (hb hby at_273) rfl k) ?_
                refine GoW.sg (mkF m 278 (Sh11 q1 q2 q3 0 0 b7 b11 b14 1 0 0 q2 q2) []) (fun t k => XS.ifNo X42.here hx rfl (hb hby at_275) rfl (by decide) k) ?_
                refine GoW.sg (mkF m 280 (Sh11 q1 q2 q3 0 0 b7 b11 b14 1 0 0 q2 q2) [(.ref b14)]) (fun t k => XS.aload X42.here hx rfl (hb hby at_278) rfl rfl k) ?_
                refine GoW.sg (mkF m 281 (Sh11 q1 q2 q3 0 0 b7 b11 b14 1 0 0 q2 q2) [(.long 0), (.ref b14)]) (fun t k => XS.lconst X42.here hx rfl (hb hby at_280) k) ?_
                obtain ⟨cq43, kq43, q43a, q43b, q43c⟩ := isOf hZ rfl p42_0
                obtain ⟨_, _, ⟨T43, L43, k43, n43⟩, -, X43, ⟨Lc43, hQ43, l43, y43, z43⟩, st43⟩ := X42.virtualBack hx (y := (⟨"com/example/spindle/spindle/SpinRule", "timesWait", "(J)Z"⟩ : MethodName)) (z := (⟨"com/example/spindle/spindle/SpinRule", "timesWait", "(J)Z"⟩ : MethodName)) hown (mvT hZ (ww hw 22 rfl)) (mvT hZ (ww hw 23 rfl)) (notFace_of_selects (args := #[]) (mvT hZ (ww hw 25 rfl))) (mvT hZ (ww hw 25 rfl)) (mvT hZ (ww hw 24 rfl)) (by decide) (backOf (W := 0) (rm4_3 l Z a0 hw [] b14  T42.heap n0  p42_0 p42_1 p42_2 p42_3    ) hZ (ww hw 26 rfl) (ww hw 2 rfl) (by decide) (by decide)) q43a q43c (g := (mkF m 281 (Sh11 q1 q2 q3 0 0 b7 b11 b14 1 0 0 q2 q2) [(.long 0), (.ref b14)])) rfl (by rw [hml]; rfl) (Steps.refl _) (argsL := [(.long (0 : Int64))]) (rest := []) (lenOf pd_28J29Z rfl) rfl (by show 2 * 0 + _ ≤ _; exact Nat.le_of_eq rfl) (hb hby at_281) (fun _ _ => ⟨rfl, rfl, (by decide : 1 + 0 ≤ _), (by decide : 3 + 0 ≤ _)⟩)
                dsimp only [Pt.U, Pt.locs, Pt.cells, Pt.slots] at X43 l43 y43 z43 st43 hQ43
                subst l43 y43 z43
                obtain ⟨rfl, N43q, e43⟩ := hQ43
                have N43 := Fr.app N42 N43q
                refine GoW.sg (mkF m 284 (Sh11 q1 q2 q3 0 0 b7 b11 b14 1 0 0 q2 q2) [(.int 0)]) (fun t k => st43.trans k) ?_
                refine GoW.sg (mkF m 287 (Sh11 q1 q2 q3 0 0 b7 b11 b14 1 0 0 q2 q2) []) (fun t k => XS.ifNo X43.here hx rfl (hb hby at_284) rfl (by decide) k) ?_
                refine GoW.sg (mkF m 288 (Sh11 q1 q2 q3 0 0 b7 b11 b14 1 0 0 q2 q2) [(.int 1)]) (fun t k => XS.iconst X43.here hx rfl (hb hby at_287) k) ?_
                refine GoW.sg (mkF m 292 (Sh11 q1 q2 q3 0 0 b7 b11 b14 1 0 0 q2 q2) [(.int 1)]) (fun t k => XS.goto X43.here hx rfl (pc0 := 288) (pc' := 292) rfl (hb hby at_288) (by decide) (by decide) k) ?_
                refine GoW.sg (mkF m 294 (Sh11 q1 q2 q3 0 0 b7 b11 b14 1 0 0 q2 q2) []) (fun t k => XS.istore X43.here hx rfl (hb hby at_292) rfl (l' := (Sh11 q1 q2 q3 0 0 b7 b11 b14 1 0 0 q2 q2)) rfl k) ?_
                refine GoW.sg (mkF m 296 (Sh11 q1 q2 q3 0 0 b7 b11 b14 1 0 0 q2 q2) [(.int 1)]) (fun t k => XS.iload X43.here hx rfl (hb hby at_294) rfl k) ?_
                refine GoW.retN X43 hx (t := .boolean) Bd.returns (by simp) (hb hby at_296) Bd.notSynchronized ?_ (by decide) (by decide)
                exact ⟨rfl, N43⟩
            · show GoW p e below s (ValQ (.int (1 : Int32)) n0) room_1.cells room_1.slots (T19.setTop (mkF m 140 (Sh6 q1 q2 q3 0 0 b7 b11 b14 1) []))
              refine GoW.sg (mkF m 142 (Sh6 q1 q2 q3 0 0 b7 b11 b14 1) [(.ref b14)]) (fun t k => XS.aload X19.here hx rfl (hb hby at_140) rfl rfl k) ?_
              refine GoW.sg (mkF m 144 (Sh6 q1 q2 q3 0 0 b7 b11 b14 1) [(.long b11), (.ref b14)]) (fun t k => XS.lload X19.here hx rfl (hb hby at_142) rfl k) ?_
              obtain ⟨cq44, kq44, q44a, q44b, q44c⟩ := isOf hZ rfl p19_0
              obtain ⟨_, _, ⟨T44, L44, k44, n44⟩, -, X44, ⟨Lc44, hQ44, l44, y44, z44⟩, st44⟩ := X19.virtualBack hx (y := (⟨"com/example/spindle/spindle/SpinRule", "spinNanos", "(J)J"⟩ : MethodName)) (z := (⟨"com/example/spindle/spindle/SpinRule", "spinNanos", "(J)J"⟩ : MethodName)) hown (mvT hZ (ww hw 11 rfl)) (mvT hZ (ww hw 12 rfl)) (notFace_of_selects (args := #[]) (mvT hZ (ww hw 14 rfl))) (mvT hZ (ww hw 14 rfl)) (mvT hZ (ww hw 13 rfl)) (by decide) (backOf (W := 0) (rm3_4 l Z a0 hw [] b14 b11  T19.heap n0  p19_0 p19_1 p19_2 p19_3 g_b14  c20 ) hZ (ww hw 15 rfl) (ww hw 2 rfl) (by decide) (by decide)) q44a q44c (g := (mkF m 144 (Sh6 q1 q2 q3 0 0 b7 b11 b14 1) [(.long b11), (.ref b14)])) rfl (by rw [hml]; rfl) (Steps.refl _) (argsL := [(.long b11)]) (rest := []) (lenOf pd_28J29J rfl) rfl (by show 2 * 0 + _ ≤ _; exact Nat.le_of_eq rfl) (hb hby at_144) (fun _ _ => ⟨rfl, rfl, (by decide : 1 + 0 ≤ _), (by decide : 3 + 0 ≤ _)⟩)
              dsimp only [Pt.U, Pt.locs, Pt.cells, Pt.slots] at X44 l44 y44 z44 st44 hQ44
              subst l44 y44 z44
              obtain ⟨rfl, N44q, K44, p44_0, p44_1, p44_2, p44_3⟩ := hQ44
              have N44 := Fr.app N19 N44q
              have Zs_44 : n0 ≤ T44.heap.size := Nat.le_trans Zs_19 K44.1
              refine GoW.sg (mkF m 147 (Sh6 q1 q2 q3 0 0 b7 b11 b14 1) [(.long b11)]) (fun t k => st44.trans k) ?_
              refine GoW.sg (mkF m 149 (Sh8 q1 q2 q3 0 0 b7 b11 b14 1 b11) []) (fun t k => XS.lstore X44.here hx rfl (hb hby at_147) rfl (l' := (Sh8 q1 q2 q3 0 0 b7 b11 b14 1 b11)) rfl k) ?_
              refine GoW.sg (mkF m 151 (Sh8 q1 q2 q3 0 0 b7 b11 b14 1 b11) [(.long b11)]) (fun t k => XS.lload X44.here hx rfl (hb hby at_149) rfl k) ?_
              refine GoW.sg (mkF m 154 (Sh8 q1 q2 q3 0 0 b7 b11 b14 1 b11) [(.long 20000), (.long b11)]) (fun t k => X44.ldc2Long hx hown (mvT hZ (ww hw 21 rfl)) (g := (mkF m 151 (Sh8 q1 q2 q3 0 0 b7 b11 b14 1 b11) [(.long b11)])) rfl (hb hby at_151) t k) ?_
              refine GoW.sg (mkF m 155 (Sh8 q1 q2 q3 0 0 b7 b11 b14 1 b11) [(.int (lcmpW b11 (20000 : Int64)))]) (fun t k => XS.lcmp X44.here hx rfl (hb hby at_154) rfl k) ?_
              refine GoW.sg (mkF m 158 (Sh8 q1 q2 q3 0 0 b7 b11 b14 1 b11) []) (fun t k => XS.ifNo X44.here hx rfl (hb hby at_155) rfl ((if0 _ _).trans (flt (mt (lw_gt _ _).mp c20)).2.2.1) k) ?_
              refine GoW.sg (mkF m 160 (Sh8 q1 q2 q3 0 0 b7 b11 b14 1 b11) [(.long b11)]) (fun t k => XS.lload X44.here hx rfl (hb hby at_158) rfl k) ?_
              refine GoW.sg (mkF m 162 (Sh9 q1 q2 q3 0 0 b7 b11 b14 1 b11 b11) []) (fun t k => XS.lstore X44.here hx rfl (hb hby at_160) rfl (l' := (Sh9 q1 q2 q3 0 0 b7 b11 b14 1 b11 b11)) rfl k) ?_
              refine GoW.sg (mkF m 187 (Sh9 q1 q2 q3 0 0 b7 b11 b14 1 b11 b11) []) (fun t k => XS.goto X44.here hx rfl (pc0 := 162) (pc' := 187) rfl (hb hby at_162) (by decide) (by decide) k) ?_
              refine GoW.sg (mkF m 189 (Sh9 q1 q2 q3 0 0 b7 b11 b14 1 b11 b11) [(.int 1)]) (fun t k => XS.iload X44.here hx rfl (hb hby at_187) rfl k) ?_
              refine GoW.sg (mkF m 192 (Sh9 q1 q2 q3 0 0 b7 b11 b14 1 b11 b11) []) (fun t k => XS.ifNo X44.here hx rfl (hb hby at_189) rfl (by decide) k) ?_
              refine GoW.sg (mkF m 194 (Sh9 q1 q2 q3 0 0 b7 b11 b14 1 b11 b11) [(.long b11)]) (fun t k => XS.lload X44.here hx rfl (hb hby at_192) rfl k) ?_
              refine GoW.sg (mkF m 196 (Sh9 q1 q2 q3 0 0 b7 b11 b14 1 b11 b11) [(.long b11), (.long b11)]) (fun t k => XS.lload X44.here hx rfl (hb hby at_194) rfl k) ?_
              refine GoW.sg (mkF m 197 (Sh9 q1 q2 q3 0 0 b7 b11 b14 1 b11 b11) [(.int (lcmpW b11 b11))]) (fun t k => XS.lcmp X44.here hx rfl (hb hby at_196) rfl k) ?_
              refine GoW.sg (mkF m 200 (Sh9 q1 q2 q3 0 0 b7 b11 b14 1 b11 b11) []) (fun t k => XS.ifNo X44.here hx rfl (hb hby at_197) rfl ((if0 _ _).trans (teq ((lw_eq _ _).mpr rfl)).2) k) ?_
              refine GoW.sg (mkF m 201 (Sh9 q1 q2 q3 0 0 b7 b11 b14 1 b11 b11) [(.int 1)]) (fun t k => XS.iconst X44.here hx rfl (hb hby at_200) k) ?_
              refine GoW.sg (mkF m 205 (Sh9 q1 q2 q3 0 0 b7 b11 b14 1 b11 b11) [(.int 1)]) (fun t k => XS.goto X44.here hx rfl (pc0 := 201) (pc' := 205) rfl (hb hby at_201) (by decide) (by decide) k) ?_
              refine GoW.sg (mkF m 207 (Sh9 q1 q2 q3 0 0 b7 b11 b14 1 b11 b11) []) (fun t k => XS.istore X44.here hx rfl (hb hby at_205) rfl (l' := (Sh9 q1 q2 q3 0 0 b7 b11 b14 1 b11 b11)) rfl k) ?_
              refine GoW.sg (mkF m 209 (Sh9 q1 q2 q3 0 0 b7 b11 b14 1 b11 b11) [(.int 1)]) (fun t k => XS.iload X44.here hx rfl (hb hby at_207) rfl k) ?_
              refine GoW.sg (mkF m 212 (Sh9 q1 q2 q3 0 0 b7 b11 b14 1 b11 b11) []) (fun t k => XS.ifNo X44.here hx rfl (hb hby at_209) rfl (by decide) k) ?_
              refine GoW.sg (mkF m 214 (Sh9 q1 q2 q3 0 0 b7 b11 b14 1 b11 b11) [(.ref b14)]) (fun t k => XS.aload X44.here hx rfl (hb hby at_212) rfl rfl k) ?_
              refine GoW.sg (mkF m 215 (Sh9 q1 q2 q3 0 0 b7 b11 b14 1 b11 b11) [(.long 0), (.ref b14)]) (fun t k => XS.lconst X44.here hx rfl (hb hby at_214) k) ?_
              obtain ⟨cq45, kq45, q45a, q45b, q45c⟩ := isOf hZ rfl p44_0
              obtain ⟨_, _, ⟨T45, L45, k45, n45⟩, -, X45, ⟨Lc45, hQ45, l45, y45, z45⟩, st45⟩ := X44.virtualBack hx (y := (⟨"com/example/spindle/spindle/SpinRule", "timesWait", "(J)Z"⟩ : MethodName)) (z := (⟨"com/example/spindle/spindle/SpinRule", "timesWait", "(J)Z"⟩ : MethodName)) hown (mvT hZ (ww hw 22 rfl)) (mvT hZ (ww hw 23 rfl)) (notFace_of_selects (args := #[]) (mvT hZ (ww hw 25 rfl))) (mvT hZ (ww hw 25 rfl)) (mvT hZ (ww hw 24 rfl)) (by decide) (backOf (W := 0) (rm4_3 l Z a0 hw [] b14  T44.heap n0  p44_0 p44_1 p44_2 p44_3    ) hZ (ww hw 26 rfl) (ww hw 2 rfl) (by decide) (by decide)) q45a q45c (g := (mkF m 215 (Sh9 q1 q2 q3 0 0 b7 b11 b14 1 b11 b11) [(.long 0), (.ref b14)])) rfl (by rw [hml]; rfl) (Steps.refl _) (argsL := [(.long (0 : Int64))]) (rest := []) (lenOf pd_28J29Z rfl) rfl (by show 2 * 0 + _ ≤ _; exact Nat.le_of_eq rfl) (hb hby at_215) (fun _ _ => ⟨rfl, rfl, (by decide : 1 + 0 ≤ _), (by decide : 3 + 0 ≤ _)⟩)
              dsimp only [Pt.U, Pt.locs, Pt.cells, Pt.slots] at X45 l45 y45 z45 st45 hQ45
              subst l45 y45 z45
              obtain ⟨rfl, N45q, e45⟩ := hQ45
              have N45 := Fr.app N44 N45q
              refine GoW.sg (mkF m 218 (Sh9 q1 q2 q3 0 0 b7 b11 b14 1 b11 b11) [(.int 0)]) (fun t k => st45.trans k) ?_
              refine GoW.sg (mkF m 220 (Sh9 q1 q2 q3 0 0 b7 b11 b14 1 b11 b11) [(.int 0), (.int 0)]) (fun t k => XS.iload X45.here hx rfl (hb hby at_218) rfl k) ?_
              refine GoW.sg (mkF m 223 (Sh9 q1 q2 q3 0 0 b7 b11 b14 1 b11 b11) []) (fun t k => XS.icmpNo X45.here hx rfl (hb hby at_220) rfl (by decide) k) ?_
              refine GoW.sg (mkF m 224 (Sh9 q1 q2 q3 0 0 b7 b11 b14 1 b11 b11) [(.int 1)]) (fun t k => XS.iconst X45.here hx rfl (hb hby at_223) k) ?_
              refine GoW.sg (mkF m 228 (Sh9 q1 q2 q3 0 0 b7 b11 b14 1 b11 b11) [(.int 1)]) (fun t k => XS.goto X45.here hx rfl (pc0 := 224) (pc' := 228) rfl (hb hby at_224) (by decide) (by decide) k) ?_
              refine GoW.sg (mkF m 230 (Sh9 q1 q2 q3 0 0 b7 b11 b14 1 b11 b11) []) (fun t k => XS.istore X45.here hx rfl (hb hby at_228) rfl (l' := (Sh9 q1 q2 q3 0 0 b7 b11 b14 1 b11 b11)) rfl k) ?_
              by_cases c46 : (20000 : Int64) < q2
              · show GoW p e below s (ValQ (.int (1 : Int32)) n0) room_1.cells room_1.slots (T45.setTop (mkF m 230 (Sh9 q1 q2 q3 0 0 b7 b11 b14 1 b11 b11) []))
                refine GoW.sg (mkF m 232 (Sh9 q1 q2 q3 0 0 b7 b11 b14 1 b11 b11) [(.ref b14)]) (fun t k => XS.aload X45.here hx rfl (hb hby at_230) rfl rfl k) ?_
                refine GoW.sg (mkF m 233 (Sh9 q1 q2 q3 0 0 b7 b11 b14 1 b11 b11) [(.long q2), (.ref b14)]) (fun t k => XS.lloadN X45.here hx rfl (hb hby at_232) rfl k) ?_
                obtain ⟨cq47, kq47, q47a, q47b, q47c⟩ := isOf hZ e45 p44_0
                obtain ⟨_, _, ⟨T47, L47, k47, n47⟩, -, X47, ⟨Lc47, hQ47, l47, y47, z47⟩, st47⟩ := X45.virtualBack hx (y := (⟨"com/example/spindle/spindle/SpinRule", "spinNanos", "(J)J"⟩ : MethodName)) (z := (⟨"com/example/spindle/spindle/SpinRule", "spinNanos", "(J)J"⟩ : MethodName)) hown (mvT hZ (ww hw 11 rfl)) (mvT hZ (ww hw 12 rfl)) (notFace_of_selects (args := #[]) (mvT hZ (ww hw 14 rfl))) (mvT hZ (ww hw 14 rfl)) (mvT hZ (ww hw 13 rfl)) (by decide) (backOf (W := 0) (rm3_2 l Z a0 hw [] b14 q2  T44.heap n0  p44_0 p44_1 p44_2 p44_3 g_b14  c46 ) hZ (ww hw 15 rfl) (ww hw 2 rfl) (by decide) (by decide)) q47a q47c (g := (mkF m 233 (Sh9 q1 q2 q3 0 0 b7 b11 b14 1 b11 b11) [(.long q2), (.ref b14)])) rfl (by rw [hml]; rfl) (Steps.refl _) (argsL := [(.long q2)]) (rest := []) (lenOf pd_28J29J rfl) rfl (by show 2 * 0 + _ ≤ _; exact Nat.le_of_eq rfl) (hb hby at_233) (fun _ _ => ⟨rfl, e45, (by decide : 1 + 0 ≤ _), (by decide : 3 + 0 ≤ _)⟩)
                dsimp only [Pt.U, Pt.locs, Pt.cells, Pt.slots] at X47 l47 y47 z47 st47 hQ47
                subst l47 y47 z47
                obtain ⟨rfl, N47q, K47, p47_0, p47_1, p47_2, p47_3⟩ := hQ47
                have N47 := Fr.app N45 N47q
                have Zs_47 : n0 ≤ T47.heap.size := Nat.le_trans Zs_44 K47.1
                refine GoW.sg (mkF m 236 (Sh9 q1 q2 q3 0 0 b7 b11 b14 1 b11 b11) [(.long 0)]) (fun t k => st47.trans k) ?_
                refine GoW.sg (mkF m 238 (Sh10 q1 q2 q3 0 0 b7 b11 b14 1 b11 b11 0) []) (fun t k => XS.lstore X47.here hx rfl (hb hby at_236) rfl (l' := (Sh10 q1 q2 q3 0 0 b7 b11 b14 1 b11 b11 0)) rfl k) ?_
                refine GoW.sg (mkF m 239 (Sh10 q1 q2 q3 0 0 b7 b11 b14 1 b11 b11 0) [(.long q2)]) (fun t k => XS.lloadN X47.here hx rfl (hb hby at_238) rfl k) ?_
                refine GoW.sg (mkF m 242 (Sh10 q1 q2 q3 0 0 b7 b11 b14 1 b11 b11 0) [(.long 20000), (.long q2)]) (fun t k => X47.ldc2Long hx hown (mvT hZ (ww hw 21 rfl)) (g := (mkF m 239 (Sh10 q1 q2 q3 0 0 b7 b11 b14 1 b11 b11 0) [(.long q2)])) rfl (hb hby at_239) t k) ?_
                refine GoW.sg (mkF m 243 (Sh10 q1 q2 q3 0 0 b7 b11 b14 1 b11 b11 0) [(.int (lcmpW q2 (20000 : Int64)))]) (fun t k => XS.lcmp X47.here hx rfl (hb hby at_242) rfl k) ?_
                refine GoW.sg (mkF m 250 (Sh10 q1 q2 q3 0 0 b7 b11 b14 1 b11 b11 0) []) (fun t k => XS.ifYes X47.here hx rfl (pc0 := 243) (pc' := 250) rfl (hb hby at_243) rfl ((if0 _ _).trans (tlt ((lw_gt _ _).mpr c46)).2.2.1) (by decide) (by decide) k) ?_
                refine GoW.sg (mkF m 251 (Sh10 q1 q2 q3 0 0 b7 b11 b14 1 b11 b11 0) [(.long 0)]) (fun t k => XS.lconst X47.here hx rfl (hb hby at_250) k) ?_
                refine GoW.sg (mkF m 253 (Sh11 q1 q2 q3 0 0 b7 b11 b14 1 b11 b11 0 0) []) (fun t k => XS.lstore X47.here hx rfl (hb hby at_251) rfl (l' := (Sh11 q1 q2 q3 0 0 b7 b11 b14 1 b11 b11 0 0)) rfl k) ?_
                refine GoW.sg (mkF m 255 (Sh11 q1 q2 q3 0 0 b7 b11 b14 1 b11 b11 0 0) [(.int 1)]) (fun t k => XS.iload X47.here hx rfl (hb hby at_253) rfl k) ?_
                refine GoW.sg (mkF m 258 (Sh11 q1 q2 q3 0 0 b7 b11 b14 1 b11 b11 0 0) []) (fun t k => XS.ifNo X47.here hx rfl (hb hby at_255) rfl (by decide) k) ?_
                refine GoW.sg (mkF m 260 (Sh11 q1 q2 q3 0 0 b7 b11 b14 1 b11 b11 0 0) [(.long 0)]) (fun t k => XS.lload X47.here hx rfl (hb hby at_258) rfl k) ?_
                refine GoW.sg (mkF m 262 (Sh11 q1 q2 q3 0 0 b7 b11 b14 1 b11 b11 0 0) [(.long 0), (.long 0)]) (fun t k => XS.lload X47.here hx rfl (hb hby at_260) rfl k) ?_
                refine GoW.sg (mkF m 263 (Sh11 q1 q2 q3 0 0 b7 b11 b14 1 b11 b11 0 0) [(.int (lcmpW (0 : Int64) (0 : Int64)))]) (fun t k => XS.lcmp X47.here hx rfl (hb hby at_262) rfl k) ?_
                refine GoW.sg (mkF m 266 (Sh11 q1 q2 q3 0 0 b7 b11 b14 1 b11 b11 0 0) []) (fun t k => XS.ifNo X47.here hx rfl (hb hby at_263) rfl (by decide) k) ?_
                refine GoW.sg (mkF m 267 (Sh11 q1 q2 q3 0 0 b7 b11 b14 1 b11 b11 0 0) [(.int 1)]) (fun t k => XS.iconst X47.here hx rfl (hb hby at_266) k) ?_
                refine GoW.sg (mkF m 271 (Sh11 q1 q2 q3 0 0 b7 b11 b14 1 b11 b11 0 0) [(.int 1)]) (fun t k => XS.goto X47.here hx rfl (pc0 := 267) (pc' := 271) rfl (hb hby at_267) (by decide) (by decide) k) ?_
                refine GoW.sg (mkF m 273 (Sh11 q1 q2 q3 0 0 b7 b11 b14 1 b11 b11 0 0) []) (fun t k => XS.istore X47.here hx rfl (hb hby at_271) rfl (l' := (Sh11 q1 q2 q3 0 0 b7 b11 b14 1 b11 b11 0 0)) rfl k) ?_
                refine GoW.sg (mkF m 275 (Sh11 q1 q2 q3 0 0 b7 b11 b14 1 b11 b11 0 0) [(.int 1)]) (fun t k => XS.iload X47.here hx rfl (hb hby at_273) rfl k) ?_
                refine GoW.sg (mkF m 278 (Sh11 q1 q2 q3 0 0 b7 b11 b14 1 b11 b11 0 0) []) (fun t k => XS.ifNo X47.here hx rfl (hb hby at_275) rfl (by decide) k) ?_
                refine GoW.sg (mkF m 280 (Sh11 q1 q2 q3 0 0 b7 b11 b14 1 b11 b11 0 0) [(.ref b14)]) (fun t k => XS.aload X47.here hx rfl (hb hby at_278) rfl rfl k) ?_
                refine GoW.sg (mkF m 281 (Sh11 q1 q2 q3 0 0 b7 b11 b14 1 b11 b11 0 0) [(.long 0), (.ref b14)]) (fun t k => XS.lconst X47.here hx rfl (hb hby at_280) k) ?_
                obtain ⟨cq48, kq48, q48a, q48b, q48c⟩ := isOf hZ rfl p47_0
                obtain ⟨_, _, ⟨T48, L48, k48, n48⟩, -, X48, ⟨Lc48, hQ48, l48, y48, z48⟩, st48⟩ := X47.virtualBack hx (y := (⟨"com/example/spindle/spindle/SpinRule", "timesWait", "(J)Z"⟩ : MethodName)) (z := (⟨"com/example/spindle/spindle/SpinRule", "timesWait", "(J)Z"⟩ : MethodName)) hown (mvT hZ (ww hw 22 rfl)) (mvT hZ (ww hw 23 rfl)) (notFace_of_selects (args := #[]) (mvT hZ (ww hw 25 rfl))) (mvT hZ (ww hw 25 rfl)) (mvT hZ (ww hw 24 rfl)) (by decide) (backOf (W := 0) (rm4_3 l Z a0 hw [] b14  T47.heap n0  p47_0 p47_1 p47_2 p47_3    ) hZ (ww hw 26 rfl) (ww hw 2 rfl) (by decide) (by decide)) q48a q48c (g := (mkF m 281 (Sh11 q1 q2 q3 0 0 b7 b11 b14 1 b11 b11 0 0) [(.long 0), (.ref b14)])) rfl (by rw [hml]; rfl) (Steps.refl _) (argsL := [(.long (0 : Int64))]) (rest := []) (lenOf pd_28J29Z rfl) rfl (by show 2 * 0 + _ ≤ _; exact Nat.le_of_eq rfl) (hb hby at_281) (fun _ _ => ⟨rfl, rfl, (by decide : 1 + 0 ≤ _), (by decide : 3 + 0 ≤ _)⟩)
                dsimp only [Pt.U, Pt.locs, Pt.cells, Pt.slots] at X48 l48 y48 z48 st48 hQ48
                subst l48 y48 z48
                obtain ⟨rfl, N48q, e48⟩ := hQ48
                have N48 := Fr.app N47 N48q
                refine GoW.sg (mkF m 284 (Sh11 q1 q2 q3 0 0 b7 b11 b14 1 b11 b11 0 0) [(.int 0)]) (fun t k => st48.trans k) ?_
                refine GoW.sg (mkF m 287 (Sh11 q1 q2 q3 0 0 b7 b11 b14 1 b11 b11 0 0) []) (fun t k => XS.ifNo X48.here hx rfl (hb hby at_284) rfl (by decide) k) ?_
                refine GoW.sg (mkF m 288 (Sh11 q1 q2 q3 0 0 b7 b11 b14 1 b11 b11 0 0) [(.int 1)]) (fun t k => XS.iconst X48.here hx rfl (hb hby at_287) k) ?_
                refine GoW.sg (mkF m 292 (Sh11 q1 q2 q3 0 0 b7 b11 b14 1 b11 b11 0 0) [(.int 1)]) (fun t k => XS.goto X48.here hx rfl (pc0 := 288) (pc' := 292) rfl (hb hby at_288) (by decide) (by decide) k) ?_
                refine GoW.sg (mkF m 294 (Sh11 q1 q2 q3 0 0 b7 b11 b14 1 b11 b11 0 0) []) (fun t k => XS.istore X48.here hx rfl (hb hby at_292) rfl (l' := (Sh11 q1 q2 q3 0 0 b7 b11 b14 1 b11 b11 0 0)) rfl k) ?_
                refine GoW.sg (mkF m 296 (Sh11 q1 q2 q3 0 0 b7 b11 b14 1 b11 b11 0 0) [(.int 1)]) (fun t k => XS.iload X48.here hx rfl (hb hby at_294) rfl k) ?_
                refine GoW.retN X48 hx (t := .boolean) Bd.returns (by simp) (hb hby at_296) Bd.notSynchronized ?_ (by decide) (by decide)
                exact ⟨rfl, N48⟩
              · show GoW p e below s (ValQ (.int (1 : Int32)) n0) room_1.cells room_1.slots (T45.setTop (mkF m 230 (Sh9 q1 q2 q3 0 0 b7 b11 b14 1 b11 b11) []))
                refine GoW.sg (mkF m 232 (Sh9 q1 q2 q3 0 0 b7 b11 b14 1 b11 b11) [(.ref b14)]) (fun t k => XS.aload X45.here hx rfl (hb hby at_230) rfl rfl k) ?_
                refine GoW.sg (mkF m 233 (Sh9 q1 q2 q3 0 0 b7 b11 b14 1 b11 b11) [(.long q2), (.ref b14)]) (fun t k => XS.lloadN X45.here hx rfl (hb hby at_232) rfl k) ?_
                obtain ⟨cq49, kq49, q49a, q49b, q49c⟩ := isOf hZ e45 p44_0
                obtain ⟨_, _, ⟨T49, L49, k49, n49⟩, -, X49, ⟨Lc49, hQ49, l49, y49, z49⟩, st49⟩ := X45.virtualBack hx (y := (⟨"com/example/spindle/spindle/SpinRule", "spinNanos", "(J)J"⟩ : MethodName)) (z := (⟨"com/example/spindle/spindle/SpinRule", "spinNanos", "(J)J"⟩ : MethodName)) hown (mvT hZ (ww hw 11 rfl)) (mvT hZ (ww hw 12 rfl)) (notFace_of_selects (args := #[]) (mvT hZ (ww hw 14 rfl))) (mvT hZ (ww hw 14 rfl)) (mvT hZ (ww hw 13 rfl)) (by decide) (backOf (W := 0) (rm3_4 l Z a0 hw [] b14 q2  T44.heap n0  p44_0 p44_1 p44_2 p44_3 g_b14  c46 ) hZ (ww hw 15 rfl) (ww hw 2 rfl) (by decide) (by decide)) q49a q49c (g := (mkF m 233 (Sh9 q1 q2 q3 0 0 b7 b11 b14 1 b11 b11) [(.long q2), (.ref b14)])) rfl (by rw [hml]; rfl) (Steps.refl _) (argsL := [(.long q2)]) (rest := []) (lenOf pd_28J29J rfl) rfl (by show 2 * 0 + _ ≤ _; exact Nat.le_of_eq rfl) (hb hby at_233) (fun _ _ => ⟨rfl, e45, (by decide : 1 + 0 ≤ _), (by decide : 3 + 0 ≤ _)⟩)
                dsimp only [Pt.U, Pt.locs, Pt.cells, Pt.slots] at X49 l49 y49 z49 st49 hQ49
                subst l49 y49 z49
                obtain ⟨rfl, N49q, K49, p49_0, p49_1, p49_2, p49_3⟩ := hQ49
                have N49 := Fr.app N45 N49q
                have Zs_49 : n0 ≤ T49.heap.size := Nat.le_trans Zs_44 K49.1
                refine GoW.sg (mkF m 236 (Sh9 q1 q2 q3 0 0 b7 b11 b14 1 b11 b11) [(.long q2)]) (fun t k => st49.trans k) ?_
                refine GoW.sg (mkF m 238 (Sh10 q1 q2 q3 0 0 b7 b11 b14 1 b11 b11 q2) []) (fun t k => XS.lstore X49.here hx rfl (hb hby at_236) rfl (l' := (Sh10 q1 q2 q3 0 0 b7 b11 b14 1 b11 b11 q2)) rfl k) ?_
                refine GoW.sg (mkF m 239 (Sh10 q1 q2 q3 0 0 b7 b11 b14 1 b11 b11 q2) [(.long q2)]) (fun t k => XS.lloadN X49.here hx rfl (hb hby at_238) rfl k) ?_
                refine GoW.sg (mkF m 242 (Sh10 q1 q2 q3 0 0 b7 b11 b14 1 b11 b11 q2) [(.long 20000), (.long q2)]) (fun t k => X49.ldc2Long hx hown (mvT hZ (ww hw 21 rfl)) (g := (mkF m 239 (Sh10 q1 q2 q3 0 0 b7 b11 b14 1 b11 b11 q2) [(.long q2)])) rfl (hb hby at_239) t k) ?_
                refine GoW.sg (mkF m 243 (Sh10 q1 q2 q3 0 0 b7 b11 b14 1 b11 b11 q2) [(.int (lcmpW q2 (20000 : Int64)))]) (fun t k => XS.lcmp X49.here hx rfl (hb hby at_242) rfl k) ?_
                refine GoW.sg (mkF m 246 (Sh10 q1 q2 q3 0 0 b7 b11 b14 1 b11 b11 q2) []) (fun t k => XS.ifNo X49.here hx rfl (hb hby at_243) rfl ((if0 _ _).trans (flt (mt (lw_gt _ _).mp c46)).2.2.1) k) ?_
                refine GoW.sg (mkF m 247 (Sh10 q1 q2 q3 0 0 b7 b11 b14 1 b11 b11 q2) [(.long q2)]) (fun t k => XS.lloadN X49.here hx rfl (hb hby at_246) rfl k) ?_
                refine GoW.sg (mkF m 251 (Sh10 q1 q2 q3 0 0 b7 b11 b14 1 b11 b11 q2) [(.long q2)]) (fun t k => XS.goto X49.here hx rfl (pc0 := 247) (pc' := 251) rfl (hb hby at_247) (by decide) (by decide) k) ?_
                refine GoW.sg (mkF m 253 (Sh11 q1 q2 q3 0 0 b7 b11 b14 1 b11 b11 q2 q2) []) (fun t k => XS.lstore X49.here hx rfl (hb hby at_251) rfl (l' := (Sh11 q1 q2 q3 0 0 b7 b11 b14 1 b11 b11 q2 q2)) rfl k) ?_
                refine GoW.sg (mkF m 255 (Sh11 q1 q2 q3 0 0 b7 b11 b14 1 b11 b11 q2 q2) [(.int 1)]) (fun t k => XS.iload X49.here hx rfl (hb hby at_253) rfl k) ?_
                refine GoW.sg (mkF m 258 (Sh11 q1 q2 q3 0 0 b7 b11 b14 1 b11 b11 q2 q2) []) (fun t k => XS.ifNo X49.here hx rfl (hb hby at_255) rfl (by decide) k) ?_
                refine GoW.sg (mkF m 260 (Sh11 q1 q2 q3 0 0 b7 b11 b14 1 b11 b11 q2 q2) [(.long q2)]) (fun t k => XS.lload X49.here hx rfl (hb hby at_258) rfl k) ?_
                refine GoW.sg (mkF m 262 (Sh11 q1 q2 q3 0 0 b7 b11 b14 1 b11 b11 q2 q2) [(.long q2), (.long q2)]) (fun t k => XS.lload X49.here hx rfl (hb hby at_260) rfl k) ?_
                refine GoW.sg (mkF m 263 (Sh11 q1 q2 q3 0 0 b7 b11 b14 1 b11 b11 q2 q2) [(.int (lcmpW q2 q2))]) (fun t k => XS.lcmp X49.here hx rfl (hb hby at_262) rfl k) ?_
                refine GoW.sg (mkF m 266 (Sh11 q1 q2 q3 0 0 b7 b11 b14 1 b11 b11 q2 q2) []) (fun t k => XS.ifNo X49.here hx rfl (hb hby at_263) rfl ((if0 _ _).trans (teq ((lw_eq _ _).mpr rfl)).2) k) ?_
                refine GoW.sg (mkF m 267 (Sh11 q1 q2 q3 0 0 b7 b11 b14 1 b11 b11 q2 q2) [(.int 1)]) (fun t k => XS.iconst X49.here hx rfl (hb hby at_266) k) ?_
                refine GoW.sg (mkF m 271 (Sh11 q1 q2 q3 0 0 b7 b11 b14 1 b11 b11 q2 q2) [(.int 1)]) (fun t k => XS.goto X49.here hx rfl (pc0 := 267) (pc' := 271) rfl (hb hby at_267) (by decide) (by decide) k) ?_
                refine GoW.sg (mkF m 273 (Sh11 q1 q2 q3 0 0 b7 b11 b14 1 b11 b11 q2 q2) []) (fun t k => XS.istore X49.here hx rfl (hb hby at_271) rfl (l' := (Sh11 q1 q2 q3 0 0 b7 b11 b14 1 b11 b11 q2 q2)) rfl k) ?_
                refine GoW.sg (mkF m 275 (Sh11 q1 q2 q3 0 0 b7 b11 b14 1 b11 b11 q2 q2) [(.int 1)]) (fun t k => XS.iload X49.here hx rfl (hb hby at_273) rfl k) ?_
                refine GoW.sg (mkF m 278 (Sh11 q1 q2 q3 0 0 b7 b11 b14 1 b11 b11 q2 q2) []) (fun t k => XS.ifNo X49.here hx rfl (hb hby at_275) rfl (by decide) k) ?_
                refine GoW.sg (mkF m 280 (Sh11 q1 q2 q3 0 0 b7 b11 b14 1 b11 b11 q2 q2) [(.ref b14)]) (fun t k => XS.aload X49.here hx rfl (hb hby at_278) rfl rfl k) ?_
                refine GoW.sg (mkF m 281 (Sh11 q1 q2 q3 0 0 b7 b11 b14 1 b11 b11 q2 q2) [(.long 0), (.ref b14)]) (fun t k => XS.lconst X49.here hx rfl (hb hby at_280) k) ?_
                obtain ⟨cq50, kq50, q50a, q50b, q50c⟩ := isOf hZ rfl p49_0
                obtain ⟨_, _, ⟨T50, L50, k50, n50⟩, -, X50, ⟨Lc50, hQ50, l50, y50, z50⟩, st50⟩ := X49.virtualBack hx (y := (⟨"com/example/spindle/spindle/SpinRule", "timesWait", "(J)Z"⟩ : MethodName)) (z := (⟨"com/example/spindle/spindle/SpinRule", "timesWait", "(J)Z"⟩ : MethodName)) hown (mvT hZ (ww hw 22 rfl)) (mvT hZ (ww hw 23 rfl)) (notFace_of_selects (args := #[]) (mvT hZ (ww hw 25 rfl))) (mvT hZ (ww hw 25 rfl)) (mvT hZ (ww hw 24 rfl)) (by decide) (backOf (W := 0) (rm4_3 l Z a0 hw [] b14  T49.heap n0  p49_0 p49_1 p49_2 p49_3    ) hZ (ww hw 26 rfl) (ww hw 2 rfl) (by decide) (by decide)) q50a q50c (g := (mkF m 281 (Sh11 q1 q2 q3 0 0 b7 b11 b14 1 b11 b11 q2 q2) [(.long 0), (.ref b14)])) rfl (by rw [hml]; rfl) (Steps.refl _) (argsL := [(.long (0 : Int64))]) (rest := []) (lenOf pd_28J29Z rfl) rfl (by show 2 * 0 + _ ≤ _; exact Nat.le_of_eq rfl) (hb hby at_281) (fun _ _ => ⟨rfl, rfl, (by decide : 1 + 0 ≤ _), (by decide : 3 + 0 ≤ _)⟩)
                dsimp only [Pt.U, Pt.locs, Pt.cells, Pt.slots] at X50 l50 y50 z50 st50 hQ50
                subst l50 y50 z50
                obtain ⟨rfl, N50q, e50⟩ := hQ50
                have N50 := Fr.app N49 N50q
                refine GoW.sg (mkF m 284 (Sh11 q1 q2 q3 0 0 b7 b11 b14 1 b11 b11 q2 q2) [(.int 0)]) (fun t k => st50.trans k) ?_
                refine GoW.sg (mkF m 287 (Sh11 q1 q2 q3 0 0 b7 b11 b14 1 b11 b11 q2 q2) []) (fun t k => XS.ifNo X50.here hx rfl (hb hby at_284) rfl (by decide) k) ?_
                refine GoW.sg (mkF m 288 (Sh11 q1 q2 q3 0 0 b7 b11 b14 1 b11 b11 q2 q2) [(.int 1)]) (fun t k => XS.iconst X50.here hx rfl (hb hby at_287) k) ?_
                refine GoW.sg (mkF m 292 (Sh11 q1 q2 q3 0 0 b7 b11 b14 1 b11 b11 q2 q2) [(.int 1)]) (fun t k => XS.goto X50.here hx rfl (pc0 := 288) (pc' := 292) rfl (hb hby at_288) (by decide) (by decide) k) ?_
                refine GoW.sg (mkF m 294 (Sh11 q1 q2 q3 0 0 b7 b11 b14 1 b11 b11 q2 q2) []) (fun t k => XS.istore X50.here hx rfl (hb hby at_292) rfl (l' := (Sh11 q1 q2 q3 0 0 b7 b11 b14 1 b11 b11 q2 q2)) rfl k) ?_
                refine GoW.sg (mkF m 296 (Sh11 q1 q2 q3 0 0 b7 b11 b14 1 b11 b11 q2 q2) [(.int 1)]) (fun t k => XS.iload X50.here hx rfl (hb hby at_294) rfl k) ?_
                refine GoW.retN X50 hx (t := .boolean) Bd.returns (by simp) (hb hby at_296) Bd.notSynchronized ?_ (by decide) (by decide)
                exact ⟨rfl, N50⟩
          · subst cc
            show GoW p e below s (ValQ (.int (1 : Int32)) n0) room_1.cells room_1.slots (T19.setTop (mkF m 130 (Sh6 q1 q2 q3 1 0 b7 b11 b14 1) []))
            refine GoW.sg (mkF m 132 (Sh6 q1 q2 q3 1 0 b7 b11 b14 1) [(.int 1)]) (fun t k => XS.iload X19.here hx rfl (hb hby at_130) rfl k) ?_
            refine GoW.sg (mkF m 135 (Sh6 q1 q2 q3 1 0 b7 b11 b14 1) []) (fun t k => XS.ifNo X19.here hx rfl (hb hby at_132) rfl (by decide) k) ?_
            refine GoW.sg (mkF m 137 (Sh6 q1 q2 q3 1 0 b7 b11 b14 1) [(.ref b14)]) (fun t k => XS.aload X19.here hx rfl (hb hby at_135) rfl rfl k) ?_
            obtain ⟨cq53, kq53, q53a, q53b, q53c⟩ := isOf hZ rfl p19_0
            obtain ⟨_, _, ⟨T53, L53, k53, n53⟩, -, X53, ⟨Lc53, hQ53, l53, y53, z53⟩, st53⟩ := X19.virtualBack hx (y := (⟨"com/example/spindle/spindle/SpinRule", "handedOn", "()V"⟩ : MethodName)) (z := (⟨"com/example/spindle/spindle/SpinRule", "handedOn", "()V"⟩ : MethodName)) hown (mvT hZ (ww hw 27 rfl)) (mvT hZ (ww hw 28 rfl)) (notFace_of_selects (args := #[]) (mvT hZ (ww hw 30 rfl))) (mvT hZ (ww hw 30 rfl)) (mvT hZ (ww hw 29 rfl)) (by decide) (backOf (W := 0) (rm5_5 l Z a0 hw [] b14  T19.heap n0  p19_0 p19_1 p19_2 p19_3 g_b14   ) hZ (ww hw 31 rfl) (ww hw 2 rfl) (by decide) (by decide)) q53a q53c (g := (mkF m 137 (Sh6 q1 q2 q3 1 0 b7 b11 b14 1) [(.ref b14)])) rfl (by rw [hml]; rfl) (Steps.refl _) (argsL := []) (rest := []) (lenOf pd_2829V rfl) rfl (by show 2 * 0 + _ ≤ _; exact Nat.le_of_eq rfl) (hb hby at_137) (fun _ _ => ⟨rfl, rfl, (by decide : 1 + 0 ≤ _), (by decide : 3 + 0 ≤ _)⟩)
            dsimp only [Pt.U, Pt.locs, Pt.cells, Pt.slots] at X53 l53 y53 z53 st53 hQ53
            subst l53 y53 z53
            obtain ⟨rfl, N53q, K53, p53_0, p53_1, p53_2, p53_3⟩ := hQ53
            have N53 := Fr.app N19 N53q
            have Zs_53 : n0 ≤ T53.heap.size := Nat.le_trans Zs_19 K53.1
            refine GoW.sg (mkF m 140 (Sh6 q1 q2 q3 1 0 b7 b11 b14 1) []) (fun t k => st53.trans k) ?_
            by_cases c54 : (20000 : Int64) < b11
            · show GoW p e below s (ValQ (.int (1 : Int32)) n0) room_1.cells room_1.slots (T53.setTop (mkF m 140 (Sh6 q1 q2 q3 1 0 b7 b11 b14 1) []))
              refine GoW.sg (mkF m 142 (Sh6 q1 q2 q3 1 0 b7 b11 b14 1) [(.ref b14)]) (fun t k => XS.aload X53.here hx rfl (hb hby at_140) rfl rfl k) ?_
              refine GoW.sg (mkF m 144 (Sh6 q1 q2 q3 1 0 b7 b11 b14 1) [(.long b11), (.ref b14)]) (fun t k => XS.lload X53.here hx rfl (hb hby at_142) rfl k) ?_
              obtain ⟨cq65, kq65, q65a, q65b, q65c⟩ := isOf hZ rfl p53_0
              obtain ⟨_, _, ⟨T65, L65, k65, n65⟩, -, X65, ⟨Lc65, hQ65, l65, y65, z65⟩, st65⟩ := X53.virtualBack hx (y := (⟨"com/example/spindle/spindle/SpinRule", "spinNanos", "(J)J"⟩ : MethodName)) (z := (⟨"com/example/spindle/spindle/SpinRule", "spinNanos", "(J)J"⟩ : MethodName)) hown (mvT hZ (ww hw 11 rfl)) (mvT hZ (ww hw 12 rfl)) (notFace_of_selects (args := #[]) (mvT hZ (ww hw 14 rfl))) (mvT hZ (ww hw 14 rfl)) (mvT hZ (ww hw 13 rfl)) (by decide) (backOf (W := 0) (rm3_6 l Z a0 hw [] b14 b11  T53.heap n0  p53_0 p53_1 p53_2 p53_3 g_b14  c54 ) hZ (ww hw 15 rfl) (ww hw 2 rfl) (by decide) (by decide)) q65a q65c (g := (mkF m 144 (Sh6 q1 q2 q3 1 0 b7 b11 b14 1) [(.long b11), (.ref b14)])) rfl (by rw [hml]; rfl) (Steps.refl _) (argsL := [(.long b11)]) (rest := []) (lenOf pd_28J29J rfl) rfl (by show 2 * 0 + _ ≤ _; exact Nat.le_of_eq rfl) (hb hby at_144) (fun _ _ => ⟨rfl, rfl, (by decide : 1 + 0 ≤ _), (by decide : 3 + 0 ≤ _)⟩)
              dsimp only [Pt.U, Pt.locs, Pt.cells, Pt.slots] at X65 l65 y65 z65 st65 hQ65
              subst l65 y65 z65
              obtain ⟨rfl, N65q, K65, p65_0, p65_1, p65_2, p65_3⟩ := hQ65
              have N65 := Fr.app N53 N65q
              have Zs_65 : n0 ≤ T65.heap.size := Nat.le_trans Zs_53 K65.1
              refine GoW.sg (mkF m 147 (Sh6 q1 q2 q3 1 0 b7 b11 b14 1) [(.long 20000)]) (fun t k => st65.trans k) ?_
              refine GoW.sg (mkF m 149 (Sh8 q1 q2 q3 1 0 b7 b11 b14 1 20000) []) (fun t k => XS.lstore X65.here hx rfl (hb hby at_147) rfl (l' := (Sh8 q1 q2 q3 1 0 b7 b11 b14 1 20000)) rfl k) ?_
              refine GoW.sg (mkF m 151 (Sh8 q1 q2 q3 1 0 b7 b11 b14 1 20000) [(.long b11)]) (fun t k => XS.lload X65.here hx rfl (hb hby at_149) rfl k) ?_
              refine GoW.sg (mkF m 154 (Sh8 q1 q2 q3 1 0 b7 b11 b14 1 20000) [(.long 20000), (.long b11)]) (fun t k => X65.ldc2Long hx hown (mvT hZ (ww hw 21 rfl)) (g := (mkF m 151 (Sh8 q1 q2 q3 1 0 b7 b11 b14 1 20000) [(.long b11)])) rfl (hb hby at_151) t k) ?_
              refine GoW.sg (mkF m 155 (Sh8 q1 q2 q3 1 0 b7 b11 b14 1 20000) [(.int (lcmpW b11 (20000 : Int64)))]) (fun t k => XS.lcmp X65.here hx rfl (hb hby at_154) rfl k) ?_
              refine GoW.sg (mkF m 165 (Sh8 q1 q2 q3 1 0 b7 b11 b14 1 20000) []) (fun t k => XS.ifYes X65.here hx rfl (pc0 := 155) (pc' := 165) rfl (hb hby at_155) rfl ((if0 _ _).trans (tlt ((lw_gt _ _).mpr c54)).2.2.1) (by decide) (by decide) k) ?_
              refine GoW.sg (mkF m 167 (Sh8 q1 q2 q3 1 0 b7 b11 b14 1 20000) [(.int 1)]) (fun t k => XS.iload X65.here hx rfl (hb hby at_165) rfl k) ?_
              refine GoW.sg (mkF m 170 (Sh8 q1 q2 q3 1 0 b7 b11 b14 1 20000) []) (fun t k => XS.ifNo X65.here hx rfl (hb hby at_167) rfl (by decide) k) ?_
              refine GoW.sg (mkF m 172 (Sh8 q1 q2 q3 1 0 b7 b11 b14 1 20000) [(.int 0)]) (fun t k => XS.iload X65.here hx rfl (hb hby at_170) rfl k) ?_
              refine GoW.sg (mkF m 173 (Sh8 q1 q2 q3 1 0 b7 b11 b14 1 20000) [(.int 2), (.int 0)]) (fun t k => XS.iconst X65.here hx rfl (hb hby at_172) k) ?_
              refine GoW.sg (mkF m 176 (Sh8 q1 q2 q3 1 0 b7 b11 b14 1 20000) []) (fun t k => XS.icmpNo X65.here hx rfl (hb hby at_173) rfl (by decide) k) ?_
              refine GoW.sg (mkF m 179 (Sh8 q1 q2 q3 1 0 b7 b11 b14 1 20000) [(.long 20000)]) (fun t k => X65.ldc2Long hx hown (mvT hZ (ww hw 21 rfl)) (g := (mkF m 176 (Sh8 q1 q2 q3 1 0 b7 b11 b14 1 20000) [])) rfl (hb hby at_176) t k) ?_
              refine GoW.sg (mkF m 181 (Sh9 q1 q2 q3 1 0 b7 b11 b14 1 20000 20000) []) (fun t k => XS.lstore X65.here hx rfl (hb hby at_179) rfl (l' := (Sh9 q1 q2 q3 1 0 b7 b11 b14 1 20000 20000)) rfl k) ?_
              refine GoW.sg (mkF m 187 (Sh9 q1 q2 q3 1 0 b7 b11 b14 1 20000 20000) []) (fun t k => XS.goto X65.here hx rfl (pc0 := 181) (pc' := 187) rfl (hb hby at_181) (by decide) (by decide) k) ?_
              refine GoW.sg (mkF m 189 (Sh9 q1 q2 q3 1 0 b7 b11 b14 1 20000 20000) [(.int 1)]) (fun t k => XS.iload X65.here hx rfl (hb hby at_187) rfl k) ?_
              refine GoW.sg (mkF m 192 (Sh9 q1 q2 q3 1 0 b7 b11 b14 1 20000 20000) []) (fun t k => XS.ifNo X65.here hx rfl (hb hby at_189) rfl (by decide) k) ?_
              refine GoW.sg (mkF m 194 (Sh9 q1 q2 q3 1 0 b7 b11 b14 1 20000 20000) [(.long 20000)]) (fun t k => XS.lload X65.here hx rfl (hb hby at_192) rfl k) ?_
              refine GoW.sg (mkF m 196 (Sh9 q1 q2 q3 1 0 b7 b11 b14 1 20000 20000) [(.long 20000), (.long 20000)]) (fun t k => XS.lload X65.here hx rfl (hb hby at_194) rfl k) ?_
              refine GoW.sg (mkF m 197 (Sh9 q1 q2 q3 1 0 b7 b11 b14 1 20000 20000) [(.int (lcmpW (20000 : Int64) (20000 : Int64)))]) (fun t k => XS.lcmp X65.here hx rfl (hb hby at_196) rfl k) ?_
              refine GoW.sg (mkF m 200 (Sh9 q1 q2 q3 1 0 b7 b11 b14 1 20000 20000) []) (fun t k => XS.ifNo X65.here hx rfl (hb hby at_197) rfl (by decide) k) ?_
              refine GoW.sg (mkF m 201 (Sh9 q1 q2 q3 1 0 b7 b11 b14 1 20000 20000) [(.int 1)]) (fun t k => XS.iconst X65.here hx rfl (hb hby at_200) k) ?_
              refine GoW.sg (mkF m 205 (Sh9 q1 q2 q3 1 0 b7 b11 b14 1 20000 20000) [(.int 1)]) (fun t k => XS.goto X65.here hx rfl (pc0 := 201) (pc' := 205) rfl (hb hby at_201) (by decide) (by decide) k) ?_
              refine GoW.sg (mkF m 207 (Sh9 q1 q2 q3 1 0 b7 b11 b14 1 20000 20000) []) (fun t k => XS.istore X65.here hx rfl (hb hby at_205) rfl (l' := (Sh9 q1 q2 q3 1 0 b7 b11 b14 1 20000 20000)) rfl k) ?_
              refine GoW.sg (mkF m 209 (Sh9 q1 q2 q3 1 0 b7 b11 b14 1 20000 20000) [(.int 1)]) (fun t k => XS.iload X65.here hx rfl (hb hby at_207) rfl k) ?_
              refine GoW.sg (mkF m 212 (Sh9 q1 q2 q3 1 0 b7 b11 b14 1 20000 20000) []) (fun t k => XS.ifNo X65.here hx rfl (hb hby at_209) rfl (by decide) k) ?_
              refine GoW.sg (mkF m 214 (Sh9 q1 q2 q3 1 0 b7 b11 b14 1 20000 20000) [(.ref b14)]) (fun t k => XS.aload X65.here hx rfl (hb hby at_212) rfl rfl k) ?_
              refine GoW.sg (mkF m 215 (Sh9 q1 q2 q3 1 0 b7 b11 b14 1 20000 20000) [(.long 0), (.ref b14)]) (fun t k => XS.lconst X65.here hx rfl (hb hby at_214) k) ?_
              obtain ⟨cq68, kq68, q68a, q68b, q68c⟩ := isOf hZ rfl p65_0
              obtain ⟨_, _, ⟨T68, L68, k68, n68⟩, -, X68, ⟨Lc68, hQ68, l68, y68, z68⟩, st68⟩ := X65.virtualBack hx (y := (⟨"com/example/spindle/spindle/SpinRule", "timesWait", "(J)Z"⟩ : MethodName)) (z := (⟨"com/example/spindle/spindle/SpinRule", "timesWait", "(J)Z"⟩ : MethodName)) hown (mvT hZ (ww hw 22 rfl)) (mvT hZ (ww hw 23 rfl)) (notFace_of_selects (args := #[]) (mvT hZ (ww hw 25 rfl))) (mvT hZ (ww hw 25 rfl)) (mvT hZ (ww hw 24 rfl)) (by decide) (backOf (W := 0) (rm4_7 l Z a0 hw [] b14  T65.heap n0  p65_0 p65_1 p65_2 p65_3    ) hZ (ww hw 26 rfl) (ww hw 2 rfl) (by decide) (by decide)) q68a q68c (g := (mkF m 215 (Sh9 q1 q2 q3 1 0 b7 b11 b14 1 20000 20000) [(.long 0), (.ref b14)])) rfl (by rw [hml]; rfl) (Steps.refl _) (argsL := [(.long (0 : Int64))]) (rest := []) (lenOf pd_28J29Z rfl) rfl (by show 2 * 0 + _ ≤ _; exact Nat.le_of_eq rfl) (hb hby at_215) (fun _ _ => ⟨rfl, rfl, (by decide : 1 + 0 ≤ _), (by decide : 3 + 0 ≤ _)⟩)
              dsimp only [Pt.U, Pt.locs, Pt.cells, Pt.slots] at X68 l68 y68 z68 st68 hQ68
              subst l68 y68 z68
              obtain ⟨rfl, N68q, e68⟩ := hQ68
              have N68 := Fr.app N65 N68q
              refine GoW.sg (mkF m 218 (Sh9 q1 q2 q3 1 0 b7 b11 b14 1 20000 20000) [(.int 1)]) (fun t k => st68.trans k) ?_
              refine GoW.sg (mkF m 220 (Sh9 q1 q2 q3 1 0 b7 b11 b14 1 20000 20000) [(.int 1), (.int 1)]) (fun t k => XS.iload X68.here hx rfl (hb hby at_218) rfl k) ?_
              refine GoW.sg (mkF m 223 (Sh9 q1 q2 q3 1 0 b7 b11 b14 1 20000 20000) []) (fun t k => XS.icmpNo X68.here hx rfl (hb hby at_220) rfl (by decide) k) ?_
              refine GoW.sg (mkF m 224 (Sh9 q1 q2 q3 1 0 b7 b11 b14 1 20000 20000) [(.int 1)]) (fun t k => XS.iconst X68.here hx rfl (hb hby at_223) k) ?_
              refine GoW.sg (mkF m 228 (Sh9 q1 q2 q3 1 0 b7 b11 b14 1 20000 20000) [(.int 1)]) (fun t k => XS.goto X68.here hx rfl (pc0 := 224) (pc' := 228) rfl (hb hby at_224) (by decide) (by decide) k) ?_
              refine GoW.sg (mkF m 230 (Sh9 q1 q2 q3 1 0 b7 b11 b14 1 20000 20000) []) (fun t k => XS.istore X68.here hx rfl (hb hby at_228) rfl (l' := (Sh9 q1 q2 q3 1 0 b7 b11 b14 1 20000 20000)) rfl k) ?_
              by_cases c69 : (20000 : Int64) < q2
              · show GoW p e below s (ValQ (.int (1 : Int32)) n0) room_1.cells room_1.slots (T68.setTop (mkF m 230 (Sh9 q1 q2 q3 1 0 b7 b11 b14 1 20000 20000) []))
                refine GoW.sg (mkF m 232 (Sh9 q1 q2 q3 1 0 b7 b11 b14 1 20000 20000) [(.ref b14)]) (fun t k => XS.aload X68.here hx rfl (hb hby at_230) rfl rfl k) ?_
                refine GoW.sg (mkF m 233 (Sh9 q1 q2 q3 1 0 b7 b11 b14 1 20000 20000) [(.long q2), (.ref b14)]) (fun t k => XS.lloadN X68.here hx rfl (hb hby at_232) rfl k) ?_
                obtain ⟨cq78, kq78, q78a, q78b, q78c⟩ := isOf hZ e68 p65_0
                obtain ⟨_, _, ⟨T78, L78, k78, n78⟩, -, X78, ⟨Lc78, hQ78, l78, y78, z78⟩, st78⟩ := X68.virtualBack hx (y := (⟨"com/example/spindle/spindle/SpinRule", "spinNanos", "(J)J"⟩ : MethodName)) (z := (⟨"com/example/spindle/spindle/SpinRule", "spinNanos", "(J)J"⟩ : MethodName)) hown (mvT hZ (ww hw 11 rfl)) (mvT hZ (ww hw 12 rfl)) (notFace_of_selects (args := #[]) (mvT hZ (ww hw 14 rfl))) (mvT hZ (ww hw 14 rfl)) (mvT hZ (ww hw 13 rfl)) (by decide) (backOf (W := 0) (rm3_8 l Z a0 hw [] b14 q2  T65.heap n0  p65_0 p65_1 p65_2 p65_3 g_b14  c69 ) hZ (ww hw 15 rfl) (ww hw 2 rfl) (by decide) (by decide)) q78a q78c (g := (mkF m 233 (Sh9 q1 q2 q3 1 0 b7 b11 b14 1 20000 20000) [(.long q2), (.ref b14)])) rfl (by rw [hml]; rfl) (Steps.refl _) (argsL := [(.long q2)]) (rest := []) (lenOf pd_28J29J rfl) rfl (by show 2 * 0 + _ ≤ _; exact Nat.le_of_eq rfl) (hb hby at_233) (fun _ _ => ⟨rfl, e68, (by decide : 1 + 0 ≤ _), (by decide : 3 + 0 ≤ _)⟩)
                dsimp only [Pt.U, Pt.locs, Pt.cells, Pt.slots] at X78 l78 y78 z78 st78 hQ78
                subst l78 y78 z78
                obtain ⟨rfl, N78q, K78, p78_0, p78_1, p78_2, p78_3⟩ := hQ78
                have N78 := Fr.app N68 N78q
                have Zs_78 : n0 ≤ T78.heap.size := Nat.le_trans Zs_65 K78.1
                refine GoW.sg (mkF m 236 (Sh9 q1 q2 q3 1 0 b7 b11 b14 1 20000 20000) [(.long 0)]) (fun t k => st78.trans k) ?_
                refine GoW.sg (mkF m 238 (Sh10 q1 q2 q3 1 0 b7 b11 b14 1 20000 20000 0) []) (fun t k => XS.lstore X78.here hx rfl (hb hby at_236) rfl (l' := (Sh10 q1 q2 q3 1 0 b7 b11 b14 1 20000 20000 0)) rfl k) ?_
                refine GoW.sg (mkF m 239 (Sh10 q1 q2 q3 1 0 b7 b11 b14 1 20000 20000 0) [(.long q2)]) (fun t k => XS.lloadN X78.here hx rfl (hb hby at_238) rfl k) ?_
                refine GoW.sg (mkF m 242 (Sh10 q1 q2 q3 1 0 b7 b11 b14 1 20000 20000 0) [(.long 20000), (.long q2)]) (fun t k => X78.ldc2Long hx hown (mvT hZ (ww hw 21 rfl)) (g := (mkF m 239 (Sh10 q1 q2 q3 1 0 b7 b11 b14 1 20000 20000 0) [(.long q2)])) rfl (hb hby at_239) t k) ?_
                refine GoW.sg (mkF m 243 (Sh10 q1 q2 q3 1 0 b7 b11 b14 1 20000 20000 0) [(.int (lcmpW q2 (20000 : Int64)))]) (fun t k => XS.lcmp X78.here hx rfl (hb hby at_242) rfl k) ?_
                refine GoW.sg (mkF m 250 (Sh10 q1 q2 q3 1 0 b7 b11 b14 1 20000 20000 0) []) (fun t k => XS.ifYes X78.here hx rfl (pc0 := 243) (pc' := 250) rfl (hb hby at_243) rfl ((if0 _ _).trans (tlt ((lw_gt _ _).mpr c69)).2.2.1) (by decide) (by decide) k) ?_
                refine GoW.sg (mkF m 251 (Sh10 q1 q2 q3 1 0 b7 b11 b14 1 20000 20000 0) [(.long 0)]) (fun t k => XS.lconst X78.here hx rfl (hb hby at_250) k) ?_
                refine GoW.sg (mkF m 253 (Sh11 q1 q2 q3 1 0 b7 b11 b14 1 20000 20000 0 0) []) (fun t k => XS.lstore X78.here hx rfl (hb hby at_251) rfl (l' := (Sh11 q1 q2 q3 1 0 b7 b11 b14 1 20000 20000 0 0)) rfl k) ?_
                refine GoW.sg (mkF m 255 (Sh11 q1 q2 q3 1 0 b7 b11 b14 1 20000 20000 0 0) [(.int 1)]) (fun t k => XS.iload X78.here hx rfl (hb hby at_253) rfl k) ?_
                refine GoW.sg (mkF m 258 (Sh11 q1 q2 q3 1 0 b7 b11 b14 1 20000 20000 0 0) []) (fun t k => XS.ifNo X78.here hx rfl (hb hby at_255) rfl (by decide) k) ?_
                refine GoW.sg (mkF m 260 (Sh11 q1 q2 q3 1 0 b7 b11 b14 1 20000 20000 0 0) [(.long 0)]) (fun t k => XS.lload X78.here hx rfl (hb hby at_258) rfl k) ?_
                refine GoW.sg (mkF m 262 (Sh11 q1 q2 q3 1 0 b7 b11 b14 1 20000 20000 0 0) [(.long 0), (.long 0)]) (fun t k => XS.lload X78.here hx rfl (hb hby at_260) rfl k) ?_
                refine GoW.sg (mkF m 263 (Sh11 q1 q2 q3 1 0 b7 b11 b14 1 20000 20000 0 0) [(.int (lcmpW (0 : Int64) (0 : Int64)))]) (fun t k => XS.lcmp X78.here hx rfl (hb hby at_262) rfl k) ?_
                refine GoW.sg (mkF m 266 (Sh11 q1 q2 q3 1 0 b7 b11 b14 1 20000 20000 0 0) []) (fun t k => XS.ifNo X78.here hx rfl (hb hby at_263) rfl (by decide) k) ?_
                refine GoW.sg (mkF m 267 (Sh11 q1 q2 q3 1 0 b7 b11 b14 1 20000 20000 0 0) [(.int 1)]) (fun t k => XS.iconst X78.here hx rfl (hb hby at_266) k) ?_
                refine GoW.sg (mkF m 271 (Sh11 q1 q2 q3 1 0 b7 b11 b14 1 20000 20000 0 0) [(.int 1)]) (fun t k => XS.goto X78.here hx rfl (pc0 := 267) (pc' := 271) rfl (hb hby at_267) (by decide) (by decide) k) ?_
                refine GoW.sg (mkF m 273 (Sh11 q1 q2 q3 1 0 b7 b11 b14 1 20000 20000 0 0) []) (fun t k => XS.istore X78.here hx rfl (hb hby at_271) rfl (l' := (Sh11 q1 q2 q3 1 0 b7 b11 b14 1 20000 20000 0 0)) rfl k) ?_
                refine GoW.sg (mkF m 275 (Sh11 q1 q2 q3 1 0 b7 b11 b14 1 20000 20000 0 0) [(.int 1)]) (fun t k => XS.iload X78.here hx rfl (hb hby at_273) rfl k) ?_
                refine GoW.sg (mkF m 278 (Sh11 q1 q2 q3 1 0 b7 b11 b14 1 20000 20000 0 0) []) (fun t k => XS.ifNo X78.here hx rfl (hb hby at_275) rfl (by decide) k) ?_
                refine GoW.sg (mkF m 280 (Sh11 q1 q2 q3 1 0 b7 b11 b14 1 20000 20000 0 0) [(.ref b14)]) (fun t k => XS.aload X78.here hx rfl (hb hby at_278) rfl rfl k) ?_
                refine GoW.sg (mkF m 281 (Sh11 q1 q2 q3 1 0 b7 b11 b14 1 20000 20000 0 0) [(.long 0), (.ref b14)]) (fun t k => XS.lconst X78.here hx rfl (hb hby at_280) k) ?_
                obtain ⟨cq79, kq79, q79a, q79b, q79c⟩ := isOf hZ rfl p78_0
                obtain ⟨_, _, ⟨T79, L79, k79, n79⟩, -, X79, ⟨Lc79, hQ79, l79, y79, z79⟩, st79⟩ := X78.virtualBack hx (y := (⟨"com/example/spindle/spindle/SpinRule", "timesWait", "(J)Z"⟩ : MethodName)) (z := (⟨"com/example/spindle/spindle/SpinRule", "timesWait", "(J)Z"⟩ : MethodName)) hown (mvT hZ (ww hw 22 rfl)) (mvT hZ (ww hw 23 rfl)) (notFace_of_selects (args := #[]) (mvT hZ (ww hw 25 rfl))) (mvT hZ (ww hw 25 rfl)) (mvT hZ (ww hw 24 rfl)) (by decide) (backOf (W := 0) (rm4_3 l Z a0 hw [] b14  T78.heap n0  p78_0 p78_1 p78_2 p78_3    ) hZ (ww hw 26 rfl) (ww hw 2 rfl) (by decide) (by decide)) q79a q79c (g := (mkF m 281 (Sh11 q1 q2 q3 1 0 b7 b11 b14 1 20000 20000 0 0) [(.long 0), (.ref b14)])) rfl (by rw [hml]; rfl) (Steps.refl _) (argsL := [(.long (0 : Int64))]) (rest := []) (lenOf pd_28J29Z rfl) rfl (by show 2 * 0 + _ ≤ _; exact Nat.le_of_eq rfl) (hb hby at_281) (fun _ _ => ⟨rfl, rfl, (by decide : 1 + 0 ≤ _), (by decide : 3 + 0 ≤ _)⟩)
                dsimp only [Pt.U, Pt.locs, Pt.cells, Pt.slots] at X79 l79 y79 z79 st79 hQ79
                subst l79 y79 z79
                obtain ⟨rfl, N79q, e79⟩ := hQ79
                have N79 := Fr.app N78 N79q
                refine GoW.sg (mkF m 284 (Sh11 q1 q2 q3 1 0 b7 b11 b14 1 20000 20000 0 0) [(.int 0)]) (fun t k => st79.trans k) ?_
                refine GoW.sg (mkF m 287 (Sh11 q1 q2 q3 1 0 b7 b11 b14 1 20000 20000 0 0) []) (fun t k => XS.ifNo X79.here hx rfl (hb hby at_284) rfl (by decide) k) ?_
                refine GoW.sg (mkF m 288 (Sh11 q1 q2 q3 1 0 b7 b11 b14 1 20000 20000 0 0) [(.int 1)]) (fun t k => XS.iconst X79.here hx rfl (hb hby at_287) k) ?_
                refine GoW.sg (mkF m 292 (Sh11 q1 q2 q3 1 0 b7 b11 b14 1 20000 20000 0 0) [(.int 1)]) (fun t k => XS.goto X79.here hx rfl (pc0 := 288) (pc' := 292) rfl (hb hby at_288) (by decide) (by decide) k) ?_
                refine GoW.sg (mkF m 294 (Sh11 q1 q2 q3 1 0 b7 b11 b14 1 20000 20000 0 0) []) (fun t k => XS.istore X79.here hx rfl (hb hby at_292) rfl (l' := (Sh11 q1 q2 q3 1 0 b7 b11 b14 1 20000 20000 0 0)) rfl k) ?_
                refine GoW.sg (mkF m 296 (Sh11 q1 q2 q3 1 0 b7 b11 b14 1 20000 20000 0 0) [(.int 1)]) (fun t k => XS.iload X79.here hx rfl (hb hby at_294) rfl k) ?_
                refine GoW.retN X79 hx (t := .boolean) Bd.returns (by simp) (hb hby at_296) Bd.notSynchronized ?_ (by decide) (by decide)
                exact ⟨rfl, N79⟩
              · show GoW p e below s (ValQ (.int (1 : Int32)) n0) room_1.cells room_1.slots (T68.setTop (mkF m 230 (Sh9 q1 q2 q3 1 0 b7 b11 b14 1 20000 20000) []))
                refine GoW.sg (mkF m 232 (Sh9 q1 q2 q3 1 0 b7 b11 b14 1 20000 20000) [(.ref b14)]) (fun t k => XS.aload X68.here hx rfl (hb hby at_230) rfl rfl k) ?_
                refine GoW.sg (mkF m 233 (Sh9 q1 q2 q3 1 0 b7 b11 b14 1 20000 20000) [(.long q2), (.ref b14)]) (fun t k => XS.lloadN X68.here hx rfl (hb hby at_232) rfl k) ?_
                obtain ⟨cq86, kq86, q86a, q86b, q86c⟩ := isOf hZ e68 p65_0
                obtain ⟨_, _, ⟨T86, L86, k86, n86⟩, -, X86, ⟨Lc86, hQ86, l86, y86, z86⟩, st86⟩ := X68.virtualBack hx (y := (⟨"com/example/spindle/spindle/SpinRule", "spinNanos", "(J)J"⟩ : MethodName)) (z := (⟨"com/example/spindle/spindle/SpinRule", "spinNanos", "(J)J"⟩ : MethodName)) hown (mvT hZ (ww hw 11 rfl)) (mvT hZ (ww hw 12 rfl)) (notFace_of_selects (args := #[]) (mvT hZ (ww hw 14 rfl))) (mvT hZ (ww hw 14 rfl)) (mvT hZ (ww hw 13 rfl)) (by decide) (backOf (W := 0) (rm3_9 l Z a0 hw [] b14 q2  T65.heap n0  p65_0 p65_1 p65_2 p65_3 g_b14  c69 ) hZ (ww hw 15 rfl) (ww hw 2 rfl) (by decide) (by decide)) q86a q86c (g := (mkF m 233 (Sh9 q1 q2 q3 1 0 b7 b11 b14 1 20000 20000) [(.long q2), (.ref b14)])) rfl (by rw [hml]; rfl) (Steps.refl _) (argsL := [(.long q2)]) (rest := []) (lenOf pd_28J29J rfl) rfl (by show 2 * 0 + _ ≤ _; exact Nat.le_of_eq rfl) (hb hby at_233) (fun _ _ => ⟨rfl, e68, (by decide : 1 + 0 ≤ _), (by decide : 3 + 0 ≤ _)⟩)
                dsimp only [Pt.U, Pt.locs, Pt.cells, Pt.slots] at X86 l86 y86 z86 st86 hQ86
                subst l86 y86 z86
                obtain ⟨rfl, N86q, K86, p86_0, p86_1, p86_2, p86_3⟩ := hQ86
                have N86 := Fr.app N68 N86q
                have Zs_86 : n0 ≤ T86.heap.size := Nat.le_trans Zs_65 K86.1
                refine GoW.sg (mkF m 236 (Sh9 q1 q2 q3 1 0 b7 b11 b14 1 20000 20000) [(.long q2)]) (fun t k => st86.trans k) ?_
                refine GoW.sg (mkF m 238 (Sh10 q1 q2 q3 1 0 b7 b11 b14 1 20000 20000 q2) []) (fun t k => XS.lstore X86.here hx rfl (hb hby at_236) rfl (l' := (Sh10 q1 q2 q3 1 0 b7 b11 b14 1 20000 20000 q2)) rfl k) ?_
                refine GoW.sg (mkF m 239 (Sh10 q1 q2 q3 1 0 b7 b11 b14 1 20000 20000 q2) [(.long q2)]) (fun t k => XS.lloadN X86.here hx rfl (hb hby at_238) rfl k) ?_
                refine GoW.sg (mkF m 242 (Sh10 q1 q2 q3 1 0 b7 b11 b14 1 20000 20000 q2) [(.long 20000), (.long q2)]) (fun t k => X86.ldc2Long hx hown (mvT hZ (ww hw 21 rfl)) (g := (mkF m 239 (Sh10 q1 q2 q3 1 0 b7 b11 b14 1 20000 20000 q2) [(.long q2)])) rfl (hb hby at_239) t k) ?_
                refine GoW.sg (mkF m 243 (Sh10 q1 q2 q3 1 0 b7 b11 b14 1 20000 20000 q2) [(.int (lcmpW q2 (20000 : Int64)))]) (fun t k => XS.lcmp X86.here hx rfl (hb hby at_242) rfl k) ?_
                refine GoW.sg (mkF m 246 (Sh10 q1 q2 q3 1 0 b7 b11 b14 1 20000 20000 q2) []) (fun t k => XS.ifNo X86.here hx rfl (hb hby at_243) rfl ((if0 _ _).trans (flt (mt (lw_gt _ _).mp c69)).2.2.1) k) ?_
                refine GoW.sg (mkF m 247 (Sh10 q1 q2 q3 1 0 b7 b11 b14 1 20000 20000 q2) [(.long q2)]) (fun t k => XS.lloadN X86.here hx rfl (hb hby at_246) rfl k) ?_
                refine GoW.sg (mkF m 251 (Sh10 q1 q2 q3 1 0 b7 b11 b14 1 20000 20000 q2) [(.long q2)]) (fun t k => XS.goto X86.here hx rfl (pc0 := 247) (pc' := 251) rfl (hb hby at_247) (by decide) (by decide) k) ?_
                refine GoW.sg (mkF m 253 (Sh11 q1 q2 q3 1 0 b7 b11 b14 1 20000 20000 q2 q2) []) (fun t k => XS.lstore X86.here hx rfl (hb hby at_251) rfl (l' := (Sh11 q1 q2 q3 1 0 b7 b11 b14 1 20000 20000 q2 q2)) rfl k) ?_
                refine GoW.sg (mkF m 255 (Sh11 q1 q2 q3 1 0 b7 b11 b14 1 20000 20000 q2 q2) [(.int 1)]) (fun t k => XS.iload X86.here hx rfl (hb hby at_253) rfl k) ?_
                refine GoW.sg (mkF m 258 (Sh11 q1 q2 q3 1 0 b7 b11 b14 1 20000 20000 q2 q2) []) (fun t k => XS.ifNo X86.here hx rfl (hb hby at_255) rfl (by decide) k) ?_
                refine GoW.sg (mkF m 260 (Sh11 q1 q2 q3 1 0 b7 b11 b14 1 20000 20000 q2 q2) [(.long q2)]) (fun t k => XS.lload X86.here hx rfl (hb hby at_258) rfl k) ?_
                refine GoW.sg (mkF m 262 (Sh11 q1 q2 q3 1 0 b7 b11 b14 1 20000 20000 q2 q2) [(.long q2), (.long q2)]) (fun t k => XS.lload X86.here hx rfl (hb hby at_260) rfl k) ?_
                refine GoW.sg (mkF m 263 (Sh11 q1 q2 q3 1 0 b7 b11 b14 1 20000 20000 q2 q2) [(.int (lcmpW q2 q2))]) (fun t k => XS.lcmp X86.here hx rfl (hb hby at_262) rfl k) ?_
                refine GoW.sg (mkF m 266 (Sh11 q1 q2 q3 1 0 b7 b11 b14 1 20000 20000 q2 q2) []) (fun t k => XS.ifNo X86.here hx rfl (hb hby at_263) rfl ((if0 _ _).trans (teq ((lw_eq _ _).mpr rfl)).2) k) ?_
                refine GoW.sg (mkF m 267 (Sh11 q1 q2 q3 1 0 b7 b11 b14 1 20000 20000 q2 q2) [(.int 1)]) (fun t k => XS.iconst X86.here hx rfl (hb hby at_266) k) ?_
                refine GoW.sg (mkF m 271 (Sh11 q1 q2 q3 1 0 b7 b11 b14 1 20000 20000 q2 q2) [(.int 1)]) (fun t k => XS.goto X86.here hx rfl (pc0 := 267) (pc' := 271) rfl (hb hby at_267) (by decide) (by decide) k) ?_
                refine GoW.sg (mkF m 273 (Sh11 q1 q2 q3 1 0 b7 b11 b14 1 20000 20000 q2 q2) []) (fun t k => XS.istore X86.here hx rfl (hb hby at_271) rfl (l' := (Sh11 q1 q2 q3 1 0 b7 b11 b14 1 20000 20000 q2 q2)) rfl k) ?_
                refine GoW.sg (mkF m 275 (Sh11 q1 q2 q3 1 0 b7 b11 b14 1 20000 20000 q2 q2) [(.int 1)]) (fun t k => XS.iload X86.here hx rfl (hb hby at_273) rfl k) ?_
                refine GoW.sg (mkF m 278 (Sh11 q1 q2 q3 1 0 b7 b11 b14 1 20000 20000 q2 q2) []) (fun t k => XS.ifNo X86.here hx rfl (hb hby at_275) rfl (by decide) k) ?_
                refine GoW.sg (mkF m 280 (Sh11 q1 q2 q3 1 0 b7 b11 b14 1 20000 20000 q2 q2) [(.ref b14)]) (fun t k => XS.aload X86.here hx rfl (hb hby at_278) rfl rfl k) ?_
                refine GoW.sg (mkF m 281 (Sh11 q1 q2 q3 1 0 b7 b11 b14 1 20000 20000 q2 q2) [(.long 0), (.ref b14)]) (fun t k => XS.lconst X86.here hx rfl (hb hby at_280) k) ?_
                obtain ⟨cq87, kq87, q87a, q87b, q87c⟩ := isOf hZ rfl p86_0
                obtain ⟨_, _, ⟨T87, L87, k87, n87⟩, -, X87, ⟨Lc87, hQ87, l87, y87, z87⟩, st87⟩ := X86.virtualBack hx (y := (⟨"com/example/spindle/spindle/SpinRule", "timesWait", "(J)Z"⟩ : MethodName)) (z := (⟨"com/example/spindle/spindle/SpinRule", "timesWait", "(J)Z"⟩ : MethodName)) hown (mvT hZ (ww hw 22 rfl)) (mvT hZ (ww hw 23 rfl)) (notFace_of_selects (args := #[]) (mvT hZ (ww hw 25 rfl))) (mvT hZ (ww hw 25 rfl)) (mvT hZ (ww hw 24 rfl)) (by decide) (backOf (W := 0) (rm4_3 l Z a0 hw [] b14  T86.heap n0  p86_0 p86_1 p86_2 p86_3    ) hZ (ww hw 26 rfl) (ww hw 2 rfl) (by decide) (by decide)) q87a q87c (g := (mkF m 281 (Sh11 q1 q2 q3 1 0 b7 b11 b14 1 20000 20000 q2 q2) [(.long 0), (.ref b14)])) rfl (by rw [hml]; rfl) (Steps.refl _) (argsL := [(.long (0 : Int64))]) (rest := []) (lenOf pd_28J29Z rfl) rfl (by show 2 * 0 + _ ≤ _; exact Nat.le_of_eq rfl) (hb hby at_281) (fun _ _ => ⟨rfl, rfl, (by decide : 1 + 0 ≤ _), (by decide : 3 + 0 ≤ _)⟩)
                dsimp only [Pt.U, Pt.locs, Pt.cells, Pt.slots] at X87 l87 y87 z87 st87 hQ87
                subst l87 y87 z87
                obtain ⟨rfl, N87q, e87⟩ := hQ87
                have N87 := Fr.app N86 N87q
                refine GoW.sg (mkF m 284 (Sh11 q1 q2 q3 1 0 b7 b11 b14 1 20000 20000 q2 q2) [(.int 0)]) (fun t k => st87.trans k) ?_
                refine GoW.sg (mkF m 287 (Sh11 q1 q2 q3 1 0 b7 b11 b14 1 20000 20000 q2 q2) []) (fun t k => XS.ifNo X87.here hx rfl (hb hby at_284) rfl (by decide) k) ?_
                refine GoW.sg (mkF m 288 (Sh11 q1 q2 q3 1 0 b7 b11 b14 1 20000 20000 q2 q2) [(.int 1)]) (fun t k => XS.iconst X87.here hx rfl (hb hby at_287) k) ?_
                refine GoW.sg (mkF m 292 (Sh11 q1 q2 q3 1 0 b7 b11 b14 1 20000 20000 q2 q2) [(.int 1)]) (fun t k => XS.goto X87.here hx rfl (pc0 := 288) (pc' := 292) rfl (hb hby at_288) (by decide) (by decide) k) ?_
                refine GoW.sg (mkF m 294 (Sh11 q1 q2 q3 1 0 b7 b11 b14 1 20000 20000 q2 q2) []) (fun t k => XS.istore X87.here hx rfl (hb hby at_292) rfl (l' := (Sh11 q1 q2 q3 1 0 b7 b11 b14 1 20000 20000 q2 q2)) rfl k) ?_
                refine GoW.sg (mkF m 296 (Sh11 q1 q2 q3 1 0 b7 b11 b14 1 20000 20000 q2 q2) [(.int 1)]) (fun t k => XS.iload X87.here hx rfl (hb hby at_294) rfl k) ?_
                refine GoW.retN X87 hx (t := .boolean) Bd.returns (by simp) (hb hby at_296) Bd.notSynchronized ?_ (by decide) (by decide)
                exact ⟨rfl, N87⟩
            · show GoW p e below s (ValQ (.int (1 : Int32)) n0) room_1.cells room_1.slots (T53.setTop (mkF m 140 (Sh6 q1 q2 q3 1 0 b7 b11 b14 1) []))
              refine GoW.sg (mkF m 142 (Sh6 q1 q2 q3 1 0 b7 b11 b14 1) [(.ref b14)]) (fun t k => XS.aload X53.here hx rfl (hb hby at_140) rfl rfl k) ?_
              refine GoW.sg (mkF m 144 (Sh6 q1 q2 q3 1 0 b7 b11 b14 1) [(.long b11), (.ref b14)]) (fun t k => XS.lload X53.here hx rfl (hb hby at_142) rfl k) ?_
              obtain ⟨cq94, kq94, q94a, q94b, q94c⟩ := isOf hZ rfl p53_0
              obtain ⟨_, _, ⟨T94, L94, k94, n94⟩, -, X94, ⟨Lc94, hQ94, l94, y94, z94⟩, st94⟩ := X53.virtualBack hx (y := (⟨"com/example/spindle/spindle/SpinRule", "spinNanos", "(J)J"⟩ : MethodName)) (z := (⟨"com/example/spindle/spindle/SpinRule", "spinNanos", "(J)J"⟩ : MethodName)) hown (mvT hZ (ww hw 11 rfl)) (mvT hZ (ww hw 12 rfl)) (notFace_of_selects (args := #[]) (mvT hZ (ww hw 14 rfl))) (mvT hZ (ww hw 14 rfl)) (mvT hZ (ww hw 13 rfl)) (by decide) (backOf (W := 0) (rm3_10 l Z a0 hw [] b14 b11  T53.heap n0  p53_0 p53_1 p53_2 p53_3 g_b14  c54 ) hZ (ww hw 15 rfl) (ww hw 2 rfl) (by decide) (by decide)) q94a q94c (g := (mkF m 144 (Sh6 q1 q2 q3 1 0 b7 b11 b14 1) [(.long b11), (.ref b14)])) rfl (by rw [hml]; rfl) (Steps.refl _) (argsL := [(.long b11)]) (rest := []) (lenOf pd_28J29J rfl) rfl (by show 2 * 0 + _ ≤ _; exact Nat.le_of_eq rfl) (hb hby at_144) (fun _ _ => ⟨rfl, rfl, (by decide : 1 + 0 ≤ _), (by decide : 3 + 0 ≤ _)⟩)
              dsimp only [Pt.U, Pt.locs, Pt.cells, Pt.slots] at X94 l94 y94 z94 st94 hQ94
              subst l94 y94 z94
              obtain ⟨rfl, N94q, K94, p94_0, p94_1, p94_2, p94_3⟩ := hQ94
              have N94 := Fr.app N53 N94q
              have Zs_94 : n0 ≤ T94.heap.size := Nat.le_trans Zs_53 K94.1
              refine GoW.sg (mkF m 147 (Sh6 q1 q2 q3 1 0 b7 b11 b14 1) [(.long b11)]) (fun t k => st94.trans k) ?_
              refine GoW.sg (mkF m 149 (Sh8 q1 q2 q3 1 0 b7 b11 b14 1 b11) []) (fun t k => XS.lstore X94.here hx rfl (hb hby at_147) rfl (l' := (Sh8 q1 q2 q3 1 0 b7 b11 b14 1 b11)) rfl k) ?_
              refine GoW.sg (mkF m 151 (Sh8 q1 q2 q3 1 0 b7 b11 b14 1 b11) [(.long b11)]) (fun t k => XS.lload X94.here hx rfl (hb hby at_149) rfl k) ?_
              refine GoW.sg (mkF m 154 (Sh8 q1 q2 q3 1 0 b7 b11 b14 1 b11) [(.long 20000), (.long b11)]) (fun t k => X94.ldc2Long hx hown (mvT hZ (ww hw 21 rfl)) (g := (mkF m 151 (Sh8 q1 q2 q3 1 0 b7 b11 b14 1 b11) [(.long b11)])) rfl (hb hby at_151) t k) ?_
              refine GoW.sg (mkF m 155 (Sh8 q1 q2 q3 1 0 b7 b11 b14 1 b11) [(.int (lcmpW b11 (20000 : Int64)))]) (fun t k => XS.lcmp X94.here hx rfl (hb hby at_154) rfl k) ?_
              refine GoW.sg (mkF m 158 (Sh8 q1 q2 q3 1 0 b7 b11 b14 1 b11) []) (fun t k => XS.ifNo X94.here hx rfl (hb hby at_155) rfl ((if0 _ _).trans (flt (mt (lw_gt _ _).mp c54)).2.2.1) k) ?_
              refine GoW.sg (mkF m 160 (Sh8 q1 q2 q3 1 0 b7 b11 b14 1 b11) [(.long b11)]) (fun t k => XS.lload X94.here hx rfl (hb hby at_158) rfl k) ?_
              refine GoW.sg (mkF m 162 (Sh9 q1 q2 q3 1 0 b7 b11 b14 1 b11 b11) []) (fun t k => XS.lstore X94.here hx rfl (hb hby at_160) rfl (l' := (Sh9 q1 q2 q3 1 0 b7 b11 b14 1 b11 b11)) rfl k) ?_
              refine GoW.sg (mkF m 187 (Sh9 q1 q2 q3 1 0 b7 b11 b14 1 b11 b11) []) (fun t k => XS.goto X94.here hx rfl (pc0 := 162) (pc' := 187) rfl (hb hby at_162) (by decide) (by decide) k) ?_
              refine GoW.sg (mkF m 189 (Sh9 q1 q2 q3 1 0 b7 b11 b14 1 b11 b11) [(.int 1)]) (fun t k => XS.iload X94.here hx rfl (hb hby at_187) rfl k) ?_
              refine GoW.sg (mkF m 192 (Sh9 q1 q2 q3 1 0 b7 b11 b14 1 b11 b11) []) (fun t k => XS.ifNo X94.here hx rfl (hb hby at_189) rfl (by decide) k) ?_
              refine GoW.sg (mkF m 194 (Sh9 q1 q2 q3 1 0 b7 b11 b14 1 b11 b11) [(.long b11)]) (fun t k => XS.lload X94.here hx rfl (hb hby at_192) rfl k) ?_
              refine GoW.sg (mkF m 196 (Sh9 q1 q2 q3 1 0 b7 b11 b14 1 b11 b11) [(.long b11), (.long b11)]) (fun t k => XS.lload X94.here hx rfl (hb hby at_194) rfl k) ?_
              refine GoW.sg (mkF m 197 (Sh9 q1 q2 q3 1 0 b7 b11 b14 1 b11 b11) [(.int (lcmpW b11 b11))]) (fun t k => XS.lcmp X94.here hx rfl (hb hby at_196) rfl k) ?_
              refine GoW.sg (mkF m 200 (Sh9 q1 q2 q3 1 0 b7 b11 b14 1 b11 b11) []) (fun t k => XS.ifNo X94.here hx rfl (hb hby at_197) rfl ((if0 _ _).trans (teq ((lw_eq _ _).mpr rfl)).2) k) ?_
              refine GoW.sg (mkF m 201 (Sh9 q1 q2 q3 1 0 b7 b11 b14 1 b11 b11) [(.int 1)]) (fun t k => XS.iconst X94.here hx rfl (hb hby at_200) k) ?_
              refine GoW.sg (mkF m 205 (Sh9 q1 q2 q3 1 0 b7 b11 b14 1 b11 b11) [(.int 1)]) (fun t k => XS.goto X94.here hx rfl (pc0 := 201) (pc' := 205) rfl (hb hby at_201) (by decide) (by decide) k) ?_
              refine GoW.sg (mkF m 207 (Sh9 q1 q2 q3 1 0 b7 b11 b14 1 b11 b11) []) (fun t k => XS.istore X94.here hx rfl (hb hby at_205) rfl (l' := (Sh9 q1 q2 q3 1 0 b7 b11 b14 1 b11 b11)) rfl k) ?_
              refine GoW.sg (mkF m 209 (Sh9 q1 q2 q3 1 0 b7 b11 b14 1 b11 b11) [(.int 1)]) (fun t k => XS.iload X94.here hx rfl (hb hby at_207) rfl k) ?_
              refine GoW.sg (mkF m 212 (Sh9 q1 q2 q3 1 0 b7 b11 b14 1 b11 b11) []) (fun t k => XS.ifNo X94.here hx rfl (hb hby at_209) rfl (by decide) k) ?_
              refine GoW.sg (mkF m 214 (Sh9 q1 q2 q3 1 0 b7 b11 b14 1 b11 b11) [(.ref b14)]) (fun t k => XS.aload X94.here hx rfl (hb hby at_212) rfl rfl k) ?_
              refine GoW.sg (mkF m 215 (Sh9 q1 q2 q3 1 0 b7 b11 b14 1 b11 b11) [(.long 0), (.ref b14)]) (fun t k => XS.lconst X94.here hx rfl (hb hby at_214) k) ?_
              obtain ⟨cq95, kq95, q95a, q95b, q95c⟩ := isOf hZ rfl p94_0
              obtain ⟨_, _, ⟨T95, L95, k95, n95⟩, -, X95, ⟨Lc95, hQ95, l95, y95, z95⟩, st95⟩ := X94.virtualBack hx (y := (⟨"com/example/spindle/spindle/SpinRule", "timesWait", "(J)Z"⟩ : MethodName)) (z := (⟨"com/example/spindle/spindle/SpinRule", "timesWait", "(J)Z"⟩ : MethodName)) hown (mvT hZ (ww hw 22 rfl)) (mvT hZ (ww hw 23 rfl)) (notFace_of_selects (args := #[]) (mvT hZ (ww hw 25 rfl))) (mvT hZ (ww hw 25 rfl)) (mvT hZ (ww hw 24 rfl)) (by decide) (backOf (W := 0) (rm4_7 l Z a0 hw [] b14  T94.heap n0  p94_0 p94_1 p94_2 p94_3    ) hZ (ww hw 26 rfl) (ww hw 2 rfl) (by decide) (by decide)) q95a q95c (g := (mkF m 215 (Sh9 q1 q2 q3 1 0 b7 b11 b14 1 b11 b11) [(.long 0), (.ref b14)])) rfl (by rw [hml]; rfl) (Steps.refl _) (argsL := [(.long (0 : Int64))]) (rest := []) (lenOf pd_28J29Z rfl) rfl (by show 2 * 0 + _ ≤ _; exact Nat.le_of_eq rfl) (hb hby at_215) (fun _ _ => ⟨rfl, rfl, (by decide : 1 + 0 ≤ _), (by decide : 3 + 0 ≤ _)⟩)
              dsimp only [Pt.U, Pt.locs, Pt.cells, Pt.slots] at X95 l95 y95 z95 st95 hQ95
              subst l95 y95 z95
              obtain ⟨rfl, N95q, e95⟩ := hQ95
              have N95 := Fr.app N94 N95q
              refine GoW.sg (mkF m 218 (Sh9 q1 q2 q3 1 0 b7 b11 b14 1 b11 b11) [(.int 1)]) (fun t k => st95.trans k) ?_
              refine GoW.sg (mkF m 220 (Sh9 q1 q2 q3 1 0 b7 b11 b14 1 b11 b11) [(.int 1), (.int 1)]) (fun t k => XS.iload X95.here hx rfl (hb hby at_218) rfl k) ?_
              refine GoW.sg (mkF m 223 (Sh9 q1 q2 q3 1 0 b7 b11 b14 1 b11 b11) []) (fun t k => XS.icmpNo X95.here hx rfl (hb hby at_220) rfl (by decide) k) ?_
              refine GoW.sg (mkF m 224 (Sh9 q1 q2 q3 1 0 b7 b11 b14 1 b11 b11) [(.int 1)]) (fun t k => XS.iconst X95.here hx rfl (hb hby at_223) k) ?_
              refine GoW.sg (mkF m 228 (Sh9 q1 q2 q3 1 0 b7 b11 b14 1 b11 b11) [(.int 1)]) (fun t k => XS.goto X95.here hx rfl (pc0 := 224) (pc' := 228) rfl (hb hby at_224) (by decide) (by decide) k) ?_
              refine GoW.sg (mkF m 230 (Sh9 q1 q2 q3 1 0 b7 b11 b14 1 b11 b11) []) (fun t k => XS.istore X95.here hx rfl (hb hby at_228) rfl (l' := (Sh9 q1 q2 q3 1 0 b7 b11 b14 1 b11 b11)) rfl k) ?_
              by_cases c96 : (20000 : Int64) < q2
              · show GoW p e below s (ValQ (.int (1 : Int32)) n0) room_1.cells room_1.slots (T95.setTop (mkF m 230 (Sh9 q1 q2 q3 1 0 b7 b11 b14 1 b11 b11) []))
                refine GoW.sg (mkF m 232 (Sh9 q1 q2 q3 1 0 b7 b11 b14 1 b11 b11) [(.ref b14)]) (fun t k => XS.aload X95.here hx rfl (hb hby at_230) rfl rfl k) ?_
                refine GoW.sg (mkF m 233 (Sh9 q1 q2 q3 1 0 b7 b11 b14 1 b11 b11) [(.long q2), (.ref b14)]) (fun t k => XS.lloadN X95.here hx rfl (hb hby at_232) rfl k) ?_
                obtain ⟨cq97, kq97, q97a, q97b, q97c⟩ := isOf hZ e95 p94_0
                obtain ⟨_, _, ⟨T97, L97, k97, n97⟩, -, X97, ⟨Lc97, hQ97, l97, y97, z97⟩, st97⟩ := X95.virtualBack hx (y := (⟨"com/example/spindle/spindle/SpinRule", "spinNanos", "(J)J"⟩ : MethodName)) (z := (⟨"com/example/spindle/spindle/SpinRule", "spinNanos", "(J)J"⟩ : MethodName)) hown (mvT hZ (ww hw 11 rfl)) (mvT hZ (ww hw 12 rfl)) (notFace_of_selects (args := #[]) (mvT hZ (ww hw 14 rfl))) (mvT hZ (ww hw 14 rfl)) (mvT hZ (ww hw 13 rfl)) (by decide) (backOf (W := 0) (rm3_8 l Z a0 hw [] b14 q2  T94.heap n0  p94_0 p94_1 p94_2 p94_3 g_b14  c96 ) hZ (ww hw 15 rfl) (ww hw 2 rfl) (by decide) (by decide)) q97a q97c (g := (mkF m 233 (Sh9 q1 q2 q3 1 0 b7 b11 b14 1 b11 b11) [(.long q2), (.ref b14)])) rfl (by rw [hml]; rfl) (Steps.refl _) (argsL := [(.long q2)]) (rest := []) (lenOf pd_28J29J rfl) rfl (by show 2 * 0 + _ ≤ _; exact Nat.le_of_eq rfl) (hb hby at_233) (fun _ _ => ⟨rfl, e95, (by decide : 1 + 0 ≤ _), (by decide : 3 + 0 ≤ _)⟩)
                dsimp only [Pt.U, Pt.locs, Pt.cells, Pt.slots] at X97 l97 y97 z97 st97 hQ97
                subst l97 y97 z97
                obtain ⟨rfl, N97q, K97, p97_0, p97_1, p97_2, p97_3⟩ := hQ97
                have N97 := Fr.app N95 N97q
                have Zs_97 : n0 ≤ T97.heap.size := Nat.le_trans Zs_94 K97.1
                refine GoW.sg (mkF m 236 (Sh9 q1 q2 q3 1 0 b7 b11 b14 1 b11 b11) [(.long 0)]) (fun t k => st97.trans k) ?_
                refine GoW.sg (mkF m 238 (Sh10 q1 q2 q3 1 0 b7 b11 b14 1 b11 b11 0) []) (fun t k => XS.lstore X97.here hx rfl (hb hby at_236) rfl (l' := (Sh10 q1 q2 q3 1 0 b7 b11 b14 1 b11 b11 0)) rfl k) ?_
                refine GoW.sg (mkF m 239 (Sh10 q1 q2 q3 1 0 b7 b11 b14 1 b11 b11 0) [(.long q2)]) (fun t k => XS.lloadN X97.here hx rfl (hb hby at_238) rfl k) ?_
                refine GoW.sg (mkF m 242 (Sh10 q1 q2 q3 1 0 b7 b11 b14 1 b11 b11 0) [(.long 20000), (.long q2)]) (fun t k => X97.ldc2Long hx hown (mvT hZ (ww hw 21 rfl)) (g := (mkF m 239 (Sh10 q1 q2 q3 1 0 b7 b11 b14 1 b11 b11 0) [(.long q2)])) rfl (hb hby at_239) t k) ?_
                refine GoW.sg (mkF m 243 (Sh10 q1 q2 q3 1 0 b7 b11 b14 1 b11 b11 0) [(.int (lcmpW q2 (20000 : Int64)))]) (fun t k => XS.lcmp X97.here hx rfl (hb hby at_242) rfl k) ?_
                refine GoW.sg (mkF m 250 (Sh10 q1 q2 q3 1 0 b7 b11 b14 1 b11 b11 0) []) (fun t k => XS.ifYes X97.here hx rfl (pc0 := 243) (pc' := 250) rfl (hb hby at_243) rfl ((if0 _ _).trans (tlt ((lw_gt _ _).mpr c96)).2.2.1) (by decide) (by decide) k) ?_
                refine GoW.sg (mkF m 251 (Sh10 q1 q2 q3 1 0 b7 b11 b14 1 b11 b11 0) [(.long 0)]) (fun t k => XS.lconst X97.here hx rfl (hb hby at_250) k) ?_
                refine GoW.sg (mkF m 253 (Sh11 q1 q2 q3 1 0 b7 b11 b14 1 b11 b11 0 0) []) (fun t k => XS.lstore X97.here hx rfl (hb hby at_251) rfl (l' := (Sh11 q1 q2 q3 1 0 b7 b11 b14 1 b11 b11 0 0)) rfl k) ?_
                refine GoW.sg (mkF m 255 (Sh11 q1 q2 q3 1 0 b7 b11 b14 1 b11 b11 0 0) [(.int 1)]) (fun t k => XS.iload X97.here hx rfl (hb hby at_253) rfl k) ?_
                refine GoW.sg (mkF m 258 (Sh11 q1 q2 q3 1 0 b7 b11 b14 1 b11 b11 0 0) []) (fun t k => XS.ifNo X97.here hx rfl (hb hby at_255) rfl (by decide) k) ?_
                refine GoW.sg (mkF m 260 (Sh11 q1 q2 q3 1 0 b7 b11 b14 1 b11 b11 0 0) [(.long 0)]) (fun t k => XS.lload X97.here hx rfl (hb hby at_258) rfl k) ?_
                refine GoW.sg (mkF m 262 (Sh11 q1 q2 q3 1 0 b7 b11 b14 1 b11 b11 0 0) [(.long 0), (.long 0)]) (fun t k => XS.lload X97.here hx rfl (hb hby at_260) rfl k) ?_
                refine GoW.sg (mkF m 263 (Sh11 q1 q2 q3 1 0 b7 b11 b14 1 b11 b11 0 0) [(.int (lcmpW (0 : Int64) (0 : Int64)))]) (fun t k => XS.lcmp X97.here hx rfl (hb hby at_262) rfl k) ?_
                refine GoW.sg (mkF m 266 (Sh11 q1 q2 q3 1 0 b7 b11 b14 1 b11 b11 0 0) []) (fun t k => XS.ifNo X97.here hx rfl (hb hby at_263) rfl (by decide) k) ?_
                refine GoW.sg (mkF m 267 (Sh11 q1 q2 q3 1 0 b7 b11 b14 1 b11 b11 0 0) [(.int 1)]) (fun t k => XS.iconst X97.here hx rfl (hb hby at_266) k) ?_
                refine GoW.sg (mkF m 271 (Sh11 q1 q2 q3 1 0 b7 b11 b14 1 b11 b11 0 0) [(.int 1)]) (fun t k => XS.goto X97.here hx rfl (pc0 := 267) (pc' := 271) rfl (hb hby at_267) (by decide) (by decide) k) ?_
                refine GoW.sg (mkF m 273 (Sh11 q1 q2 q3 1 0 b7 b11 b14 1 b11 b11 0 0) []) (fun t k => XS.istore X97.here hx rfl (hb hby at_271) rfl (l' := (Sh11 q1 q2 q3 1 0 b7 b11 b14 1 b11 b11 0 0)) rfl k) ?_
                refine GoW.sg (mkF m 275 (Sh11 q1 q2 q3 1 0 b7 b11 b14 1 b11 b11 0 0) [(.int 1)]) (fun t k => XS.iload X97.here hx rfl (hb hby at_273) rfl k) ?_
                refine GoW.sg (mkF m 278 (Sh11 q1 q2 q3 1 0 b7 b11 b14 1 b11 b11 0 0) []) (fun t k => XS.ifNo X97.here hx rfl (hb hby at_275) rfl (by decide) k) ?_
                refine GoW.sg (mkF m 280 (Sh11 q1 q2 q3 1 0 b7 b11 b14 1 b11 b11 0 0) [(.ref b14)]) (fun t k => XS.aload X97.here hx rfl (hb hby at_278) rfl rfl k) ?_
                refine GoW.sg (mkF m 281 (Sh11 q1 q2 q3 1 0 b7 b11 b14 1 b11 b11 0 0) [(.long 0), (.ref b14)]) (fun t k => XS.lconst X97.here hx rfl (hb hby at_280) k) ?_
                obtain ⟨cq98, kq98, q98a, q98b, q98c⟩ := isOf hZ rfl p97_0
                obtain ⟨_, _, ⟨T98, L98, k98, n98⟩, -, X98, ⟨Lc98, hQ98, l98, y98, z98⟩, st98⟩ := X97.virtualBack hx (y := (⟨"com/example/spindle/spindle/SpinRule", "timesWait", "(J)Z"⟩ : MethodName)) (z := (⟨"com/example/spindle/spindle/SpinRule", "timesWait", "(J)Z"⟩ : MethodName)) hown (mvT hZ (ww hw 22 rfl)) (mvT hZ (ww hw 23 rfl)) (notFace_of_selects (args := #[]) (mvT hZ (ww hw 25 rfl))) (mvT hZ (ww hw 25 rfl)) (mvT hZ (ww hw 24 rfl)) (by decide) (backOf (W := 0) (rm4_3 l Z a0 hw [] b14  T97.heap n0  p97_0 p97_1 p97_2 p97_3    ) hZ (ww hw 26 rfl) (ww hw 2 rfl) (by decide) (by decide)) q98a q98c (g := (mkF m 281 (Sh11 q1 q2 q3 1 0 b7 b11 b14 1 b11 b11 0 0) [(.long 0), (.ref b14)])) rfl (by rw [hml]; rfl) (Steps.refl _) (argsL := [(.long (0 : Int64))]) (rest := []) (lenOf pd_28J29Z rfl) rfl (by show 2 * 0 + _ ≤ _; exact Nat.le_of_eq rfl) (hb hby at_281) (fun _ _ => ⟨rfl, rfl, (by decide : 1 + 0 ≤ _), (by decide : 3 + 0 ≤ _)⟩)
                dsimp only [Pt.U, Pt.locs, Pt.cells, Pt.slots] at X98 l98 y98 z98 st98 hQ98
                subst l98 y98 z98
                obtain ⟨rfl, N98q, e98⟩ := hQ98
                have N98 := Fr.app N97 N98q
                refine GoW.sg (mkF m 284 (Sh11 q1 q2 q3 1 0 b7 b11 b14 1 b11 b11 0 0) [(.int 0)]) (fun t k => st98.trans k) ?_
                refine GoW.sg (mkF m 287 (Sh11 q1 q2 q3 1 0 b7 b11 b14 1 b11 b11 0 0) []) (fun t k => XS.ifNo X98.here hx rfl (hb hby at_284) rfl (by decide) k) ?_
                refine GoW.sg (mkF m 288 (Sh11 q1 q2 q3 1 0 b7 b11 b14 1 b11 b11 0 0) [(.int 1)]) (fun t k => XS.iconst X98.here hx rfl (hb hby at_287) k) ?_
                refine GoW.sg (mkF m 292 (Sh11 q1 q2 q3 1 0 b7 b11 b14 1 b11 b11 0 0) [(.int 1)]) (fun t k => XS.goto X98.here hx rfl (pc0 := 288) (pc' := 292) rfl (hb hby at_288) (by decide) (by decide) k) ?_
                refine GoW.sg (mkF m 294 (Sh11 q1 q2 q3 1 0 b7 b11 b14 1 b11 b11 0 0) []) (fun t k => XS.istore X98.here hx rfl (hb hby at_292) rfl (l' := (Sh11 q1 q2 q3 1 0 b7 b11 b14 1 b11 b11 0 0)) rfl k) ?_
                refine GoW.sg (mkF m 296 (Sh11 q1 q2 q3 1 0 b7 b11 b14 1 b11 b11 0 0) [(.int 1)]) (fun t k => XS.iload X98.here hx rfl (hb hby at_294) rfl k) ?_
                refine GoW.retN X98 hx (t := .boolean) Bd.returns (by simp) (hb hby at_296) Bd.notSynchronized ?_ (by decide) (by decide)
                exact ⟨rfl, N98⟩
              · show GoW p e below s (ValQ (.int (1 : Int32)) n0) room_1.cells room_1.slots (T95.setTop (mkF m 230 (Sh9 q1 q2 q3 1 0 b7 b11 b14 1 b11 b11) []))
                refine GoW.sg (mkF m 232 (Sh9 q1 q2 q3 1 0 b7 b11 b14 1 b11 b11) [(.ref b14)]) (fun t k => XS.aload X95.here hx rfl (hb hby at_230) rfl rfl k) ?_
                refine GoW.sg (mkF m 233 (Sh9 q1 q2 q3 1 0 b7 b11 b14 1 b11 b11) [(.long q2), (.ref b14)]) (fun t k => XS.lloadN X95.here hx rfl (hb hby at_232) rfl k) ?_
                obtain ⟨cq99, kq99, q99a, q99b, q99c⟩ := isOf hZ e95 p94_0
                obtain ⟨_, _, ⟨T99, L99, k99, n99⟩, -, X99, ⟨Lc99, hQ99, l99, y99, z99⟩, st99⟩ := X95.virtualBack hx (y := (⟨"com/example/spindle/spindle/SpinRule", "spinNanos", "(J)J"⟩ : MethodName)) (z := (⟨"com/example/spindle/spindle/SpinRule", "spinNanos", "(J)J"⟩ : MethodName)) hown (mvT hZ (ww hw 11 rfl)) (mvT hZ (ww hw 12 rfl)) (notFace_of_selects (args := #[]) (mvT hZ (ww hw 14 rfl))) (mvT hZ (ww hw 14 rfl)) (mvT hZ (ww hw 13 rfl)) (by decide) (backOf (W := 0) (rm3_9 l Z a0 hw [] b14 q2  T94.heap n0  p94_0 p94_1 p94_2 p94_3 g_b14  c96 ) hZ (ww hw 15 rfl) (ww hw 2 rfl) (by decide) (by decide)) q99a q99c (g := (mkF m 233 (Sh9 q1 q2 q3 1 0 b7 b11 b14 1 b11 b11) [(.long q2), (.ref b14)])) rfl (by rw [hml]; rfl) (Steps.refl _) (argsL := [(.long q2)]) (rest := []) (lenOf pd_28J29J rfl) rfl (by show 2 * 0 + _ ≤ _; exact Nat.le_of_eq rfl) (hb hby at_233) (fun _ _ => ⟨rfl, e95, (by decide : 1 + 0 ≤ _), (by decide : 3 + 0 ≤ _)⟩)
                dsimp only [Pt.U, Pt.locs, Pt.cells, Pt.slots] at X99 l99 y99 z99 st99 hQ99
                subst l99 y99 z99
                obtain ⟨rfl, N99q, K99, p99_0, p99_1, p99_2, p99_3⟩ := hQ99
                have N99 := Fr.app N95 N99q
                have Zs_99 : n0 ≤ T99.heap.size := Nat.le_trans Zs_94 K99.1
                refine GoW.sg (mkF m 236 (Sh9 q1 q2 q3 1 0 b7 b11 b14 1 b11 b11) [(.long q2)]) (fun t k => st99.trans k) ?_
                refine GoW.sg (mkF m 238 (Sh10 q1 q2 q3 1 0 b7 b11 b14 1 b11 b11 q2) []) (fun t k => XS.lstore X99.here hx rfl (hb hby at_236) rfl (l' := (Sh10 q1 q2 q3 1 0 b7 b11 b14 1 b11 b11 q2)) rfl k) ?_
                refine GoW.sg (mkF m 239 (Sh10 q1 q2 q3 1 0 b7 b11 b14 1 b11 b11 q2) [(.long q2)]) (fun t k => XS.lloadN X99.here hx rfl (hb hby at_238) rfl k) ?_
                refine GoW.sg (mkF m 242 (Sh10 q1 q2 q3 1 0 b7 b11 b14 1 b11 b11 q2) [(.long 20000), (.long q2)]) (fun t k => X99.ldc2Long hx hown (mvT hZ (ww hw 21 rfl)) (g := (mkF m 239 (Sh10 q1 q2 q3 1 0 b7 b11 b14 1 b11 b11 q2) [(.long q2)])) rfl (hb hby at_239) t k) ?_
                refine GoW.sg (mkF m 243 (Sh10 q1 q2 q3 1 0 b7 b11 b14 1 b11 b11 q2) [(.int (lcmpW q2 (20000 : Int64)))]) (fun t k => XS.lcmp X99.here hx rfl (hb hby at_242) rfl k) ?_
                refine GoW.sg (mkF m 246 (Sh10 q1 q2 q3 1 0 b7 b11 b14 1 b11 b11 q2) []) (fun t k => XS.ifNo X99.here hx rfl (hb hby at_243) rfl ((if0 _ _).trans (flt (mt (lw_gt _ _).mp c96)).2.2.1) k) ?_
                refine GoW.sg (mkF m 247 (Sh10 q1 q2 q3 1 0 b7 b11 b14 1 b11 b11 q2) [(.long q2)]) (fun t k => XS.lloadN X99.here hx rfl (hb hby at_246) rfl k) ?_
                refine GoW.sg (mkF m 251 (Sh10 q1 q2 q3 1 0 b7 b11 b14 1 b11 b11 q2) [(.long q2)]) (fun t k => XS.goto X99.here hx rfl (pc0 := 247) (pc' := 251) rfl (hb hby at_247) (by decide) (by decide) k) ?_
                refine GoW.sg (mkF m 253 (Sh11 q1 q2 q3 1 0 b7 b11 b14 1 b11 b11 q2 q2) []) (fun t k => XS.lstore X99.here hx rfl (hb hby at_251) rfl (l' := (Sh11 q1 q2 q3 1 0 b7 b11 b14 1 b11 b11 q2 q2)) rfl k) ?_
                refine GoW.sg (mkF m 255 (Sh11 q1 q2 q3 1 0 b7 b11 b14 1 b11 b11 q2 q2) [(.int 1)]) (fun t k => XS.iload X99.here hx rfl (hb hby at_253) rfl k) ?_
                refine GoW.sg (mkF m 258 (Sh11 q1 q2 q3 1 0 b7 b11 b14 1 b11 b11 q2 q2) []) (fun t k => XS.ifNo X99.here hx rfl (hb hby at_255) rfl (by decide) k) ?_
                refine GoW.sg (mkF m 260 (Sh11 q1 q2 q3 1 0 b7 b11 b14 1 b11 b11 q2 q2) [(.long q2)]) (fun t k => XS.lload X99.here hx rfl (hb hby at_258) rfl k) ?_
                refine GoW.sg (mkF m 262 (Sh11 q1 q2 q3 1 0 b7 b11 b14 1 b11 b11 q2 q2) [(.long q2), (.long q2)]) (fun t k => XS.lload X99.here hx rfl (hb hby at_260) rfl k) ?_
                refine GoW.sg (mkF m 263 (Sh11 q1 q2 q3 1 0 b7 b11 b14 1 b11 b11 q2 q2) [(.int (lcmpW q2 q2))]) (fun t k => XS.lcmp X99.here hx rfl (hb hby at_262) rfl k) ?_
                refine GoW.sg (mkF m 266 (Sh11 q1 q2 q3 1 0 b7 b11 b14 1 b11 b11 q2 q2) []) (fun t k => XS.ifNo X99.here hx rfl (hb hby at_263) rfl ((if0 _ _).trans (teq ((lw_eq _ _).mpr rfl)).2) k) ?_
                refine GoW.sg (mkF m 267 (Sh11 q1 q2 q3 1 0 b7 b11 b14 1 b11 b11 q2 q2) [(.int 1)]) (fun t k => XS.iconst X99.here hx rfl (hb hby at_266) k) ?_
                refine GoW.sg (mkF m 271 (Sh11 q1 q2 q3 1 0 b7 b11 b14 1 b11 b11 q2 q2) [(.int 1)]) (fun t k => XS.goto X99.here hx rfl (pc0 := 267) (pc' := 271) rfl (hb hby at_267) (by decide) (by decide) k) ?_
                refine GoW.sg (mkF m 273 (Sh11 q1 q2 q3 1 0 b7 b11 b14 1 b11 b11 q2 q2) []) (fun t k => XS.istore X99.here hx rfl (hb hby at_271) rfl (l' := (Sh11 q1 q2 q3 1 0 b7 b11 b14 1 b11 b11 q2 q2)) rfl k) ?_
                refine GoW.sg (mkF m 275 (Sh11 q1 q2 q3 1 0 b7 b11 b14 1 b11 b11 q2 q2) [(.int 1)]) (fun t k => XS.iload X99.here hx rfl (hb hby at_273) rfl k) ?_
                refine GoW.sg (mkF m 278 (Sh11 q1 q2 q3 1 0 b7 b11 b14 1 b11 b11 q2 q2) []) (fun t k => XS.ifNo X99.here hx rfl (hb hby at_275) rfl (by decide) k) ?_
                refine GoW.sg (mkF m 280 (Sh11 q1 q2 q3 1 0 b7 b11 b14 1 b11 b11 q2 q2) [(.ref b14)]) (fun t k => XS.aload X99.here hx rfl (hb hby at_278) rfl rfl k) ?_
                refine GoW.sg (mkF m 281 (Sh11 q1 q2 q3 1 0 b7 b11 b14 1 b11 b11 q2 q2) [(.long 0), (.ref b14)]) (fun t k => XS.lconst X99.here hx rfl (hb hby at_280) k) ?_
                obtain ⟨cq100, kq100, q100a, q100b, q100c⟩ := isOf hZ rfl p99_0
                obtain ⟨_, _, ⟨T100, L100, k100, n100⟩, -, X100, ⟨Lc100, hQ100, l100, y100, z100⟩, st100⟩ := X99.virtualBack hx (y := (⟨"com/example/spindle/spindle/SpinRule", "timesWait", "(J)Z"⟩ : MethodName)) (z := (⟨"com/example/spindle/spindle/SpinRule", "timesWait", "(J)Z"⟩ : MethodName)) hown (mvT hZ (ww hw 22 rfl)) (mvT hZ (ww hw 23 rfl)) (notFace_of_selects (args := #[]) (mvT hZ (ww hw 25 rfl))) (mvT hZ (ww hw 25 rfl)) (mvT hZ (ww hw 24 rfl)) (by decide) (backOf (W := 0) (rm4_3 l Z a0 hw [] b14  T99.heap n0  p99_0 p99_1 p99_2 p99_3    ) hZ (ww hw 26 rfl) (ww hw 2 rfl) (by decide) (by decide)) q100a q100c (g := (mkF m 281 (Sh11 q1 q2 q3 1 0 b7 b11 b14 1 b11 b11 q2 q2) [(.long 0), (.ref b14)])) rfl (by rw [hml]; rfl) (Steps.refl _) (argsL := [(.long (0 : Int64))]) (rest := []) (lenOf pd_28J29Z rfl) rfl (by show 2 * 0 + _ ≤ _; exact Nat.le_of_eq rfl) (hb hby at_281) (fun _ _ => ⟨rfl, rfl, (by decide : 1 + 0 ≤ _), (by decide : 3 + 0 ≤ _)⟩)
                dsimp only [Pt.U, Pt.locs, Pt.cells, Pt.slots] at X100 l100 y100 z100 st100 hQ100
                subst l100 y100 z100
                obtain ⟨rfl, N100q, e100⟩ := hQ100
                have N100 := Fr.app N99 N100q
                refine GoW.sg (mkF m 284 (Sh11 q1 q2 q3 1 0 b7 b11 b14 1 b11 b11 q2 q2) [(.int 0)]) (fun t k => st100.trans k) ?_
                refine GoW.sg (mkF m 287 (Sh11 q1 q2 q3 1 0 b7 b11 b14 1 b11 b11 q2 q2) []) (fun t k => XS.ifNo X100.here hx rfl (hb hby at_284) rfl (by decide) k) ?_
                refine GoW.sg (mkF m 288 (Sh11 q1 q2 q3 1 0 b7 b11 b14 1 b11 b11 q2 q2) [(.int 1)]) (fun t k => XS.iconst X100.here hx rfl (hb hby at_287) k) ?_
                refine GoW.sg (mkF m 292 (Sh11 q1 q2 q3 1 0 b7 b11 b14 1 b11 b11 q2 q2) [(.int 1)]) (fun t k => XS.goto X100.here hx rfl (pc0 := 288) (pc' := 292) rfl (hb hby at_288) (by decide) (by decide) k) ?_
                refine GoW.sg (mkF m 294 (Sh11 q1 q2 q3 1 0 b7 b11 b14 1 b11 b11 q2 q2) []) (fun t k => XS.istore X100.here hx rfl (hb hby at_292) rfl (l' := (Sh11 q1 q2 q3 1 0 b7 b11 b14 1 b11 b11 q2 q2)) rfl k) ?_
                refine GoW.sg (mkF m 296 (Sh11 q1 q2 q3 1 0 b7 b11 b14 1 b11 b11 q2 q2) [(.int 1)]) (fun t k => XS.iload X100.here hx rfl (hb hby at_294) rfl k) ?_
                refine GoW.retN X100 hx (t := .boolean) Bd.returns (by simp) (hb hby at_296) Bd.notSynchronized ?_ (by decide) (by decide)
                exact ⟨rfl, N100⟩
        · subst cc
          show GoW p e below s (ValQ (.int (1 : Int32)) n0) room_1.cells room_1.slots (T19.setTop (mkF m 69 (Sh6 q1 q2 q3 b2 1 b7 b11 b14 1) []))
          refine GoW.sg (mkF m 71 (Sh6 q1 q2 q3 b2 1 b7 b11 b14 1) [(.int 1)]) (fun t k => XS.iload X19.here hx rfl (hb hby at_69) rfl k) ?_
          refine GoW.sg (mkF m 72 (Sh6 q1 q2 q3 b2 1 b7 b11 b14 1) [(.int 1), (.int 1)]) (fun t k => XS.iconst X19.here hx rfl (hb hby at_71) k) ?_
          refine GoW.sg (mkF m 75 (Sh6 q1 q2 q3 b2 1 b7 b11 b14 1) []) (fun t k => XS.icmpNo X19.here hx rfl (hb hby at_72) rfl (by decide) k) ?_
          refine GoW.sg (mkF m 77 (Sh6 q1 q2 q3 b2 1 b7 b11 b14 1) [(.ref b14)]) (fun t k => XS.aload X19.here hx rfl (hb hby at_75) rfl rfl k) ?_
          obtain ⟨cq101, kq101, q101a, q101b, q101c⟩ := isOf hZ rfl p19_0
          obtain ⟨_, _, ⟨T101, L101, k101, n101⟩, -, X101, ⟨Lc101, hQ101, l101, y101, z101⟩, st101⟩ := X19.virtualBack hx (y := (⟨"com/example/spindle/spindle/SpinRule", "handedOn", "()V"⟩ : MethodName)) (z := (⟨"com/example/spindle/spindle/SpinRule", "handedOn", "()V"⟩ : MethodName)) hown (mvT hZ (ww hw 27 rfl)) (mvT hZ (ww hw 28 rfl)) (notFace_of_selects (args := #[]) (mvT hZ (ww hw 30 rfl))) (mvT hZ (ww hw 30 rfl)) (mvT hZ (ww hw 29 rfl)) (by decide) (backOf (W := 0) (rm5_5 l Z a0 hw [] b14  T19.heap n0  p19_0 p19_1 p19_2 p19_3 g_b14   ) hZ (ww hw 31 rfl) (ww hw 2 rfl) (by decide) (by decide)) q101a q101c (g := (mkF m 77 (Sh6 q1 q2 q3 b2 1 b7 b11 b14 1) [(.ref b14)])) rfl (by rw [hml]; rfl) (Steps.refl _) (argsL := []) (rest := []) (lenOf pd_2829V rfl) rfl (by show 2 * 0 + _ ≤ _; exact Nat.le_of_eq rfl) (hb hby at_77) (fun _ _ => ⟨rfl, rfl, (by decide : 1 + 0 ≤ _), (by decide : 3 + 0 ≤ _)⟩)
          dsimp only [Pt.U, Pt.locs, Pt.cells, Pt.slots] at X101 l101 y101 z101 st101 hQ101
          subst l101 y101 z101
          obtain ⟨rfl, N101q, K101, p101_0, p101_1, p101_2, p101_3⟩ := hQ101
          have N101 := Fr.app N19 N101q
          have Zs_101 : n0 ≤ T101.heap.size := Nat.le_trans Zs_19 K101.1
          refine GoW.sg (mkF m 80 (Sh6 q1 q2 q3 b2 1 b7 b11 b14 1) []) (fun t k => st101.trans k) ?_
          refine GoW.sg (mkF m 82 (Sh6 q1 q2 q3 b2 1 b7 b11 b14 1) [(.ref b14)]) (fun t k => XS.aload X101.here hx rfl (hb hby at_80) rfl rfl k) ?_
          refine GoW.sg (mkF m 85 (Sh6 q1 q2 q3 b2 1 b7 b11 b14 1) [(.long 9223372036854775807), (.ref b14)]) (fun t k => X101.ldc2Long hx hown (mvT hZ (ww hw 32 rfl)) (g := (mkF m 82 (Sh6 q1 q2 q3 b2 1 b7 b11 b14 1) [(.ref b14)])) rfl (hb hby at_82) t k) ?_
          obtain ⟨cq112, kq112, q112a, q112b, q112c⟩ := isOf hZ rfl p101_0
          obtain ⟨_, _, ⟨T112, L112, k112, n112⟩, -, X112, ⟨Lc112, hQ112, l112, y112, z112⟩, st112⟩ := X101.virtualBack hx (y := (⟨"com/example/spindle/spindle/SpinRule", "spinNanos", "(J)J"⟩ : MethodName)) (z := (⟨"com/example/spindle/spindle/SpinRule", "spinNanos", "(J)J"⟩ : MethodName)) hown (mvT hZ (ww hw 11 rfl)) (mvT hZ (ww hw 12 rfl)) (notFace_of_selects (args := #[]) (mvT hZ (ww hw 14 rfl))) (mvT hZ (ww hw 14 rfl)) (mvT hZ (ww hw 13 rfl)) (by decide) (backOf (W := 0) (rm3_11 l Z a0 hw [] b14  T101.heap n0  p101_0 p101_1 p101_2 p101_3 g_b14   ) hZ (ww hw 15 rfl) (ww hw 2 rfl) (by decide) (by decide)) q112a q112c (g := (mkF m 85 (Sh6 q1 q2 q3 b2 1 b7 b11 b14 1) [(.long 9223372036854775807), (.ref b14)])) rfl (by rw [hml]; rfl) (Steps.refl _) (argsL := [(.long (9223372036854775807 : Int64))]) (rest := []) (lenOf pd_28J29J rfl) rfl (by show 2 * 0 + _ ≤ _; exact Nat.le_of_eq rfl) (hb hby at_85) (fun _ _ => ⟨rfl, rfl, (by decide : 1 + 0 ≤ _), (by decide : 3 + 0 ≤ _)⟩)
          dsimp only [Pt.U, Pt.locs, Pt.cells, Pt.slots] at X112 l112 y112 z112 st112 hQ112
          subst l112 y112 z112
          obtain ⟨rfl, N112q, K112, p112_0, p112_1, p112_2, p112_3⟩ := hQ112
          have N112 := Fr.app N101 N112q
          have Zs_112 : n0 ≤ T112.heap.size := Nat.le_trans Zs_101 K112.1
          refine GoW.sg (mkF m 88 (Sh6 q1 q2 q3 b2 1 b7 b11 b14 1) [(.long 20000)]) (fun t k => st112.trans k) ?_
          refine GoW.sg (mkF m 90 (Sh8 q1 q2 q3 b2 1 b7 b11 b14 1 20000) []) (fun t k => XS.lstore X112.here hx rfl (hb hby at_88) rfl (l' := (Sh8 q1 q2 q3 b2 1 b7 b11 b14 1 20000)) rfl k) ?_
          refine GoW.sg (mkF m 92 (Sh8 q1 q2 q3 b2 1 b7 b11 b14 1 20000) [(.int 1)]) (fun t k => XS.iload X112.here hx rfl (hb hby at_90) rfl k) ?_
          refine GoW.sg (mkF m 95 (Sh8 q1 q2 q3 b2 1 b7 b11 b14 1 20000) []) (fun t k => XS.ifNo X112.here hx rfl (hb hby at_92) rfl (by decide) k) ?_
          refine GoW.sg (mkF m 97 (Sh8 q1 q2 q3 b2 1 b7 b11 b14 1 20000) [(.long 20000)]) (fun t k => XS.lload X112.here hx rfl (hb hby at_95) rfl k) ?_
          refine GoW.sg (mkF m 100 (Sh8 q1 q2 q3 b2 1 b7 b11 b14 1 20000) [(.long 20000), (.long 20000)]) (fun t k => X112.ldc2Long hx hown (mvT hZ (ww hw 21 rfl)) (g := (mkF m 97 (Sh8 q1 q2 q3 b2 1 b7 b11 b14 1 20000) [(.long 20000)])) rfl (hb hby at_97) t k) ?_
          refine GoW.sg (mkF m 101 (Sh8 q1 q2 q3 b2 1 b7 b11 b14 1 20000) [(.int (lcmpW (20000 : Int64) (20000 : Int64)))]) (fun t k => XS.lcmp X112.here hx rfl (hb hby at_100) rfl k) ?_
          refine GoW.sg (mkF m 104 (Sh8 q1 q2 q3 b2 1 b7 b11 b14 1 20000) []) (fun t k => XS.ifNo X112.here hx rfl (hb hby at_101) rfl (by decide) k) ?_
          refine GoW.sg (mkF m 105 (Sh8 q1 q2 q3 b2 1 b7 b11 b14 1 20000) [(.int 1)]) (fun t k => XS.iconst X112.here hx rfl (hb hby at_104) k) ?_
          refine GoW.sg (mkF m 109 (Sh8 q1 q2 q3 b2 1 b7 b11 b14 1 20000) [(.int 1)]) (fun t k => XS.goto X112.here hx rfl (pc0 := 105) (pc' := 109) rfl (hb hby at_105) (by decide) (by decide) k) ?_
          refine GoW.sg (mkF m 111 (Sh8 q1 q2 q3 b2 1 b7 b11 b14 1 20000) []) (fun t k => XS.istore X112.here hx rfl (hb hby at_109) rfl (l' := (Sh8 q1 q2 q3 b2 1 b7 b11 b14 1 20000)) rfl k) ?_
          refine GoW.sg (mkF m 113 (Sh8 q1 q2 q3 b2 1 b7 b11 b14 1 20000) [(.ref b14)]) (fun t k => XS.aload X112.here hx rfl (hb hby at_111) rfl rfl k) ?_
          obtain ⟨_, _, ⟨T213, L213, k213, n213⟩, -, X213, ⟨Lc213, hQ213, l213, y213, z213⟩, st213⟩ := Jvm.LawKit.callS X112 hx (y := (⟨"com/example/spindle/spindle/SpinRuleSpinNanosPinLaw", "tenMisses", "(Lcom/example/spindle/spindle/SpinRule;)V"⟩ : MethodName)) hown (mvT hZ (ww hw 34 rfl)) (mvT hZ (ww hw 35 rfl)) (mvT hZ (ww hw 36 rfl)) (mvT hZ (ww hw 37 rfl)) (by decide) (backOf (W := 0) (rm6_22 l Z a0 hw [] b14  T112.heap n0  p112_0 p112_1 p112_2 p112_3 g_b14   ) hZ (ww hw 37 rfl) (ww hw 36 rfl) (by decide) (by decide)) (g := (mkF m 113 (Sh8 q1 q2 q3 b2 1 b7 b11 b14 1 20000) [(.ref b14)])) rfl (by rw [hml]; rfl) (argsL := [(.ref b14)]) (rest := []) (lenOf pd_28Lcom2fexample2fspindle2fspindle2fSpinRule3b29V rfl) rfl (by show 2 * 0 + _ ≤ _; exact Nat.le_of_eq rfl) (hb hby at_113) (fun _ _ => ⟨rfl, rfl, (by decide : 1 + 0 ≤ _), (by decide : 3 + 0 ≤ _)⟩)
          dsimp only [Pt.U, Pt.locs, Pt.cells, Pt.slots] at X213 l213 y213 z213 st213 hQ213
          subst l213 y213 z213
          obtain ⟨rfl, N213q, K213, p213_0, p213_1, p213_2, p213_3⟩ := hQ213
          have N213 := Fr.app N112 N213q
          have Zs_213 : n0 ≤ T213.heap.size := Nat.le_trans Zs_112 K213.1
          refine GoW.sg (mkF m 116 (Sh8 q1 q2 q3 b2 1 b7 b11 b14 1 20000) []) (fun t k => st213 t k) ?_
          refine GoW.sg (mkF m 118 (Sh8 q1 q2 q3 b2 1 b7 b11 b14 1 20000) [(.int 1)]) (fun t k => XS.iload X213.here hx rfl (hb hby at_116) rfl k) ?_
          refine GoW.sg (mkF m 119 (Sh8 q1 q2 q3 b2 1 b7 b11 b14 1 20000) [(.int 2), (.int 1)]) (fun t k => XS.iconst X213.here hx rfl (hb hby at_118) k) ?_
          refine GoW.sg (mkF m 130 (Sh8 q1 q2 q3 b2 1 b7 b11 b14 1 20000) []) (fun t k => XS.icmpYes X213.here hx rfl (pc0 := 119) (pc' := 130) rfl (hb hby at_119) rfl (by decide) (by decide) (by decide) k) ?_
          rcases own_01 hb2 with cc | cc
          · subst cc
            show GoW p e below s (ValQ (.int (1 : Int32)) n0) room_1.cells room_1.slots (T213.setTop (mkF m 130 (Sh8 q1 q2 q3 0 1 b7 b11 b14 1 20000) []))
            refine GoW.sg (mkF m 132 (Sh8 q1 q2 q3 0 1 b7 b11 b14 1 20000) [(.int 0)]) (fun t k => XS.iload X213.here hx rfl (hb hby at_130) rfl k) ?_
            refine GoW.sg (mkF m 140 (Sh8 q1 q2 q3 0 1 b7 b11 b14 1 20000) []) (fun t k => XS.ifYes X213.here hx rfl (pc0 := 132) (pc' := 140) rfl (hb hby at_132) rfl (by decide) (by decide) (by decide) k) ?_
            by_cases c214 : (20000 : Int64) < b11
            · show GoW p e below s (ValQ (.int (1 : Int32)) n0) room_1.cells room_1.slots (T213.setTop (mkF m 140 (Sh8 q1 q2 q3 0 1 b7 b11 b14 1 20000) []))
              refine GoW.sg (mkF m 142 (Sh8 q1 q2 q3 0 1 b7 b11 b14 1 20000) [(.ref b14)]) (fun t k => XS.aload X213.here hx rfl (hb hby at_140) rfl rfl k) ?_
              refine GoW.sg (mkF m 144 (Sh8 q1 q2 q3 0 1 b7 b11 b14 1 20000) [(.long b11), (.ref b14)]) (fun t k => XS.lload X213.here hx rfl (hb hby at_142) rfl k) ?_
              obtain ⟨cq223, kq223, q223a, q223b, q223c⟩ := isOf hZ rfl p213_0
              obtain ⟨_, _, ⟨T223, L223, k223, n223⟩, -, X223, ⟨Lc223, hQ223, l223, y223, z223⟩, st223⟩ := X213.virtualBack hx (y := (⟨"com/example/spindle/spindle/SpinRule", "spinNanos", "(J)J"⟩ : MethodName)) (z := (⟨"com/example/spindle/spindle/SpinRule", "spinNanos", "(J)J"⟩ : MethodName)) hown (mvT hZ (ww hw 11 rfl)) (mvT hZ (ww hw 12 rfl)) (notFace_of_selects (args := #[]) (mvT hZ (ww hw 14 rfl))) (mvT hZ (ww hw 14 rfl)) (mvT hZ (ww hw 13 rfl)) (by decide) (backOf (W := 0) (rm3_23 l Z a0 hw [] b14 b11  T213.heap n0  p213_0 p213_1 p213_2 p213_3 g_b14  c214 ) hZ (ww hw 15 rfl) (ww hw 2 rfl) (by decide) (by decide)) q223a q223c (g := (mkF m 144 (Sh8 q1 q2 q3 0 1 b7 b11 b14 1 20000) [(.long b11), (.ref b14)])) rfl (by rw [hml]; rfl) (Steps.refl _) (argsL := [(.long b11)]) (rest := []) (lenOf pd_28J29J rfl) rfl (by show 2 * 0 + _ ≤ _; exact Nat.le_of_eq rfl) (hb hby at_144) (fun _ _ => ⟨rfl, rfl, (by decide : 1 + 0 ≤ _), (by decide : 3 + 0 ≤ _)⟩)
              dsimp only [Pt.U, Pt.locs, Pt.cells, Pt.slots] at X223 l223 y223 z223 st223 hQ223
              subst l223 y223 z223
              obtain ⟨rfl, N223q, K223, p223_0, p223_1, p223_2, p223_3⟩ := hQ223
              have N223 := Fr.app N213 N223q
              have Zs_223 : n0 ≤ T223.heap.size := Nat.le_trans Zs_213 K223.1
              refine GoW.sg (mkF m 147 (Sh8 q1 q2 q3 0 1 b7 b11 b14 1 20000) [(.long 0)]) (fun t k => st223.trans k) ?_
              refine GoW.sg (mkF m 149 (Sh8 q1 q2 q3 0 1 b7 b11 b14 1 0) []) (fun t k => XS.lstore X223.here hx rfl (hb hby at_147) rfl (l' := (Sh8 q1 q2 q3 0 1 b7 b11 b14 1 0)) rfl k) ?_
              refine GoW.sg (mkF m 151 (Sh8 q1 q2 q3 0 1 b7 b11 b14 1 0) [(.long b11)]) (fun t k => XS.lload X223.here hx rfl (hb hby at_149) rfl k) ?_
              refine GoW.sg (mkF m 154 (Sh8 q1 q2 q3 0 1 b7 b11 b14 1 0) [(.long 20000), (.long b11)]) (fun t k => X223.ldc2Long hx hown (mvT hZ (ww hw 21 rfl)) (g := (mkF m 151 (Sh8 q1 q2 q3 0 1 b7 b11 b14 1 0) [(.long b11)])) rfl (hb hby at_151) t k) ?_
              refine GoW.sg (mkF m 155 (Sh8 q1 q2 q3 0 1 b7 b11 b14 1 0) [(.int (lcmpW b11 (20000 : Int64)))]) (fun t k => XS.lcmp X223.here hx rfl (hb hby at_154) rfl k) ?_
              refine GoW.sg (mkF m 165 (Sh8 q1 q2 q3 0 1 b7 b11 b14 1 0) []) (fun t k => XS.ifYes X223.here hx rfl (pc0 := 155) (pc' := 165) rfl (hb hby at_155) rfl ((if0 _ _).trans (tlt ((lw_gt _ _).mpr c214)).2.2.1) (by decide) (by decide) k) ?_
              refine GoW.sg (mkF m 167 (Sh8 q1 q2 q3 0 1 b7 b11 b14 1 0) [(.int 0)]) (fun t k => XS.iload X223.here hx rfl (hb hby at_165) rfl k) ?_
              refine GoW.sg (mkF m 184 (Sh8 q1 q2 q3 0 1 b7 b11 b14 1 0) []) (fun t k => XS.ifYes X223.here hx rfl (pc0 := 167) (pc' := 184) rfl (hb hby at_167) rfl (by decide) (by decide) (by decide) k) ?_
              refine GoW.sg (mkF m 185 (Sh8 q1 q2 q3 0 1 b7 b11 b14 1 0) [(.long 0)]) (fun t k => XS.lconst X223.here hx rfl (hb hby at_184) k) ?_
              refine GoW.sg (mkF m 187 (Sh9 q1 q2 q3 0 1 b7 b11 b14 1 0 0) []) (fun t k => XS.lstore X223.here hx rfl (hb hby at_185) rfl (l' := (Sh9 q1 q2 q3 0 1 b7 b11 b14 1 0 0)) rfl k) ?_
              refine GoW.sg (mkF m 189 (Sh9 q1 q2 q3 0 1 b7 b11 b14 1 0 0) [(.int 1)]) (fun t k => XS.iload X223.here hx rfl (hb hby at_187) rfl k) ?_
              refine GoW.sg (mkF m 192 (Sh9 q1 q2 q3 0 1 b7 b11 b14 1 0 0) []) (fun t k => XS.ifNo X223.here hx rfl (hb hby at_189) rfl (by decide) k) ?_
              refine GoW.sg (mkF m 194 (Sh9 q1 q2 q3 0 1 b7 b11 b14 1 0 0) [(.long 0)]) (fun t k => XS.lload X223.here hx rfl (hb hby at_192) rfl k) ?_
              refine GoW.sg (mkF m 196 (Sh9 q1 q2 q3 0 1 b7 b11 b14 1 0 0) [(.long 0), (.long 0)]) (fun t k => XS.lload X223.here hx rfl (hb hby at_194) rfl k) ?_
              refine GoW.sg (mkF m 197 (Sh9 q1 q2 q3 0 1 b7 b11 b14 1 0 0) [(.int (lcmpW (0 : Int64) (0 : Int64)))]) (fun t k => XS.lcmp X223.here hx rfl (hb hby at_196) rfl k) ?_
              refine GoW.sg (mkF m 200 (Sh9 q1 q2 q3 0 1 b7 b11 b14 1 0 0) []) (fun t k => XS.ifNo X223.here hx rfl (hb hby at_197) rfl (by decide) k) ?_
              refine GoW.sg (mkF m 201 (Sh9 q1 q2 q3 0 1 b7 b11 b14 1 0 0) [(.int 1)]) (fun t k => XS.iconst X223.here hx rfl (hb hby at_200) k) ?_
              refine GoW.sg (mkF m 205 (Sh9 q1 q2 q3 0 1 b7 b11 b14 1 0 0) [(.int 1)]) (fun t k => XS.goto X223.here hx rfl (pc0 := 201) (pc' := 205) rfl (hb hby at_201) (by decide) (by decide) k) ?_
              refine GoW.sg (mkF m 207 (Sh9 q1 q2 q3 0 1 b7 b11 b14 1 0 0) []) (fun t k => XS.istore X223.here hx rfl (hb hby at_205) rfl (l' := (Sh9 q1 q2 q3 0 1 b7 b11 b14 1 0 0)) rfl k) ?_
              refine GoW.sg (mkF m 209 (Sh9 q1 q2 q3 0 1 b7 b11 b14 1 0 0) [(.int 1)]) (fun t k => XS.iload X223.here hx rfl (hb hby at_207) rfl k) ?_
              refine GoW.sg (mkF m 212 (Sh9 q1 q2 q3 0 1 b7 b11 b14 1 0 0) []) (fun t k => XS.ifNo X223.here hx rfl (hb hby at_209) rfl (by decide) k) ?_
              refine GoW.sg (mkF m 214 (Sh9 q1 q2 q3 0 1 b7 b11 b14 1 0 0) [(.ref b14)]) (fun t k => XS.aload X223.here hx rfl (hb hby at_212) rfl rfl k) ?_
              refine GoW.sg (mkF m 215 (Sh9 q1 q2 q3 0 1 b7 b11 b14 1 0 0) [(.long 0), (.ref b14)]) (fun t k => XS.lconst X223.here hx rfl (hb hby at_214) k) ?_
              obtain ⟨cq226, kq226, q226a, q226b, q226c⟩ := isOf hZ rfl p223_0
              obtain ⟨_, _, ⟨T226, L226, k226, n226⟩, -, X226, ⟨Lc226, hQ226, l226, y226, z226⟩, st226⟩ := X223.virtualBack hx (y := (⟨"com/example/spindle/spindle/SpinRule", "timesWait", "(J)Z"⟩ : MethodName)) (z := (⟨"com/example/spindle/spindle/SpinRule", "timesWait", "(J)Z"⟩ : MethodName)) hown (mvT hZ (ww hw 22 rfl)) (mvT hZ (ww hw 23 rfl)) (notFace_of_selects (args := #[]) (mvT hZ (ww hw 25 rfl))) (mvT hZ (ww hw 25 rfl)) (mvT hZ (ww hw 24 rfl)) (by decide) (backOf (W := 0) (rm4_24 l Z a0 hw [] b14  T223.heap n0  p223_0 p223_1 p223_2 p223_3    ) hZ (ww hw 26 rfl) (ww hw 2 rfl) (by decide) (by decide)) q226a q226c (g := (mkF m 215 (Sh9 q1 q2 q3 0 1 b7 b11 b14 1 0 0) [(.long 0), (.ref b14)])) rfl (by rw [hml]; rfl) (Steps.refl _) (argsL := [(.long (0 : Int64))]) (rest := []) (lenOf pd_28J29Z rfl) rfl (by show 2 * 0 + _ ≤ _; exact Nat.le_of_eq rfl) (hb hby at_215) (fun _ _ => ⟨rfl, rfl, (by decide : 1 + 0 ≤ _), (by decide : 3 + 0 ≤ _)⟩)
              dsimp only [Pt.U, Pt.locs, Pt.cells, Pt.slots] at X226 l226 y226 z226 st226 hQ226
              subst l226 y226 z226
              obtain ⟨rfl, N226q, e226⟩ := hQ226
              have N226 := Fr.app N223 N226q
              refine GoW.sg (mkF m 218 (Sh9 q1 q2 q3 0 1 b7 b11 b14 1 0 0) [(.int 0)]) (fun t k => st226.trans k) ?_
              refine GoW.sg (mkF m 220 (Sh9 q1 q2 q3 0 1 b7 b11 b14 1 0 0) [(.int 0), (.int 0)]) (fun t k => XS.iload X226.here hx rfl (hb hby at_218) rfl k) ?_
              refine GoW.sg (mkF m 223 (Sh9 q1 q2 q3 0 1 b7 b11 b14 1 0 0) []) (fun t k => XS.icmpNo X226.here hx rfl (hb hby at_220) rfl (by decide) k) ?_
              refine GoW.sg (mkF m 224 (Sh9 q1 q2 q3 0 1 b7 b11 b14 1 0 0) [(.int 1)]) (fun t k => XS.iconst X226.here hx rfl (hb hby at_223) k) ?_
              refine GoW.sg (mkF m 228 (Sh9 q1 q2 q3 0 1 b7 b11 b14 1 0 0) [(.int 1)]) (fun t k => XS.goto X226.here hx rfl (pc0 := 224) (pc' := 228) rfl (hb hby at_224) (by decide) (by decide) k) ?_
              refine GoW.sg (mkF m 230 (Sh9 q1 q2 q3 0 1 b7 b11 b14 1 0 0) []) (fun t k => XS.istore X226.here hx rfl (hb hby at_228) rfl (l' := (Sh9 q1 q2 q3 0 1 b7 b11 b14 1 0 0)) rfl k) ?_
              by_cases c227 : (20000 : Int64) < q2
              · show GoW p e below s (ValQ (.int (1 : Int32)) n0) room_1.cells room_1.slots (T226.setTop (mkF m 230 (Sh9 q1 q2 q3 0 1 b7 b11 b14 1 0 0) []))
                refine GoW.sg (mkF m 232 (Sh9 q1 q2 q3 0 1 b7 b11 b14 1 0 0) [(.ref b14)]) (fun t k => XS.aload X226.here hx rfl (hb hby at_230) rfl rfl k) ?_
                refine GoW.sg (mkF m 233 (Sh9 q1 q2 q3 0 1 b7 b11 b14 1 0 0) [(.long q2), (.ref b14)]) (fun t k => XS.lloadN X226.here hx rfl (hb hby at_232) rfl k) ?_
                obtain ⟨cq236, kq236, q236a, q236b, q236c⟩ := isOf hZ e226 p223_0
                obtain ⟨_, _, ⟨T236, L236, k236, n236⟩, -, X236, ⟨Lc236, hQ236, l236, y236, z236⟩, st236⟩ := X226.virtualBack hx (y := (⟨"com/example/spindle/spindle/SpinRule", "spinNanos", "(J)J"⟩ : MethodName)) (z := (⟨"com/example/spindle/spindle/SpinRule", "spinNanos", "(J)J"⟩ : MethodName)) hown (mvT hZ (ww hw 11 rfl)) (mvT hZ (ww hw 12 rfl)) (notFace_of_selects (args := #[]) (mvT hZ (ww hw 14 rfl))) (mvT hZ (ww hw 14 rfl)) (mvT hZ (ww hw 13 rfl)) (by decide) (backOf (W := 0) (rm3_25 l Z a0 hw [] b14 q2  T223.heap n0  p223_0 p223_1 p223_2 p223_3 g_b14  c227 ) hZ (ww hw 15 rfl) (ww hw 2 rfl) (by decide) (by decide)) q236a q236c (g := (mkF m 233 (Sh9 q1 q2 q3 0 1 b7 b11 b14 1 0 0) [(.long q2), (.ref b14)])) rfl (by rw [hml]; rfl) (Steps.refl _) (argsL := [(.long q2)]) (rest := []) (lenOf pd_28J29J rfl) rfl (by show 2 * 0 + _ ≤ _; exact Nat.le_of_eq rfl) (hb hby at_233) (fun _ _ => ⟨rfl, e226, (by decide : 1 + 0 ≤ _), (by decide : 3 + 0 ≤ _)⟩)
                dsimp only [Pt.U, Pt.locs, Pt.cells, Pt.slots] at X236 l236 y236 z236 st236 hQ236
                subst l236 y236 z236
                obtain ⟨rfl, N236q, K236, p236_0, p236_1, p236_2, p236_3⟩ := hQ236
                have N236 := Fr.app N226 N236q
                have Zs_236 : n0 ≤ T236.heap.size := Nat.le_trans Zs_223 K236.1
                refine GoW.sg (mkF m 236 (Sh9 q1 q2 q3 0 1 b7 b11 b14 1 0 0) [(.long 0)]) (fun t k => st236.trans k) ?_
                refine GoW.sg (mkF m 238 (Sh10 q1 q2 q3 0 1 b7 b11 b14 1 0 0 0) []) (fun t k => XS.lstore X236.here hx rfl (hb hby at_236) rfl (l' := (Sh10 q1 q2 q3 0 1 b7 b11 b14 1 0 0 0)) rfl k) ?_
                refine GoW.sg (mkF m 239 (Sh10 q1 q2 q3 0 1 b7 b11 b14 1 0 0 0) [(.long q2)]) (fun t k => XS.lloadN X236.here hx rfl (hb hby at_238) rfl k) ?_
                refine GoW.sg (mkF m 242 (Sh10 q1 q2 q3 0 1 b7 b11 b14 1 0 0 0) [(.long 20000), (.long q2)]) (fun t k => X236.ldc2Long hx hown (mvT hZ (ww hw 21 rfl)) (g := (mkF m 239 (Sh10 q1 q2 q3 0 1 b7 b11 b14 1 0 0 0) [(.long q2)])) rfl (hb hby at_239) t k) ?_
                refine GoW.sg (mkF m 243 (Sh10 q1 q2 q3 0 1 b7 b11 b14 1 0 0 0) [(.int (lcmpW q2 (20000 : Int64)))]) (fun t k => XS.lcmp X236.here hx rfl (hb hby at_242) rfl k) ?_
                refine GoW.sg (mkF m 250 (Sh10 q1 q2 q3 0 1 b7 b11 b14 1 0 0 0) []) (fun t k => XS.ifYes X236.here hx rfl (pc0 := 243) (pc' := 250) rfl (hb hby at_243) rfl ((if0 _ _).trans (tlt ((lw_gt _ _).mpr c227)).2.2.1) (by decide) (by decide) k) ?_
                refine GoW.sg (mkF m 251 (Sh10 q1 q2 q3 0 1 b7 b11 b14 1 0 0 0) [(.long 0)]) (fun t k => XS.lconst X236.here hx rfl (hb hby at_250) k) ?_
                refine GoW.sg (mkF m 253 (Sh11 q1 q2 q3 0 1 b7 b11 b14 1 0 0 0 0) []) (fun t k => XS.lstore X236.here hx rfl (hb hby at_251) rfl (l' := (Sh11 q1 q2 q3 0 1 b7 b11 b14 1 0 0 0 0)) rfl k) ?_
                refine GoW.sg (mkF m 255 (Sh11 q1 q2 q3 0 1 b7 b11 b14 1 0 0 0 0) [(.int 1)]) (fun t k => XS.iload X236.here hx rfl (hb hby at_253) rfl k) ?_
                refine GoW.sg (mkF m 258 (Sh11 q1 q2 q3 0 1 b7 b11 b14 1 0 0 0 0) []) (fun t k => XS.ifNo X236.here hx rfl (hb hby at_255) rfl (by decide) k) ?_
                refine GoW.sg (mkF m 260 (Sh11 q1 q2 q3 0 1 b7 b11 b14 1 0 0 0 0) [(.long 0)]) (fun t k => XS.lload X236.here hx rfl (hb hby at_258) rfl k) ?_
                refine GoW.sg (mkF m 262 (Sh11 q1 q2 q3 0 1 b7 b11 b14 1 0 0 0 0) [(.long 0), (.long 0)]) (fun t k => XS.lload X236.here hx rfl (hb hby at_260) rfl k) ?_
                refine GoW.sg (mkF m 263 (Sh11 q1 q2 q3 0 1 b7 b11 b14 1 0 0 0 0) [(.int (lcmpW (0 : Int64) (0 : Int64)))]) (fun t k => XS.lcmp X236.here hx rfl (hb hby at_262) rfl k) ?_
                refine GoW.sg (mkF m 266 (Sh11 q1 q2 q3 0 1 b7 b11 b14 1 0 0 0 0) []) (fun t k => XS.ifNo X236.here hx rfl (hb hby at_263) rfl (by decide) k) ?_
                refine GoW.sg (mkF m 267 (Sh11 q1 q2 q3 0 1 b7 b11 b14 1 0 0 0 0) [(.int 1)]) (fun t k => XS.iconst X236.here hx rfl (hb hby at_266) k) ?_
                refine GoW.sg (mkF m 271 (Sh11 q1 q2 q3 0 1 b7 b11 b14 1 0 0 0 0) [(.int 1)]) (fun t k => XS.goto X236.here hx rfl (pc0 := 267) (pc' := 271) rfl (hb hby at_267) (by decide) (by decide) k) ?_
                refine GoW.sg (mkF m 273 (Sh11 q1 q2 q3 0 1 b7 b11 b14 1 0 0 0 0) []) (fun t k => XS.istore X236.here hx rfl (hb hby at_271) rfl (l' := (Sh11 q1 q2 q3 0 1 b7 b11 b14 1 0 0 0 0)) rfl k) ?_
                refine GoW.sg (mkF m 275 (Sh11 q1 q2 q3 0 1 b7 b11 b14 1 0 0 0 0) [(.int 1)]) (fun t k => XS.iload X236.here hx rfl (hb hby at_273) rfl k) ?_
                refine GoW.sg (mkF m 278 (Sh11 q1 q2 q3 0 1 b7 b11 b14 1 0 0 0 0) []) (fun t k => XS.ifNo X236.here hx rfl (hb hby at_275) rfl (by decide) k) ?_
                refine GoW.sg (mkF m 280 (Sh11 q1 q2 q3 0 1 b7 b11 b14 1 0 0 0 0) [(.ref b14)]) (fun t k => XS.aload X236.here hx rfl (hb hby at_278) rfl rfl k) ?_
                refine GoW.sg (mkF m 281 (Sh11 q1 q2 q3 0 1 b7 b11 b14 1 0 0 0 0) [(.long 0), (.ref b14)]) (fun t k => XS.lconst X236.here hx rfl (hb hby at_280) k) ?_
                obtain ⟨cq237, kq237, q237a, q237b, q237c⟩ := isOf hZ rfl p236_0
                obtain ⟨_, _, ⟨T237, L237, k237, n237⟩, -, X237, ⟨Lc237, hQ237, l237, y237, z237⟩, st237⟩ := X236.virtualBack hx (y := (⟨"com/example/spindle/spindle/SpinRule", "timesWait", "(J)Z"⟩ : MethodName)) (z := (⟨"com/example/spindle/spindle/SpinRule", "timesWait", "(J)Z"⟩ : MethodName)) hown (mvT hZ (ww hw 22 rfl)) (mvT hZ (ww hw 23 rfl)) (notFace_of_selects (args := #[]) (mvT hZ (ww hw 25 rfl))) (mvT hZ (ww hw 25 rfl)) (mvT hZ (ww hw 24 rfl)) (by decide) (backOf (W := 0) (rm4_24 l Z a0 hw [] b14  T236.heap n0  p236_0 p236_1 p236_2 p236_3    ) hZ (ww hw 26 rfl) (ww hw 2 rfl) (by decide) (by decide)) q237a q237c (g := (mkF m 281 (Sh11 q1 q2 q3 0 1 b7 b11 b14 1 0 0 0 0) [(.long 0), (.ref b14)])) rfl (by rw [hml]; rfl) (Steps.refl _) (argsL := [(.long (0 : Int64))]) (rest := []) (lenOf pd_28J29Z rfl) rfl (by show 2 * 0 + _ ≤ _; exact Nat.le_of_eq rfl) (hb hby at_281) (fun _ _ => ⟨rfl, rfl, (by decide : 1 + 0 ≤ _), (by decide : 3 + 0 ≤ _)⟩)
                dsimp only [Pt.U, Pt.locs, Pt.cells, Pt.slots] at X237 l237 y237 z237 st237 hQ237
                subst l237 y237 z237
                obtain ⟨rfl, N237q, e237⟩ := hQ237
                have N237 := Fr.app N236 N237q
                refine GoW.sg (mkF m 284 (Sh11 q1 q2 q3 0 1 b7 b11 b14 1 0 0 0 0) [(.int 0)]) (fun t k => st237.trans k) ?_
                refine GoW.sg (mkF m 287 (Sh11 q1 q2 q3 0 1 b7 b11 b14 1 0 0 0 0) []) (fun t k => XS.ifNo X237.here hx rfl (hb hby at_284) rfl (by decide) k) ?_
                refine GoW.sg (mkF m 288 (Sh11 q1 q2 q3 0 1 b7 b11 b14 1 0 0 0 0) [(.int 1)]) (fun t k => XS.iconst X237.here hx rfl (hb hby at_287) k) ?_
                refine GoW.sg (mkF m 292 (Sh11 q1 q2 q3 0 1 b7 b11 b14 1 0 0 0 0) [(.int 1)]) (fun t k => XS.goto X237.here hx rfl (pc0 := 288) (pc' := 292) rfl (hb hby at_288) (by decide) (by decide) k) ?_
                refine GoW.sg (mkF m 294 (Sh11 q1 q2 q3 0 1 b7 b11 b14 1 0 0 0 0) []) (fun t k => XS.istore X237.here hx rfl (hb hby at_292) rfl (l' := (Sh11 q1 q2 q3 0 1 b7 b11 b14 1 0 0 0 0)) rfl k) ?_
                refine GoW.sg (mkF m 296 (Sh11 q1 q2 q3 0 1 b7 b11 b14 1 0 0 0 0) [(.int 1)]) (fun t k => XS.iload X237.here hx rfl (hb hby at_294) rfl k) ?_
                refine GoW.retN X237 hx (t := .boolean) Bd.returns (by simp) (hb hby at_296) Bd.notSynchronized ?_ (by decide) (by decide)
                exact ⟨rfl, N237⟩
              · show GoW p e below s (ValQ (.int (1 : Int32)) n0) room_1.cells room_1.slots (T226.setTop (mkF m 230 (Sh9 q1 q2 q3 0 1 b7 b11 b14 1 0 0) []))
                refine GoW.sg (mkF m 232 (Sh9 q1 q2 q3 0 1 b7 b11 b14 1 0 0) [(.ref b14)]) (fun t k => XS.aload X226.here hx rfl (hb hby at_230) rfl rfl k) ?_
                refine GoW.sg (mkF m 233 (Sh9 q1 q2 q3 0 1 b7 b11 b14 1 0 0) [(.long q2), (.ref b14)]) (fun t k => XS.lloadN X226.here hx rfl (hb hby at_232) rfl k) ?_
                obtain ⟨cq244, kq244, q244a, q244b, q244c⟩ := isOf hZ e226 p223_0
                obtain ⟨_, _, ⟨T244, L244, k244, n244⟩, -, X244, ⟨Lc244, hQ244, l244, y244, z244⟩, st244⟩ := X226.virtualBack hx (y := (⟨"com/example/spindle/spindle/SpinRule", "spinNanos", "(J)J"⟩ : MethodName)) (z := (⟨"com/example/spindle/spindle/SpinRule", "spinNanos", "(J)J"⟩ : MethodName)) hown (mvT hZ (ww hw 11 rfl)) (mvT hZ (ww hw 12 rfl)) (notFace_of_selects (args := #[]) (mvT hZ (ww hw 14 rfl))) (mvT hZ (ww hw 14 rfl)) (mvT hZ (ww hw 13 rfl)) (by decide) (backOf (W := 0) (rm3_26 l Z a0 hw [] b14 q2  T223.heap n0  p223_0 p223_1 p223_2 p223_3 g_b14  c227 ) hZ (ww hw 15 rfl) (ww hw 2 rfl) (by decide) (by decide)) q244a q244c (g := (mkF m 233 (Sh9 q1 q2 q3 0 1 b7 b11 b14 1 0 0) [(.long q2), (.ref b14)])) rfl (by rw [hml]; rfl) (Steps.refl _) (argsL := [(.long q2)]) (rest := []) (lenOf pd_28J29J rfl) rfl (by show 2 * 0 + _ ≤ _; exact Nat.le_of_eq rfl) (hb hby at_233) (fun _ _ => ⟨rfl, e226, (by decide : 1 + 0 ≤ _), (by decide : 3 + 0 ≤ _)⟩)
                dsimp only [Pt.U, Pt.locs, Pt.cells, Pt.slots] at X244 l244 y244 z244 st244 hQ244
                subst l244 y244 z244
                obtain ⟨rfl, N244q, K244, p244_0, p244_1, p244_2, p244_3⟩ := hQ244
                have N244 := Fr.app N226 N244q
                have Zs_244 : n0 ≤ T244.heap.size := Nat.le_trans Zs_223 K244.1
                refine GoW.sg (mkF m 236 (Sh9 q1 q2 q3 0 1 b7 b11 b14 1 0 0) [(.long q2)]) (fun t k => st244.trans k) ?_
                refine GoW.sg (mkF m 238 (Sh10 q1 q2 q3 0 1 b7 b11 b14 1 0 0 q2) []) (fun t k => XS.lstore X244.here hx rfl (hb hby at_236) rfl (l' := (Sh10 q1 q2 q3 0 1 b7 b11 b14 1 0 0 q2)) rfl k) ?_
                refine GoW.sg (mkF m 239 (Sh10 q1 q2 q3 0 1 b7 b11 b14 1 0 0 q2) [(.long q2)]) (fun t k => XS.lloadN X244.here hx rfl (hb hby at_238) rfl k) ?_
                refine GoW.sg (mkF m 242 (Sh10 q1 q2 q3 0 1 b7 b11 b14 1 0 0 q2) [(.long 20000), (.long q2)]) (fun t k => X244.ldc2Long hx hown (mvT hZ (ww hw 21 rfl)) (g := (mkF m 239 (Sh10 q1 q2 q3 0 1 b7 b11 b14 1 0 0 q2) [(.long q2)])) rfl (hb hby at_239) t k) ?_
                refine GoW.sg (mkF m 243 (Sh10 q1 q2 q3 0 1 b7 b11 b14 1 0 0 q2) [(.int (lcmpW q2 (20000 : Int64)))]) (fun t k => XS.lcmp X244.here hx rfl (hb hby at_242) rfl k) ?_
                refine GoW.sg (mkF m 246 (Sh10 q1 q2 q3 0 1 b7 b11 b14 1 0 0 q2) []) (fun t k => XS.ifNo X244.here hx rfl (hb hby at_243) rfl ((if0 _ _).trans (flt (mt (lw_gt _ _).mp c227)).2.2.1) k) ?_
                refine GoW.sg (mkF m 247 (Sh10 q1 q2 q3 0 1 b7 b11 b14 1 0 0 q2) [(.long q2)]) (fun t k => XS.lloadN X244.here hx rfl (hb hby at_246) rfl k) ?_
                refine GoW.sg (mkF m 251 (Sh10 q1 q2 q3 0 1 b7 b11 b14 1 0 0 q2) [(.long q2)]) (fun t k => XS.goto X244.here hx rfl (pc0 := 247) (pc' := 251) rfl (hb hby at_247) (by decide) (by decide) k) ?_
                refine GoW.sg (mkF m 253 (Sh11 q1 q2 q3 0 1 b7 b11 b14 1 0 0 q2 q2) []) (fun t k => XS.lstore X244.here hx rfl (hb hby at_251) rfl (l' := (Sh11 q1 q2 q3 0 1 b7 b11 b14 1 0 0 q2 q2)) rfl k) ?_
                refine GoW.sg (mkF m 255 (Sh11 q1 q2 q3 0 1 b7 b11 b14 1 0 0 q2 q2) [(.int 1)]) (fun t k => XS.iload X244.here hx rfl (hb hby at_253) rfl k) ?_
                refine GoW.sg (mkF m 258 (Sh11 q1 q2 q3 0 1 b7 b11 b14 1 0 0 q2 q2) []) (fun t k => XS.ifNo X244.here hx rfl (hb hby at_255) rfl (by decide) k) ?_
                refine GoW.sg (mkF m 260 (Sh11 q1 q2 q3 0 1 b7 b11 b14 1 0 0 q2 q2) [(.long q2)]) (fun t k => XS.lload X244.here hx rfl (hb hby at_258) rfl k) ?_
                refine GoW.sg (mkF m 262 (Sh11 q1 q2 q3 0 1 b7 b11 b14 1 0 0 q2 q2) [(.long q2), (.long q2)]) (fun t k => XS.lload X244.here hx rfl (hb hby at_260) rfl k) ?_
                refine GoW.sg (mkF m 263 (Sh11 q1 q2 q3 0 1 b7 b11 b14 1 0 0 q2 q2) [(.int (lcmpW q2 q2))]) (fun t k => XS.lcmp X244.here hx rfl (hb hby at_262) rfl k) ?_
                refine GoW.sg (mkF m 266 (Sh11 q1 q2 q3 0 1 b7 b11 b14 1 0 0 q2 q2) []) (fun t k => XS.ifNo X244.here hx rfl (hb hby at_263) rfl ((if0 _ _).trans (teq ((lw_eq _ _).mpr rfl)).2) k) ?_
                refine GoW.sg (mkF m 267 (Sh11 q1 q2 q3 0 1 b7 b11 b14 1 0 0 q2 q2) [(.int 1)]) (fun t k => XS.iconst X244.here hx rfl (hb hby at_266) k) ?_
                refine GoW.sg (mkF m 271 (Sh11 q1 q2 q3 0 1 b7 b11 b14 1 0 0 q2 q2) [(.int 1)]) (fun t k => XS.goto X244.here hx rfl (pc0 := 267) (pc' := 271) rfl (hb hby at_267) (by decide) (by decide) k) ?_
                refine GoW.sg (mkF m 273 (Sh11 q1 q2 q3 0 1 b7 b11 b14 1 0 0 q2 q2) []) (fun t k => XS.istore X244.here hx rfl (hb hby at_271) rfl (l' := (Sh11 q1 q2 q3 0 1 b7 b11 b14 1 0 0 q2 q2)) rfl k) ?_
                refine GoW.sg (mkF m 275 (Sh11 q1 q2 q3 0 1 b7 b11 b14 1 0 0 q2 q2) [(.int 1)]) (fun t k => XS.iload X244.here hx rfl (hb hby at_273) rfl k) ?_
                refine GoW.sg (mkF m 278 (Sh11 q1 q2 q3 0 1 b7 b11 b14 1 0 0 q2 q2) []) (fun t k => XS.ifNo X244.here hx rfl (hb hby at_275) rfl (by decide) k) ?_
                refine GoW.sg (mkF m 280 (Sh11 q1 q2 q3 0 1 b7 b11 b14 1 0 0 q2 q2) [(.ref b14)]) (fun t k => XS.aload X244.here hx rfl (hb hby at_278) rfl rfl k) ?_
                refine GoW.sg (mkF m 281 (Sh11 q1 q2 q3 0 1 b7 b11 b14 1 0 0 q2 q2) [(.long 0), (.ref b14)]) (fun t k => XS.lconst X244.here hx rfl (hb hby at_280) k) ?_
                obtain ⟨cq245, kq245, q245a, q245b, q245c⟩ := isOf hZ rfl p244_0
                obtain ⟨_, _, ⟨T245, L245, k245, n245⟩, -, X245, ⟨Lc245, hQ245, l245, y245, z245⟩, st245⟩ := X244.virtualBack hx (y := (⟨"com/example/spindle/spindle/SpinRule", "timesWait", "(J)Z"⟩ : MethodName)) (z := (⟨"com/example/spindle/spindle/SpinRule", "timesWait", "(J)Z"⟩ : MethodName)) hown (mvT hZ (ww hw 22 rfl)) (mvT hZ (ww hw 23 rfl)) (notFace_of_selects (args := #[]) (mvT hZ (ww hw 25 rfl))) (mvT hZ (ww hw 25 rfl)) (mvT hZ (ww hw 24 rfl)) (by decide) (backOf (W := 0) (rm4_24 l Z a0 hw [] b14  T244.heap n0  p244_0 p244_1 p244_2 p244_3    ) hZ (ww hw 26 rfl) (ww hw 2 rfl) (by decide) (by decide)) q245a q245c (g := (mkF m 281 (Sh11 q1 q2 q3 0 1 b7 b11 b14 1 0 0 q2 q2) [(.long 0), (.ref b14)])) rfl (by rw [hml]; rfl) (Steps.refl _) (argsL := [(.long (0 : Int64))]) (rest := []) (lenOf pd_28J29Z rfl) rfl (by show 2 * 0 + _ ≤ _; exact Nat.le_of_eq rfl) (hb hby at_281) (fun _ _ => ⟨rfl, rfl, (by decide : 1 + 0 ≤ _), (by decide : 3 + 0 ≤ _)⟩)
                dsimp only [Pt.U, Pt.locs, Pt.cells, Pt.slots] at X245 l245 y245 z245 st245 hQ245
                subst l245 y245 z245
                obtain ⟨rfl, N245q, e245⟩ := hQ245
                have N245 := Fr.app N244 N245q
                refine GoW.sg (mkF m 284 (Sh11 q1 q2 q3 0 1 b7 b11 b14 1 0 0 q2 q2) [(.int 0)]) (fun t k => st245.trans k) ?_
                refine GoW.sg (mkF m 287 (Sh11 q1 q2 q3 0 1 b7 b11 b14 1 0 0 q2 q2) []) (fun t k => XS.ifNo X245.here hx rfl (hb hby at_284) rfl (by decide) k) ?_
                refine GoW.sg (mkF m 288 (Sh11 q1 q2 q3 0 1 b7 b11 b14 1 0 0 q2 q2) [(.int 1)]) (fun t k => XS.iconst X245.here hx rfl (hb hby at_287) k) ?_
                refine GoW.sg (mkF m 292 (Sh11 q1 q2 q3 0 1 b7 b11 b14 1 0 0 q2 q2) [(.int 1)]) (fun t k => XS.goto X245.here hx rfl (pc0 := 288) (pc' := 292) rfl (hb hby at_288) (by decide) (by decide) k) ?_
                refine GoW.sg (mkF m 294 (Sh11 q1 q2 q3 0 1 b7 b11 b14 1 0 0 q2 q2) []) (fun t k => XS.istore X245.here hx rfl (hb hby at_292) rfl (l' := (Sh11 q1 q2 q3 0 1 b7 b11 b14 1 0 0 q2 q2)) rfl k) ?_
                refine GoW.sg (mkF m 296 (Sh11 q1 q2 q3 0 1 b7 b11 b14 1 0 0 q2 q2) [(.int 1)]) (fun t k => XS.iload X245.here hx rfl (hb hby at_294) rfl k) ?_
                refine GoW.retN X245 hx (t := .boolean) Bd.returns (by simp) (hb hby at_296) Bd.notSynchronized ?_ (by decide) (by decide)
                exact ⟨rfl, N245⟩
            · show GoW p e below s (ValQ (.int (1 : Int32)) n0) room_1.cells room_1.slots (T213.setTop (mkF m 140 (Sh8 q1 q2 q3 0 1 b7 b11 b14 1 20000) []))
              refine GoW.sg (mkF m 142 (Sh8 q1 q2 q3 0 1 b7 b11 b14 1 20000) [(.ref b14)]) (fun t k => XS.aload X213.here hx rfl (hb hby at_140) rfl rfl k) ?_
              refine GoW.sg (mkF m 144 (Sh8 q1 q2 q3 0 1 b7 b11 b14 1 20000) [(.long b11), (.ref b14)]) (fun t k => XS.lload X213.here hx rfl (hb hby at_142) rfl k) ?_
              obtain ⟨cq252, kq252, q252a, q252b, q252c⟩ := isOf hZ rfl p213_0
              obtain ⟨_, _, ⟨T252, L252, k252, n252⟩, -, X252, ⟨Lc252, hQ252, l252, y252, z252⟩, st252⟩ := X213.virtualBack hx (y := (⟨"com/example/spindle/spindle/SpinRule", "spinNanos", "(J)J"⟩ : MethodName)) (z := (⟨"com/example/spindle/spindle/SpinRule", "spinNanos", "(J)J"⟩ : MethodName)) hown (mvT hZ (ww hw 11 rfl)) (mvT hZ (ww hw 12 rfl)) (notFace_of_selects (args := #[]) (mvT hZ (ww hw 14 rfl))) (mvT hZ (ww hw 14 rfl)) (mvT hZ (ww hw 13 rfl)) (by decide) (backOf (W := 0) (rm3_27 l Z a0 hw [] b14 b11  T213.heap n0  p213_0 p213_1 p213_2 p213_3 g_b14  c214 ) hZ (ww hw 15 rfl) (ww hw 2 rfl) (by decide) (by decide)) q252a q252c (g := (mkF m 144 (Sh8 q1 q2 q3 0 1 b7 b11 b14 1 20000) [(.long b11), (.ref b14)])) rfl (by rw [hml]; rfl) (Steps.refl _) (argsL := [(.long b11)]) (rest := []) (lenOf pd_28J29J rfl) rfl (by show 2 * 0 + _ ≤ _; exact Nat.le_of_eq rfl) (hb hby at_144) (fun _ _ => ⟨rfl, rfl, (by decide : 1 + 0 ≤ _), (by decide : 3 + 0 ≤ _)⟩)
              dsimp only [Pt.U, Pt.locs, Pt.cells, Pt.slots] at X252 l252 y252 z252 st252 hQ252
              subst l252 y252 z252
              obtain ⟨rfl, N252q, K252, p252_0, p252_1, p252_2, p252_3⟩ := hQ252
              have N252 := Fr.app N213 N252q
              have Zs_252 : n0 ≤ T252.heap.size := Nat.le_trans Zs_213 K252.1
              refine GoW.sg (mkF m 147 (Sh8 q1 q2 q3 0 1 b7 b11 b14 1 20000) [(.long b11)]) (fun t k => st252.trans k) ?_
              refine GoW.sg (mkF m 149 (Sh8 q1 q2 q3 0 1 b7 b11 b14 1 b11) []) (fun t k => XS.lstore X252.here hx rfl (hb hby at_147) rfl (l' := (Sh8 q1 q2 q3 0 1 b7 b11 b14 1 b11)) rfl k) ?_
              refine GoW.sg (mkF m 151 (Sh8 q1 q2 q3 0 1 b7 b11 b14 1 b11) [(.long b11)]) (fun t k => XS.lload X252.here hx rfl (hb hby at_149) rfl k) ?_
              refine GoW.sg (mkF m 154 (Sh8 q1 q2 q3 0 1 b7 b11 b14 1 b11) [(.long 20000), (.long b11)]) (fun t k => X252.ldc2Long hx hown (mvT hZ (ww hw 21 rfl)) (g := (mkF m 151 (Sh8 q1 q2 q3 0 1 b7 b11 b14 1 b11) [(.long b11)])) rfl (hb hby at_151) t k) ?_
              refine GoW.sg (mkF m 155 (Sh8 q1 q2 q3 0 1 b7 b11 b14 1 b11) [(.int (lcmpW b11 (20000 : Int64)))]) (fun t k => XS.lcmp X252.here hx rfl (hb hby at_154) rfl k) ?_
              refine GoW.sg (mkF m 158 (Sh8 q1 q2 q3 0 1 b7 b11 b14 1 b11) []) (fun t k => XS.ifNo X252.here hx rfl (hb hby at_155) rfl ((if0 _ _).trans (flt (mt (lw_gt _ _).mp c214)).2.2.1) k) ?_
              refine GoW.sg (mkF m 160 (Sh8 q1 q2 q3 0 1 b7 b11 b14 1 b11) [(.long b11)]) (fun t k => XS.lload X252.here hx rfl (hb hby at_158) rfl k) ?_
              refine GoW.sg (mkF m 162 (Sh9 q1 q2 q3 0 1 b7 b11 b14 1 b11 b11) []) (fun t k => XS.lstore X252.here hx rfl (hb hby at_160) rfl (l' := (Sh9 q1 q2 q3 0 1 b7 b11 b14 1 b11 b11)) rfl k) ?_
              refine GoW.sg (mkF m 187 (Sh9 q1 q2 q3 0 1 b7 b11 b14 1 b11 b11) []) (fun t k => XS.goto X252.here hx rfl (pc0 := 162) (pc' := 187) rfl (hb hby at_162) (by decide) (by decide) k) ?_
              refine GoW.sg (mkF m 189 (Sh9 q1 q2 q3 0 1 b7 b11 b14 1 b11 b11) [(.int 1)]) (fun t k => XS.iload X252.here hx rfl (hb hby at_187) rfl k) ?_
              refine GoW.sg (mkF m 192 (Sh9 q1 q2 q3 0 1 b7 b11 b14 1 b11 b11) []) (fun t k => XS.ifNo X252.here hx rfl (hb hby at_189) rfl (by decide) k) ?_
              refine GoW.sg (mkF m 194 (Sh9 q1 q2 q3 0 1 b7 b11 b14 1 b11 b11) [(.long b11)]) (fun t k => XS.lload X252.here hx rfl (hb hby at_192) rfl k) ?_
              refine GoW.sg (mkF m 196 (Sh9 q1 q2 q3 0 1 b7 b11 b14 1 b11 b11) [(.long b11), (.long b11)]) (fun t k => XS.lload X252.here hx rfl (hb hby at_194) rfl k) ?_
              refine GoW.sg (mkF m 197 (Sh9 q1 q2 q3 0 1 b7 b11 b14 1 b11 b11) [(.int (lcmpW b11 b11))]) (fun t k => XS.lcmp X252.here hx rfl (hb hby at_196) rfl k) ?_
              refine GoW.sg (mkF m 200 (Sh9 q1 q2 q3 0 1 b7 b11 b14 1 b11 b11) []) (fun t k => XS.ifNo X252.here hx rfl (hb hby at_197) rfl ((if0 _ _).trans (teq ((lw_eq _ _).mpr rfl)).2) k) ?_
              refine GoW.sg (mkF m 201 (Sh9 q1 q2 q3 0 1 b7 b11 b14 1 b11 b11) [(.int 1)]) (fun t k => XS.iconst X252.here hx rfl (hb hby at_200) k) ?_
              refine GoW.sg (mkF m 205 (Sh9 q1 q2 q3 0 1 b7 b11 b14 1 b11 b11) [(.int 1)]) (fun t k => XS.goto X252.here hx rfl (pc0 := 201) (pc' := 205) rfl (hb hby at_201) (by decide) (by decide) k) ?_
              refine GoW.sg (mkF m 207 (Sh9 q1 q2 q3 0 1 b7 b11 b14 1 b11 b11) []) (fun t k => XS.istore X252.here hx rfl (hb hby at_205) rfl (l' := (Sh9 q1 q2 q3 0 1 b7 b11 b14 1 b11 b11)) rfl k) ?_
              refine GoW.sg (mkF m 209 (Sh9 q1 q2 q3 0 1 b7 b11 b14 1 b11 b11) [(.int 1)]) (fun t k => XS.iload X252.here hx rfl (hb hby at_207) rfl k) ?_
              refine GoW.sg (mkF m 212 (Sh9 q1 q2 q3 0 1 b7 b11 b14 1 b11 b11) []) (fun t k => XS.ifNo X252.here hx rfl (hb hby at_209) rfl (by decide) k) ?_
              refine GoW.sg (mkF m 214 (Sh9 q1 q2 q3 0 1 b7 b11 b14 1 b11 b11) [(.ref b14)]) (fun t k => XS.aload X252.here hx rfl (hb hby at_212) rfl rfl k) ?_
              refine GoW.sg (mkF m 215 (Sh9 q1 q2 q3 0 1 b7 b11 b14 1 b11 b11) [(.long 0), (.ref b14)]) (fun t k => XS.lconst X252.here hx rfl (hb hby at_214) k) ?_
              obtain ⟨cq253, kq253, q253a, q253b, q253c⟩ := isOf hZ rfl p252_0
              obtain ⟨_, _, ⟨T253, L253, k253, n253⟩, -, X253, ⟨Lc253, hQ253, l253, y253, z253⟩, st253⟩ := X252.virtualBack hx (y := (⟨"com/example/spindle/spindle/SpinRule", "timesWait", "(J)Z"⟩ : MethodName)) (z := (⟨"com/example/spindle/spindle/SpinRule", "timesWait", "(J)Z"⟩ : MethodName)) hown (mvT hZ (ww hw 22 rfl)) (mvT hZ (ww hw 23 rfl)) (notFace_of_selects (args := #[]) (mvT hZ (ww hw 25 rfl))) (mvT hZ (ww hw 25 rfl)) (mvT hZ (ww hw 24 rfl)) (by decide) (backOf (W := 0) (rm4_24 l Z a0 hw [] b14  T252.heap n0  p252_0 p252_1 p252_2 p252_3    ) hZ (ww hw 26 rfl) (ww hw 2 rfl) (by decide) (by decide)) q253a q253c (g := (mkF m 215 (Sh9 q1 q2 q3 0 1 b7 b11 b14 1 b11 b11) [(.long 0), (.ref b14)])) rfl (by rw [hml]; rfl) (Steps.refl _) (argsL := [(.long (0 : Int64))]) (rest := []) (lenOf pd_28J29Z rfl) rfl (by show 2 * 0 + _ ≤ _; exact Nat.le_of_eq rfl) (hb hby at_215) (fun _ _ => ⟨rfl, rfl, (by decide : 1 + 0 ≤ _), (by decide : 3 + 0 ≤ _)⟩)
              dsimp only [Pt.U, Pt.locs, Pt.cells, Pt.slots] at X253 l253 y253 z253 st253 hQ253
              subst l253 y253 z253
              obtain ⟨rfl, N253q, e253⟩ := hQ253
              have N253 := Fr.app N252 N253q
              refine GoW.sg (mkF m 218 (Sh9 q1 q2 q3 0 1 b7 b11 b14 1 b11 b11) [(.int 0)]) (fun t k => st253.trans k) ?_
              refine GoW.sg (mkF m 220 (Sh9 q1 q2 q3 0 1 b7 b11 b14 1 b11 b11) [(.int 0), (.int 0)]) (fun t k => XS.iload X253.here hx rfl (hb hby at_218) rfl k) ?_
              refine GoW.sg (mkF m 223 (Sh9 q1 q2 q3 0 1 b7 b11 b14 1 b11 b11) []) (fun t k => XS.icmpNo X253.here hx rfl (hb hby at_220) rfl (by decide) k) ?_
              refine GoW.sg (mkF m 224 (Sh9 q1 q2 q3 0 1 b7 b11 b14 1 b11 b11) [(.int 1)]) (fun t k => XS.iconst X253.here hx rfl (hb hby at_223) k) ?_
              refine GoW.sg (mkF m 228 (Sh9 q1 q2 q3 0 1 b7 b11 b14 1 b11 b11) [(.int 1)]) (fun t k => XS.goto X253.here hx rfl (pc0 := 224) (pc' := 228) rfl (hb hby at_224) (by decide) (by decide) k) ?_
              refine GoW.sg (mkF m 230 (Sh9 q1 q2 q3 0 1 b7 b11 b14 1 b11 b11) []) (fun t k => XS.istore X253.here hx rfl (hb hby at_228) rfl (l' := (Sh9 q1 q2 q3 0 1 b7 b11 b14 1 b11 b11)) rfl k) ?_
              by_cases c254 : (20000 : Int64) < q2
              · show GoW p e below s (ValQ (.int (1 : Int32)) n0) room_1.cells room_1.slots (T253.setTop (mkF m 230 (Sh9 q1 q2 q3 0 1 b7 b11 b14 1 b11 b11) []))
                refine GoW.sg (mkF m 232 (Sh9 q1 q2 q3 0 1 b7 b11 b14 1 b11 b11) [(.ref b14)]) (fun t k => XS.aload X253.here hx rfl (hb hby at_230) rfl rfl k) ?_
                refine GoW.sg (mkF m 233 (Sh9 q1 q2 q3 0 1 b7 b11 b14 1 b11 b11) [(.long q2), (.ref b14)]) (fun t k => XS.lloadN X253.here hx rfl (hb hby at_232) rfl k) ?_
                obtain ⟨cq255, kq255, q255a, q255b, q255c⟩ := isOf hZ e253 p252_0
                obtain ⟨_, _, ⟨T255, L255, k255, n255⟩, -, X255, ⟨Lc255, hQ255, l255, y255, z255⟩, st255⟩ := X253.virtualBack hx (y := (⟨"com/example/spindle/spindle/SpinRule", "spinNanos", "(J)J"⟩ : MethodName)) (z := (⟨"com/example/spindle/spindle/SpinRule", "spinNanos", "(J)J"⟩ : MethodName)) hown (mvT hZ (ww hw 11 rfl)) (mvT hZ (ww hw 12 rfl)) (notFace_of_selects (args := #[]) (mvT hZ (ww hw 14 rfl))) (mvT hZ (ww hw 14 rfl)) (mvT hZ (ww hw 13 rfl)) (by decide) (backOf (W := 0) (rm3_25 l Z a0 hw [] b14 q2  T252.heap n0  p252_0 p252_1 p252_2 p252_3 g_b14  c254 ) hZ (ww hw 15 rfl) (ww hw 2 rfl) (by decide) (by decide)) q255a q255c (g := (mkF m 233 (Sh9 q1 q2 q3 0 1 b7 b11 b14 1 b11 b11) [(.long q2), (.ref b14)])) rfl (by rw [hml]; rfl) (Steps.refl _) (argsL := [(.long q2)]) (rest := []) (lenOf pd_28J29J rfl) rfl (by show 2 * 0 + _ ≤ _; exact Nat.le_of_eq rfl) (hb hby at_233) (fun _ _ => ⟨rfl, e253, (by decide : 1 + 0 ≤ _), (by decide : 3 + 0 ≤ _)⟩)
                dsimp only [Pt.U, Pt.locs, Pt.cells, Pt.slots] at X255 l255 y255 z255 st255 hQ255
                subst l255 y255 z255
                obtain ⟨rfl, N255q, K255, p255_0, p255_1, p255_2, p255_3⟩ := hQ255
                have N255 := Fr.app N253 N255q
                have Zs_255 : n0 ≤ T255.heap.size := Nat.le_trans Zs_252 K255.1
                refine GoW.sg (mkF m 236 (Sh9 q1 q2 q3 0 1 b7 b11 b14 1 b11 b11) [(.long 0)]) (fun t k => st255.trans k) ?_
                refine GoW.sg (mkF m 238 (Sh10 q1 q2 q3 0 1 b7 b11 b14 1 b11 b11 0) []) (fun t k => XS.lstore X255.here hx rfl (hb hby at_236) rfl (l' := (Sh10 q1 q2 q3 0 1 b7 b11 b14 1 b11 b11 0)) rfl k) ?_
                refine GoW.sg (mkF m 239 (Sh10 q1 q2 q3 0 1 b7 b11 b14 1 b11 b11 0) [(.long q2)]) (fun t k => XS.lloadN X255.here hx rfl (hb hby at_238) rfl k) ?_
                refine GoW.sg (mkF m 242 (Sh10 q1 q2 q3 0 1 b7 b11 b14 1 b11 b11 0) [(.long 20000), (.long q2)]) (fun t k => X255.ldc2Long hx hown (mvT hZ (ww hw 21 rfl)) (g := (mkF m 239 (Sh10 q1 q2 q3 0 1 b7 b11 b14 1 b11 b11 0) [(.long q2)])) rfl (hb hby at_239) t k) ?_
                refine GoW.sg (mkF m 243 (Sh10 q1 q2 q3 0 1 b7 b11 b14 1 b11 b11 0) [(.int (lcmpW q2 (20000 : Int64)))]) (fun t k => XS.lcmp X255.here hx rfl (hb hby at_242) rfl k) ?_
                refine GoW.sg (mkF m 250 (Sh10 q1 q2 q3 0 1 b7 b11 b14 1 b11 b11 0) []) (fun t k => XS.ifYes X255.here hx rfl (pc0 := 243) (pc' := 250) rfl (hb hby at_243) rfl ((if0 _ _).trans (tlt ((lw_gt _ _).mpr c254)).2.2.1) (by decide) (by decide) k) ?_
                refine GoW.sg (mkF m 251 (Sh10 q1 q2 q3 0 1 b7 b11 b14 1 b11 b11 0) [(.long 0)]) (fun t k => XS.lconst X255.here hx rfl (hb hby at_250) k) ?_
                refine GoW.sg (mkF m 253 (Sh11 q1 q2 q3 0 1 b7 b11 b14 1 b11 b11 0 0) []) (fun t k => XS.lstore X255.here hx rfl (hb hby at_251) rfl (l' := (Sh11 q1 q2 q3 0 1 b7 b11 b14 1 b11 b11 0 0)) rfl k) ?_
                refine GoW.sg (mkF m 255 (Sh11 q1 q2 q3 0 1 b7 b11 b14 1 b11 b11 0 0) [(.int 1)]) (fun t k => XS.iload X255.here hx rfl (hb hby at_253) rfl k) ?_
                refine GoW.sg (mkF m 258 (Sh11 q1 q2 q3 0 1 b7 b11 b14 1 b11 b11 0 0) []) (fun t k => XS.ifNo X255.here hx rfl (hb hby at_255) rfl (by decide) k) ?_
                refine GoW.sg (mkF m 260 (Sh11 q1 q2 q3 0 1 b7 b11 b14 1 b11 b11 0 0) [(.long 0)]) (fun t k => XS.lload X255.here hx rfl (hb hby at_258) rfl k) ?_
                refine GoW.sg (mkF m 262 (Sh11 q1 q2 q3 0 1 b7 b11 b14 1 b11 b11 0 0) [(.long 0), (.long 0)]) (fun t k => XS.lload X255.here hx rfl (hb hby at_260) rfl k) ?_
                refine GoW.sg (mkF m 263 (Sh11 q1 q2 q3 0 1 b7 b11 b14 1 b11 b11 0 0) [(.int (lcmpW (0 : Int64) (0 : Int64)))]) (fun t k => XS.lcmp X255.here hx rfl (hb hby at_262) rfl k) ?_
                refine GoW.sg (mkF m 266 (Sh11 q1 q2 q3 0 1 b7 b11 b14 1 b11 b11 0 0) []) (fun t k => XS.ifNo X255.here hx rfl (hb hby at_263) rfl (by decide) k) ?_
                refine GoW.sg (mkF m 267 (Sh11 q1 q2 q3 0 1 b7 b11 b14 1 b11 b11 0 0) [(.int 1)]) (fun t k => XS.iconst X255.here hx rfl (hb hby at_266) k) ?_
                refine GoW.sg (mkF m 271 (Sh11 q1 q2 q3 0 1 b7 b11 b14 1 b11 b11 0 0) [(.int 1)]) (fun t k => XS.goto X255.here hx rfl (pc0 := 267) (pc' := 271) rfl (hb hby at_267) (by decide) (by decide) k) ?_
                refine GoW.sg (mkF m 273 (Sh11 q1 q2 q3 0 1 b7 b11 b14 1 b11 b11 0 0) []) (fun t k => XS.istore X255.here hx rfl (hb hby at_271) rfl (l' := (Sh11 q1 q2 q3 0 1 b7 b11 b14 1 b11 b11 0 0)) rfl k) ?_
                refine GoW.sg (mkF m 275 (Sh11 q1 q2 q3 0 1 b7 b11 b14 1 b11 b11 0 0) [(.int 1)]) (fun t k => XS.iload X255.here hx rfl (hb hby at_273) rfl k) ?_
                refine GoW.sg (mkF m 278 (Sh11 q1 q2 q3 0 1 b7 b11 b14 1 b11 b11 0 0) []) (fun t k => XS.ifNo X255.here hx rfl (hb hby at_275) rfl (by decide) k) ?_
                refine GoW.sg (mkF m 280 (Sh11 q1 q2 q3 0 1 b7 b11 b14 1 b11 b11 0 0) [(.ref b14)]) (fun t k => XS.aload X255.here hx rfl (hb hby at_278) rfl rfl k) ?_
                refine GoW.sg (mkF m 281 (Sh11 q1 q2 q3 0 1 b7 b11 b14 1 b11 b11 0 0) [(.long 0), (.ref b14)]) (fun t k => XS.lconst X255.here hx rfl (hb hby at_280) k) ?_
                obtain ⟨cq256, kq256, q256a, q256b, q256c⟩ := isOf hZ rfl p255_0
                obtain ⟨_, _, ⟨T256, L256, k256, n256⟩, -, X256, ⟨Lc256, hQ256, l256, y256, z256⟩, st256⟩ := X255.virtualBack hx (y := (⟨"com/example/spindle/spindle/SpinRule", "timesWait", "(J)Z"⟩ : MethodName)) (z := (⟨"com/example/spindle/spindle/SpinRule", "timesWait", "(J)Z"⟩ : MethodName)) hown (mvT hZ (ww hw 22 rfl)) (mvT hZ (ww hw 23 rfl)) (notFace_of_selects (args := #[]) (mvT hZ (ww hw 25 rfl))) (mvT hZ (ww hw 25 rfl)) (mvT hZ (ww hw 24 rfl)) (by decide) (backOf (W := 0) (rm4_24 l Z a0 hw [] b14  T255.heap n0  p255_0 p255_1 p255_2 p255_3    ) hZ (ww hw 26 rfl) (ww hw 2 rfl) (by decide) (by decide)) q256a q256c (g := (mkF m 281 (Sh11 q1 q2 q3 0 1 b7 b11 b14 1 b11 b11 0 0) [(.long 0), (.ref b14)])) rfl (by rw [hml]; rfl) (Steps.refl _) (argsL := [(.long (0 : Int64))]) (rest := []) (lenOf pd_28J29Z rfl) rfl (by show 2 * 0 + _ ≤ _; exact Nat.le_of_eq rfl) (hb hby at_281) (fun _ _ => ⟨rfl, rfl, (by decide : 1 + 0 ≤ _), (by decide : 3 + 0 ≤ _)⟩)
                dsimp only [Pt.U, Pt.locs, Pt.cells, Pt.slots] at X256 l256 y256 z256 st256 hQ256
                subst l256 y256 z256
                obtain ⟨rfl, N256q, e256⟩ := hQ256
                have N256 := Fr.app N255 N256q
                refine GoW.sg (mkF m 284 (Sh11 q1 q2 q3 0 1 b7 b11 b14 1 b11 b11 0 0) [(.int 0)]) (fun t k => st256.trans k) ?_
                refine GoW.sg (mkF m 287 (Sh11 q1 q2 q3 0 1 b7 b11 b14 1 b11 b11 0 0) []) (fun t k => XS.ifNo X256.here hx rfl (hb hby at_284) rfl (by decide) k) ?_
                refine GoW.sg (mkF m 288 (Sh11 q1 q2 q3 0 1 b7 b11 b14 1 b11 b11 0 0) [(.int 1)]) (fun t k => XS.iconst X256.here hx rfl (hb hby at_287) k) ?_
                refine GoW.sg (mkF m 292 (Sh11 q1 q2 q3 0 1 b7 b11 b14 1 b11 b11 0 0) [(.int 1)]) (fun t k => XS.goto X256.here hx rfl (pc0 := 288) (pc' := 292) rfl (hb hby at_288) (by decide) (by decide) k) ?_
                refine GoW.sg (mkF m 294 (Sh11 q1 q2 q3 0 1 b7 b11 b14 1 b11 b11 0 0) []) (fun t k => XS.istore X256.here hx rfl (hb hby at_292) rfl (l' := (Sh11 q1 q2 q3 0 1 b7 b11 b14 1 b11 b11 0 0)) rfl k) ?_
                refine GoW.sg (mkF m 296 (Sh11 q1 q2 q3 0 1 b7 b11 b14 1 b11 b11 0 0) [(.int 1)]) (fun t k => XS.iload X256.here hx rfl (hb hby at_294) rfl k) ?_
                refine GoW.retN X256 hx (t := .boolean) Bd.returns (by simp) (hb hby at_296) Bd.notSynchronized ?_ (by decide) (by decide)
                exact ⟨rfl, N256⟩
              · show GoW p e below s (ValQ (.int (1 : Int32)) n0) room_1.cells room_1.slots (T253.setTop (mkF m 230 (Sh9 q1 q2 q3 0 1 b7 b11 b14 1 b11 b11) []))
                refine GoW.sg (mkF m 232 (Sh9 q1 q2 q3 0 1 b7 b11 b14 1 b11 b11) [(.ref b14)]) (fun t k => XS.aload X253.here hx rfl (hb hby at_230) rfl rfl k) ?_
                refine GoW.sg (mkF m 233 (Sh9 q1 q2 q3 0 1 b7 b11 b14 1 b11 b11) [(.long q2), (.ref b14)]) (fun t k => XS.lloadN X253.here hx rfl (hb hby at_232) rfl k) ?_
                obtain ⟨cq257, kq257, q257a, q257b, q257c⟩ := isOf hZ e253 p252_0
                obtain ⟨_, _, ⟨T257, L257, k257, n257⟩, -, X257, ⟨Lc257, hQ257, l257, y257, z257⟩, st257⟩ := X253.virtualBack hx (y := (⟨"com/example/spindle/spindle/SpinRule", "spinNanos", "(J)J"⟩ : MethodName)) (z := (⟨"com/example/spindle/spindle/SpinRule", "spinNanos", "(J)J"⟩ : MethodName)) hown (mvT hZ (ww hw 11 rfl)) (mvT hZ (ww hw 12 rfl)) (notFace_of_selects (args := #[]) (mvT hZ (ww hw 14 rfl))) (mvT hZ (ww hw 14 rfl)) (mvT hZ (ww hw 13 rfl)) (by decide) (backOf (W := 0) (rm3_26 l Z a0 hw [] b14 q2  T252.heap n0  p252_0 p252_1 p252_2 p252_3 g_b14  c254 ) hZ (ww hw 15 rfl) (ww hw 2 rfl) (by decide) (by decide)) q257a q257c (g := (mkF m 233 (Sh9 q1 q2 q3 0 1 b7 b11 b14 1 b11 b11) [(.long q2), (.ref b14)])) rfl (by rw [hml]; rfl) (Steps.refl _) (argsL := [(.long q2)]) (rest := []) (lenOf pd_28J29J rfl) rfl (by show 2 * 0 + _ ≤ _; exact Nat.le_of_eq rfl) (hb hby at_233) (fun _ _ => ⟨rfl, e253, (by decide : 1 + 0 ≤ _), (by decide : 3 + 0 ≤ _)⟩)
                dsimp only [Pt.U, Pt.locs, Pt.cells, Pt.slots] at X257 l257 y257 z257 st257 hQ257
                subst l257 y257 z257
                obtain ⟨rfl, N257q, K257, p257_0, p257_1, p257_2, p257_3⟩ := hQ257
                have N257 := Fr.app N253 N257q
                have Zs_257 : n0 ≤ T257.heap.size := Nat.le_trans Zs_252 K257.1
                refine GoW.sg (mkF m 236 (Sh9 q1 q2 q3 0 1 b7 b11 b14 1 b11 b11) [(.long q2)]) (fun t k => st257.trans k) ?_
                refine GoW.sg (mkF m 238 (Sh10 q1 q2 q3 0 1 b7 b11 b14 1 b11 b11 q2) []) (fun t k => XS.lstore X257.here hx rfl (hb hby at_236) rfl (l' := (Sh10 q1 q2 q3 0 1 b7 b11 b14 1 b11 b11 q2)) rfl k) ?_
                refine GoW.sg (mkF m 239 (Sh10 q1 q2 q3 0 1 b7 b11 b14 1 b11 b11 q2) [(.long q2)]) (fun t k => XS.lloadN X257.here hx rfl (hb hby at_238) rfl k) ?_
                refine GoW.sg (mkF m 242 (Sh10 q1 q2 q3 0 1 b7 b11 b14 1 b11 b11 q2) [(.long 20000), (.long q2)]) (fun t k => X257.ldc2Long hx hown (mvT hZ (ww hw 21 rfl)) (g := (mkF m 239 (Sh10 q1 q2 q3 0 1 b7 b11 b14 1 b11 b11 q2) [(.long q2)])) rfl (hb hby at_239) t k) ?_
                refine GoW.sg (mkF m 243 (Sh10 q1 q2 q3 0 1 b7 b11 b14 1 b11 b11 q2) [(.int (lcmpW q2 (20000 : Int64)))]) (fun t k => XS.lcmp X257.here hx rfl (hb hby at_242) rfl k) ?_
                refine GoW.sg (mkF m 246 (Sh10 q1 q2 q3 0 1 b7 b11 b14 1 b11 b11 q2) []) (fun t k => XS.ifNo X257.here hx rfl (hb hby at_243) rfl ((if0 _ _).trans (flt (mt (lw_gt _ _).mp c254)).2.2.1) k) ?_
                refine GoW.sg (mkF m 247 (Sh10 q1 q2 q3 0 1 b7 b11 b14 1 b11 b11 q2) [(.long q2)]) (fun t k => XS.lloadN X257.here hx rfl (hb hby at_246) rfl k) ?_
                refine GoW.sg (mkF m 251 (Sh10 q1 q2 q3 0 1 b7 b11 b14 1 b11 b11 q2) [(.long q2)]) (fun t k => XS.goto X257.here hx rfl (pc0 := 247) (pc' := 251) rfl (hb hby at_247) (by decide) (by decide) k) ?_
                refine GoW.sg (mkF m 253 (Sh11 q1 q2 q3 0 1 b7 b11 b14 1 b11 b11 q2 q2) []) (fun t k => XS.lstore X257.here hx rfl (hb hby at_251) rfl (l' := (Sh11 q1 q2 q3 0 1 b7 b11 b14 1 b11 b11 q2 q2)) rfl k) ?_
                refine GoW.sg (mkF m 255 (Sh11 q1 q2 q3 0 1 b7 b11 b14 1 b11 b11 q2 q2) [(.int 1)]) (fun t k => XS.iload X257.here hx rfl (hb hby at_253) rfl k) ?_
                refine GoW.sg (mkF m 258 (Sh11 q1 q2 q3 0 1 b7 b11 b14 1 b11 b11 q2 q2) []) (fun t k => XS.ifNo X257.here hx rfl (hb hby at_255) rfl (by decide) k) ?_
                refine GoW.sg (mkF m 260 (Sh11 q1 q2 q3 0 1 b7 b11 b14 1 b11 b11 q2 q2) [(.long q2)]) (fun t k => XS.lload X257.here hx rfl (hb hby at_258) rfl k) ?_
                refine GoW.sg (mkF m 262 (Sh11 q1 q2 q3 0 1 b7 b11 b14 1 b11 b11 q2 q2) [(.long q2), (.long q2)]) (fun t k => XS.lload X257.here hx rfl (hb hby at_260) rfl k) ?_
                refine GoW.sg (mkF m 263 (Sh11 q1 q2 q3 0 1 b7 b11 b14 1 b11 b11 q2 q2) [(.int (lcmpW q2 q2))]) (fun t k => XS.lcmp X257.here hx rfl (hb hby at_262) rfl k) ?_
                refine GoW.sg (mkF m 266 (Sh11 q1 q2 q3 0 1 b7 b11 b14 1 b11 b11 q2 q2) []) (fun t k => XS.ifNo X257.here hx rfl (hb hby at_263) rfl ((if0 _ _).trans (teq ((lw_eq _ _).mpr rfl)).2) k) ?_
                refine GoW.sg (mkF m 267 (Sh11 q1 q2 q3 0 1 b7 b11 b14 1 b11 b11 q2 q2) [(.int 1)]) (fun t k => XS.iconst X257.here hx rfl (hb hby at_266) k) ?_
                refine GoW.sg (mkF m 271 (Sh11 q1 q2 q3 0 1 b7 b11 b14 1 b11 b11 q2 q2) [(.int 1)]) (fun t k => XS.goto X257.here hx rfl (pc0 := 267) (pc' := 271) rfl (hb hby at_267) (by decide) (by decide) k) ?_
                refine GoW.sg (mkF m 273 (Sh11 q1 q2 q3 0 1 b7 b11 b14 1 b11 b11 q2 q2) []) (fun t k => XS.istore X257.here hx rfl (hb hby at_271) rfl (l' := (Sh11 q1 q2 q3 0 1 b7 b11 b14 1 b11 b11 q2 q2)) rfl k) ?_
                refine GoW.sg (mkF m 275 (Sh11 q1 q2 q3 0 1 b7 b11 b14 1 b11 b11 q2 q2) [(.int 1)]) (fun t k => XS.iload X257.here hx rfl (hb hby at_273) rfl k) ?_
                refine GoW.sg (mkF m 278 (Sh11 q1 q2 q3 0 1 b7 b11 b14 1 b11 b11 q2 q2) []) (fun t k => XS.ifNo X257.here hx rfl (hb hby at_275) rfl (by decide) k) ?_
                refine GoW.sg (mkF m 280 (Sh11 q1 q2 q3 0 1 b7 b11 b14 1 b11 b11 q2 q2) [(.ref b14)]) (fun t k => XS.aload X257.here hx rfl (hb hby at_278) rfl rfl k) ?_
                refine GoW.sg (mkF m 281 (Sh11 q1 q2 q3 0 1 b7 b11 b14 1 b11 b11 q2 q2) [(.long 0), (.ref b14)]) (fun t k => XS.lconst X257.here hx rfl (hb hby at_280) k) ?_
                obtain ⟨cq258, kq258, q258a, q258b, q258c⟩ := isOf hZ rfl p257_0
                obtain ⟨_, _, ⟨T258, L258, k258, n258⟩, -, X258, ⟨Lc258, hQ258, l258, y258, z258⟩, st258⟩ := X257.virtualBack hx (y := (⟨"com/example/spindle/spindle/SpinRule", "timesWait", "(J)Z"⟩ : MethodName)) (z := (⟨"com/example/spindle/spindle/SpinRule", "timesWait", "(J)Z"⟩ : MethodName)) hown (mvT hZ (ww hw 22 rfl)) (mvT hZ (ww hw 23 rfl)) (notFace_of_selects (args := #[]) (mvT hZ (ww hw 25 rfl))) (mvT hZ (ww hw 25 rfl)) (mvT hZ (ww hw 24 rfl)) (by decide) (backOf (W := 0) (rm4_24 l Z a0 hw [] b14  T257.heap n0  p257_0 p257_1 p257_2 p257_3    ) hZ (ww hw 26 rfl) (ww hw 2 rfl) (by decide) (by decide)) q258a q258c (g := (mkF m 281 (Sh11 q1 q2 q3 0 1 b7 b11 b14 1 b11 b11 q2 q2) [(.long 0), (.ref b14)])) rfl (by rw [hml]; rfl) (Steps.refl _) (argsL := [(.long (0 : Int64))]) (rest := []) (lenOf pd_28J29Z rfl) rfl (by show 2 * 0 + _ ≤ _; exact Nat.le_of_eq rfl) (hb hby at_281) (fun _ _ => ⟨rfl, rfl, (by decide : 1 + 0 ≤ _), (by decide : 3 + 0 ≤ _)⟩)
                dsimp only [Pt.U, Pt.locs, Pt.cells, Pt.slots] at X258 l258 y258 z258 st258 hQ258
                subst l258 y258 z258
                obtain ⟨rfl, N258q, e258⟩ := hQ258
                have N258 := Fr.app N257 N258q
                refine GoW.sg (mkF m 284 (Sh11 q1 q2 q3 0 1 b7 b11 b14 1 b11 b11 q2 q2) [(.int 0)]) (fun t k => st258.trans k) ?_
                refine GoW.sg (mkF m 287 (Sh11 q1 q2 q3 0 1 b7 b11 b14 1 b11 b11 q2 q2) []) (fun t k => XS.ifNo X258.here hx rfl (hb hby at_284) rfl (by decide) k) ?_
                refine GoW.sg (mkF m 288 (Sh11 q1 q2 q3 0 1 b7 b11 b14 1 b11 b11 q2 q2) [(.int 1)]) (fun t k => XS.iconst X258.here hx rfl (hb hby at_287) k) ?_
                refine GoW.sg (mkF m 292 (Sh11 q1 q2 q3 0 1 b7 b11 b14 1 b11 b11 q2 q2) [(.int 1)]) (fun t k => XS.goto X258.here hx rfl (pc0 := 288) (pc' := 292) rfl (hb hby at_288) (by decide) (by decide) k) ?_
                refine GoW.sg (mkF m 294 (Sh11 q1 q2 q3 0 1 b7 b11 b14 1 b11 b11 q2 q2) []) (fun t k => XS.istore X258.here hx rfl (hb hby at_292) rfl (l' := (Sh11 q1 q2 q3 0 1 b7 b11 b14 1 b11 b11 q2 q2)) rfl k) ?_
                refine GoW.sg (mkF m 296 (Sh11 q1 q2 q3 0 1 b7 b11 b14 1 b11 b11 q2 q2) [(.int 1)]) (fun t k => XS.iload X258.here hx rfl (hb hby at_294) rfl k) ?_
                refine GoW.retN X258 hx (t := .boolean) Bd.returns (by simp) (hb hby at_296) Bd.notSynchronized ?_ (by decide) (by decide)
                exact ⟨rfl, N258⟩
          · subst cc
            show GoW p e below s (ValQ (.int (1 : Int32)) n0) room_1.cells room_1.slots (T213.setTop (mkF m 130 (Sh8 q1 q2 q3 1 1 b7 b11 b14 1 20000) []))
            refine GoW.sg (mkF m 132 (Sh8 q1 q2 q3 1 1 b7 b11 b14 1 20000) [(.int 1)]) (fun t k => XS.iload X213.here hx rfl (hb hby at_130) rfl k) ?_
            refine GoW.sg (mkF m 135 (Sh8 q1 q2 q3 1 1 b7 b11 b14 1 20000) []) (fun t k => XS.ifNo X213.here hx rfl (hb hby at_132) rfl (by decide) k) ?_
            refine GoW.sg (mkF m 137 (Sh8 q1 q2 q3 1 1 b7 b11 b14 1 20000) [(.ref b14)]) (fun t k => XS.aload X213.here hx rfl (hb hby at_135) rfl rfl k) ?_
            obtain ⟨cq261, kq261, q261a, q261b, q261c⟩ := isOf hZ rfl p213_0
            obtain ⟨_, _, ⟨T261, L261, k261, n261⟩, -, X261, ⟨Lc261, hQ261, l261, y261, z261⟩, st261⟩ := X213.virtualBack hx (y := (⟨"com/example/spindle/spindle/SpinRule", "handedOn", "()V"⟩ : MethodName)) (z := (⟨"com/example/spindle/spindle/SpinRule", "handedOn", "()V"⟩ : MethodName)) hown (mvT hZ (ww hw 27 rfl)) (mvT hZ (ww hw 28 rfl)) (notFace_of_selects (args := #[]) (mvT hZ (ww hw 30 rfl))) (mvT hZ (ww hw 30 rfl)) (mvT hZ (ww hw 29 rfl)) (by decide) (backOf (W := 0) (rm5_28 l Z a0 hw [] b14  T213.heap n0  p213_0 p213_1 p213_2 p213_3 g_b14   ) hZ (ww hw 31 rfl) (ww hw 2 rfl) (by decide) (by decide)) q261a q261c (g := (mkF m 137 (Sh8 q1 q2 q3 1 1 b7 b11 b14 1 20000) [(.ref b14)])) rfl (by rw [hml]; rfl) (Steps.refl _) (argsL := []) (rest := []) (lenOf pd_2829V rfl) rfl (by show 2 * 0 + _ ≤ _; exact Nat.le_of_eq rfl) (hb hby at_137) (fun _ _ => ⟨rfl, rfl, (by decide : 1 + 0 ≤ _), (by decide : 3 + 0 ≤ _)⟩)
            dsimp only [Pt.U, Pt.locs, Pt.cells, Pt.slots] at X261 l261 y261 z261 st261 hQ261
            subst l261 y261 z261
            obtain ⟨rfl, N261q, K261, p261_0, p261_1, p261_2, p261_3⟩ := hQ261
            have N261 := Fr.app N213 N261q
            have Zs_261 : n0 ≤ T261.heap.size := Nat.le_trans Zs_213 K261.1
            refine GoW.sg (mkF m 140 (Sh8 q1 q2 q3 1 1 b7 b11 b14 1 20000) []) (fun t k => st261.trans k) ?_
            by_cases c262 : (20000 : Int64) < b11
            · show GoW p e below s (ValQ (.int (1 : Int32)) n0) room_1.cells room_1.slots (T261.setTop (mkF m 140 (Sh8 q1 q2 q3 1 1 b7 b11 b14 1 20000) []))
              refine GoW.sg (mkF m 142 (Sh8 q1 q2 q3 1 1 b7 b11 b14 1 20000) [(.ref b14)]) (fun t k => XS.aload X261.here hx rfl (hb hby at_140) rfl rfl k) ?_
              refine GoW.sg (mkF m 144 (Sh8 q1 q2 q3 1 1 b7 b11 b14 1 20000) [(.long b11), (.ref b14)]) (fun t k => XS.lload X261.here hx rfl (hb hby at_142) rfl k) ?_
              obtain ⟨cq273, kq273, q273a, q273b, q273c⟩ := isOf hZ rfl p261_0
              obtain ⟨_, _, ⟨T273, L273, k273, n273⟩, -, X273, ⟨Lc273, hQ273, l273, y273, z273⟩, st273⟩ := X261.virtualBack hx (y := (⟨"com/example/spindle/spindle/SpinRule", "spinNanos", "(J)J"⟩ : MethodName)) (z := (⟨"com/example/spindle/spindle/SpinRule", "spinNanos", "(J)J"⟩ : MethodName)) hown (mvT hZ (ww hw 11 rfl)) (mvT hZ (ww hw 12 rfl)) (notFace_of_selects (args := #[]) (mvT hZ (ww hw 14 rfl))) (mvT hZ (ww hw 14 rfl)) (mvT hZ (ww hw 13 rfl)) (by decide) (backOf (W := 0) (rm3_29 l Z a0 hw [] b14 b11  T261.heap n0  p261_0 p261_1 p261_2 p261_3 g_b14  c262 ) hZ (ww hw 15 rfl) (ww hw 2 rfl) (by decide) (by decide)) q273a q273c (g := (mkF m 144 (Sh8 q1 q2 q3 1 1 b7 b11 b14 1 20000) [(.long b11), (.ref b14)])) rfl (by rw [hml]; rfl) (Steps.refl _) (argsL := [(.long b11)]) (rest := []) (lenOf pd_28J29J rfl) rfl (by show 2 * 0 + _ ≤ _; exact Nat.le_of_eq rfl) (hb hby at_144) (fun _ _ => ⟨rfl, rfl, (by decide : 1 + 0 ≤ _), (by decide : 3 + 0 ≤ _)⟩)
              dsimp only [Pt.U, Pt.locs, Pt.cells, Pt.slots] at X273 l273 y273 z273 st273 hQ273
              subst l273 y273 z273
              obtain ⟨rfl, N273q, K273, p273_0, p273_1, p273_2, p273_3⟩ := hQ273
              have N273 := Fr.app N261 N273q
              have Zs_273 : n0 ≤ T273.heap.size := Nat.le_trans Zs_261 K273.1
              refine GoW.sg (mkF m 147 (Sh8 q1 q2 q3 1 1 b7 b11 b14 1 20000) [(.long 20000)]) (fun t k => st273.trans k) ?_
              refine GoW.sg (mkF m 149 (Sh8 q1 q2 q3 1 1 b7 b11 b14 1 20000) []) (fun t k => XS.lstore X273.here hx rfl (hb hby at_147) rfl (l' := (Sh8 q1 q2 q3 1 1 b7 b11 b14 1 20000)) rfl k) ?_
              refine GoW.sg (mkF m 151 (Sh8 q1 q2 q3 1 1 b7 b11 b14 1 20000) [(.long b11)]) (fun t k => XS.lload X273.here hx rfl (hb hby at_149) rfl k) ?_
              refine GoW.sg (mkF m 154 (Sh8 q1 q2 q3 1 1 b7 b11 b14 1 20000) [(.long 20000), (.long b11)]) (fun t k => X273.ldc2Long hx hown (mvT hZ (ww hw 21 rfl)) (g := (mkF m 151 (Sh8 q1 q2 q3 1 1 b7 b11 b14 1 20000) [(.long b11)])) rfl (hb hby at_151) t k) ?_
              refine GoW.sg (mkF m 155 (Sh8 q1 q2 q3 1 1 b7 b11 b14 1 20000) [(.int (lcmpW b11 (20000 : Int64)))]) (fun t k => XS.lcmp X273.here hx rfl (hb hby at_154) rfl k) ?_
              refine GoW.sg (mkF m 165 (Sh8 q1 q2 q3 1 1 b7 b11 b14 1 20000) []) (fun t k => XS.ifYes X273.here hx rfl (pc0 := 155) (pc' := 165) rfl (hb hby at_155) rfl ((if0 _ _).trans (tlt ((lw_gt _ _).mpr c262)).2.2.1) (by decide) (by decide) k) ?_
              refine GoW.sg (mkF m 167 (Sh8 q1 q2 q3 1 1 b7 b11 b14 1 20000) [(.int 1)]) (fun t k => XS.iload X273.here hx rfl (hb hby at_165) rfl k) ?_
              refine GoW.sg (mkF m 170 (Sh8 q1 q2 q3 1 1 b7 b11 b14 1 20000) []) (fun t k => XS.ifNo X273.here hx rfl (hb hby at_167) rfl (by decide) k) ?_
              refine GoW.sg (mkF m 172 (Sh8 q1 q2 q3 1 1 b7 b11 b14 1 20000) [(.int 1)]) (fun t k => XS.iload X273.here hx rfl (hb hby at_170) rfl k) ?_
              refine GoW.sg (mkF m 173 (Sh8 q1 q2 q3 1 1 b7 b11 b14 1 20000) [(.int 2), (.int 1)]) (fun t k => XS.iconst X273.here hx rfl (hb hby at_172) k) ?_
              refine GoW.sg (mkF m 176 (Sh8 q1 q2 q3 1 1 b7 b11 b14 1 20000) []) (fun t k => XS.icmpNo X273.here hx rfl (hb hby at_173) rfl (by decide) k) ?_
              refine GoW.sg (mkF m 179 (Sh8 q1 q2 q3 1 1 b7 b11 b14 1 20000) [(.long 20000)]) (fun t k => X273.ldc2Long hx hown (mvT hZ (ww hw 21 rfl)) (g := (mkF m 176 (Sh8 q1 q2 q3 1 1 b7 b11 b14 1 20000) [])) rfl (hb hby at_176) t k) ?_
              refine GoW.sg (mkF m 181 (Sh9 q1 q2 q3 1 1 b7 b11 b14 1 20000 20000) []) (fun t k => XS.lstore X273.here hx rfl (hb hby at_179) rfl (l' := (Sh9 q1 q2 q3 1 1 b7 b11 b14 1 20000 20000)) rfl k) ?_
              refine GoW.sg (mkF m 187 (Sh9 q1 q2 q3 1 1 b7 b11 b14 1 20000 20000) []) (fun t k => XS.goto X273.here hx rfl (pc0 := 181) (pc' := 187) rfl (hb hby at_181) (by decide) (by decide) k) ?_
              refine GoW.sg (mkF m 189 (Sh9 q1 q2 q3 1 1 b7 b11 b14 1 20000 20000) [(.int 1)]) (fun t k => XS.iload X273.here hx rfl (hb hby at_187) rfl k) ?_
              refine GoW.sg (mkF m 192 (Sh9 q1 q2 q3 1 1 b7 b11 b14 1 20000 20000) []) (fun t k => XS.ifNo X273.here hx rfl (hb hby at_189) rfl (by decide) k) ?_
              refine GoW.sg (mkF m 194 (Sh9 q1 q2 q3 1 1 b7 b11 b14 1 20000 20000) [(.long 20000)]) (fun t k => XS.lload X273.here hx rfl (hb hby at_192) rfl k) ?_
              refine GoW.sg (mkF m 196 (Sh9 q1 q2 q3 1 1 b7 b11 b14 1 20000 20000) [(.long 20000), (.long 20000)]) (fun t k => XS.lload X273.here hx rfl (hb hby at_194) rfl k) ?_
              refine GoW.sg (mkF m 197 (Sh9 q1 q2 q3 1 1 b7 b11 b14 1 20000 20000) [(.int (lcmpW (20000 : Int64) (20000 : Int64)))]) (fun t k => XS.lcmp X273.here hx rfl (hb hby at_196) rfl k) ?_
              refine GoW.sg (mkF m 200 (Sh9 q1 q2 q3 1 1 b7 b11 b14 1 20000 20000) []) (fun t k => XS.ifNo X273.here hx rfl (hb hby at_197) rfl (by decide) k) ?_
              refine GoW.sg (mkF m 201 (Sh9 q1 q2 q3 1 1 b7 b11 b14 1 20000 20000) [(.int 1)]) (fun t k => XS.iconst X273.here hx rfl (hb hby at_200) k) ?_
              refine GoW.sg (mkF m 205 (Sh9 q1 q2 q3 1 1 b7 b11 b14 1 20000 20000) [(.int 1)]) (fun t k => XS.goto X273.here hx rfl (pc0 := 201) (pc' := 205) rfl (hb hby at_201) (by decide) (by decide) k) ?_
              refine GoW.sg (mkF m 207 (Sh9 q1 q2 q3 1 1 b7 b11 b14 1 20000 20000) []) (fun t k => XS.istore X273.here hx rfl (hb hby at_205) rfl (l' := (Sh9 q1 q2 q3 1 1 b7 b11 b14 1 20000 20000)) rfl k) ?_
              refine GoW.sg (mkF m 209 (Sh9 q1 q2 q3 1 1 b7 b11 b14 1 20000 20000) [(.int 1)]) (fun t k => XS.iload X273.here hx rfl (hb hby at_207) rfl k) ?_
              refine GoW.sg (mkF m 212 (Sh9 q1 q2 q3 1 1 b7 b11 b14 1 20000 20000) []) (fun t k => XS.ifNo X273.here hx rfl (hb hby at_209) rfl (by decide) k) ?_
              refine GoW.sg (mkF m 214 (Sh9 q1 q2 q3 1 1 b7 b11 b14 1 20000 20000) [(.ref b14)]) (fun t k => XS.aload X273.here hx rfl (hb hby at_212) rfl rfl k) ?_
              refine GoW.sg (mkF m 215 (Sh9 q1 q2 q3 1 1 b7 b11 b14 1 20000 20000) [(.long 0), (.ref b14)]) (fun t k => XS.lconst X273.here hx rfl (hb hby at_214) k) ?_
              obtain ⟨cq276, kq276, q276a, q276b, q276c⟩ := isOf hZ rfl p273_0
              obtain ⟨_, _, ⟨T276, L276, k276, n276⟩, -, X276, ⟨Lc276, hQ276, l276, y276, z276⟩, st276⟩ := X273.virtualBack hx (y := (⟨"com/example/spindle/spindle/SpinRule", "timesWait", "(J)Z"⟩ : MethodName)) (z := (⟨"com/example/spindle/spindle/SpinRule", "timesWait", "(J)Z"⟩ : MethodName)) hown (mvT hZ (ww hw 22 rfl)) (mvT hZ (ww hw 23 rfl)) (notFace_of_selects (args := #[]) (mvT hZ (ww hw 25 rfl))) (mvT hZ (ww hw 25 rfl)) (mvT hZ (ww hw 24 rfl)) (by decide) (backOf (W := 0) (rm4_30 l Z a0 hw [] b14  T273.heap n0  p273_0 p273_1 p273_2 p273_3    ) hZ (ww hw 26 rfl) (ww hw 2 rfl) (by decide) (by decide)) q276a q276c (g := (mkF m 215 (Sh9 q1 q2 q3 1 1 b7 b11 b14 1 20000 20000) [(.long 0), (.ref b14)])) rfl (by rw [hml]; rfl) (Steps.refl _) (argsL := [(.long (0 : Int64))]) (rest := []) (lenOf pd_28J29Z rfl) rfl (by show 2 * 0 + _ ≤ _; exact Nat.le_of_eq rfl) (hb hby at_215) (fun _ _ => ⟨rfl, rfl, (by decide : 1 + 0 ≤ _), (by decide : 3 + 0 ≤ _)⟩)
              dsimp only [Pt.U, Pt.locs, Pt.cells, Pt.slots] at X276 l276 y276 z276 st276 hQ276
              subst l276 y276 z276
              obtain ⟨rfl, N276q, e276⟩ := hQ276
              have N276 := Fr.app N273 N276q
              refine GoW.sg (mkF m 218 (Sh9 q1 q2 q3 1 1 b7 b11 b14 1 20000 20000) [(.int 1)]) (fun t k => st276.trans k) ?_
              refine GoW.sg (mkF m 220 (Sh9 q1 q2 q3 1 1 b7 b11 b14 1 20000 20000) [(.int 1), (.int 1)]) (fun t k => XS.iload X276.here hx rfl (hb hby at_218) rfl k) ?_
              refine GoW.sg (mkF m 223 (Sh9 q1 q2 q3 1 1 b7 b11 b14 1 20000 20000) []) (fun t k => XS.icmpNo X276.here hx rfl (hb hby at_220) rfl (by decide) k) ?_
              refine GoW.sg (mkF m 224 (Sh9 q1 q2 q3 1 1 b7 b11 b14 1 20000 20000) [(.int 1)]) (fun t k => XS.iconst X276.here hx rfl (hb hby at_223) k) ?_
              refine GoW.sg (mkF m 228 (Sh9 q1 q2 q3 1 1 b7 b11 b14 1 20000 20000) [(.int 1)]) (fun t k => XS.goto X276.here hx rfl (pc0 := 224) (pc' := 228) rfl (hb hby at_224) (by decide) (by decide) k) ?_
              refine GoW.sg (mkF m 230 (Sh9 q1 q2 q3 1 1 b7 b11 b14 1 20000 20000) []) (fun t k => XS.istore X276.here hx rfl (hb hby at_228) rfl (l' := (Sh9 q1 q2 q3 1 1 b7 b11 b14 1 20000 20000)) rfl k) ?_
              by_cases c277 : (20000 : Int64) < q2
              · show GoW p e below s (ValQ (.int (1 : Int32)) n0) room_1.cells room_1.slots (T276.setTop (mkF m 230 (Sh9 q1 q2 q3 1 1 b7 b11 b14 1 20000 20000) []))
                refine GoW.sg (mkF m 232 (Sh9 q1 q2 q3 1 1 b7 b11 b14 1 20000 20000) [(.ref b14)]) (fun t k => XS.aload X276.here hx rfl (hb hby at_230) rfl rfl k) ?_
                refine GoW.sg (mkF m 233 (Sh9 q1 q2 q3 1 1 b7 b11 b14 1 20000 20000) [(.long q2), (.ref b14)]) (fun t k => XS.lloadN X276.here hx rfl (hb hby at_232) rfl k) ?_
                obtain ⟨cq278, kq278, q278a, q278b, q278c⟩ := isOf hZ e276 p273_0
                obtain ⟨_, _, ⟨T278, L278, k278, n278⟩, -, X278, ⟨Lc278, hQ278, l278, y278, z278⟩, st278⟩ := X276.virtualBack hx (y := (⟨"com/example/spindle/spindle/SpinRule", "spinNanos", "(J)J"⟩ : MethodName)) (z := (⟨"com/example/spindle/spindle/SpinRule", "spinNanos", "(J)J"⟩ : MethodName)) hown (mvT hZ (ww hw 11 rfl)) (mvT hZ (ww hw 12 rfl)) (notFace_of_selects (args := #[]) (mvT hZ (ww hw 14 rfl))) (mvT hZ (ww hw 14 rfl)) (mvT hZ (ww hw 13 rfl)) (by decide) (backOf (W := 0) (rm3_23 l Z a0 hw [] b14 q2  T273.heap n0  p273_0 p273_1 p273_2 p273_3 g_b14  c277 ) hZ (ww hw 15 rfl) (ww hw 2 rfl) (by decide) (by decide)) q278a q278c (g := (mkF m 233 (Sh9 q1 q2 q3 1 1 b7 b11 b14 1 20000 20000) [(.long q2), (.ref b14)])) rfl (by rw [hml]; rfl) (Steps.refl _) (argsL := [(.long q2)]) (rest := []) (lenOf pd_28J29J rfl) rfl (by show 2 * 0 + _ ≤ _; exact Nat.le_of_eq rfl) (hb hby at_233) (fun _ _ => ⟨rfl, e276, (by decide : 1 + 0 ≤ _), (by decide : 3 + 0 ≤ _)⟩)
                dsimp only [Pt.U, Pt.locs, Pt.cells, Pt.slots] at X278 l278 y278 z278 st278 hQ278
                subst l278 y278 z278
                obtain ⟨rfl, N278q, K278, p278_0, p278_1, p278_2, p278_3⟩ := hQ278
                have N278 := Fr.app N276 N278q
                have Zs_278 : n0 ≤ T278.heap.size := Nat.le_trans Zs_273 K278.1
                refine GoW.sg (mkF m 236 (Sh9 q1 q2 q3 1 1 b7 b11 b14 1 20000 20000) [(.long 0)]) (fun t k => st278.trans k) ?_
                refine GoW.sg (mkF m 238 (Sh10 q1 q2 q3 1 1 b7 b11 b14 1 20000 20000 0) []) (fun t k => XS.lstore X278.here hx rfl (hb hby at_236) rfl (l' := (Sh10 q1 q2 q3 1 1 b7 b11 b14 1 20000 20000 0)) rfl k) ?_
                refine GoW.sg (mkF m 239 (Sh10 q1 q2 q3 1 1 b7 b11 b14 1 20000 20000 0) [(.long q2)]) (fun t k => XS.lloadN X278.here hx rfl (hb hby at_238) rfl k) ?_
                refine GoW.sg (mkF m 242 (Sh10 q1 q2 q3 1 1 b7 b11 b14 1 20000 20000 0) [(.long 20000), (.long q2)]) (fun t k => X278.ldc2Long hx hown (mvT hZ (ww hw 21 rfl)) (g := (mkF m 239 (Sh10 q1 q2 q3 1 1 b7 b11 b14 1 20000 20000 0) [(.long q2)])) rfl (hb hby at_239) t k) ?_
                refine GoW.sg (mkF m 243 (Sh10 q1 q2 q3 1 1 b7 b11 b14 1 20000 20000 0) [(.int (lcmpW q2 (20000 : Int64)))]) (fun t k => XS.lcmp X278.here hx rfl (hb hby at_242) rfl k) ?_
                refine GoW.sg (mkF m 250 (Sh10 q1 q2 q3 1 1 b7 b11 b14 1 20000 20000 0) []) (fun t k => XS.ifYes X278.here hx rfl (pc0 := 243) (pc' := 250) rfl (hb hby at_243) rfl ((if0 _ _).trans (tlt ((lw_gt _ _).mpr c277)).2.2.1) (by decide) (by decide) k) ?_
                refine GoW.sg (mkF m 251 (Sh10 q1 q2 q3 1 1 b7 b11 b14 1 20000 20000 0) [(.long 0)]) (fun t k => XS.lconst X278.here hx rfl (hb hby at_250) k) ?_
                refine GoW.sg (mkF m 253 (Sh11 q1 q2 q3 1 1 b7 b11 b14 1 20000 20000 0 0) []) (fun t k => XS.lstore X278.here hx rfl (hb hby at_251) rfl (l' := (Sh11 q1 q2 q3 1 1 b7 b11 b14 1 20000 20000 0 0)) rfl k) ?_
                refine GoW.sg (mkF m 255 (Sh11 q1 q2 q3 1 1 b7 b11 b14 1 20000 20000 0 0) [(.int 1)]) (fun t k => XS.iload X278.here hx rfl (hb hby at_253) rfl k) ?_
                refine GoW.sg (mkF m 258 (Sh11 q1 q2 q3 1 1 b7 b11 b14 1 20000 20000 0 0) []) (fun t k => XS.ifNo X278.here hx rfl (hb hby at_255) rfl (by decide) k) ?_
                refine GoW.sg (mkF m 260 (Sh11 q1 q2 q3 1 1 b7 b11 b14 1 20000 20000 0 0) [(.long 0)]) (fun t k => XS.lload X278.here hx rfl (hb hby at_258) rfl k) ?_
                refine GoW.sg (mkF m 262 (Sh11 q1 q2 q3 1 1 b7 b11 b14 1 20000 20000 0 0) [(.long 0), (.long 0)]) (fun t k => XS.lload X278.here hx rfl (hb hby at_260) rfl k) ?_
                refine GoW.sg (mkF m 263 (Sh11 q1 q2 q3 1 1 b7 b11 b14 1 20000 20000 0 0) [(.int (lcmpW (0 : Int64) (0 : Int64)))]) (fun t k => XS.lcmp X278.here hx rfl (hb hby at_262) rfl k) ?_
                refine GoW.sg (mkF m 266 (Sh11 q1 q2 q3 1 1 b7 b11 b14 1 20000 20000 0 0) []) (fun t k => XS.ifNo X278.here hx rfl (hb hby at_263) rfl (by decide) k) ?_
                refine GoW.sg (mkF m 267 (Sh11 q1 q2 q3 1 1 b7 b11 b14 1 20000 20000 0 0) [(.int 1)]) (fun t k => XS.iconst X278.here hx rfl (hb hby at_266) k) ?_
                refine GoW.sg (mkF m 271 (Sh11 q1 q2 q3 1 1 b7 b11 b14 1 20000 20000 0 0) [(.int 1)]) (fun t k => XS.goto X278.here hx rfl (pc0 := 267) (pc' := 271) rfl (hb hby at_267) (by decide) (by decide) k) ?_
                refine GoW.sg (mkF m 273 (Sh11 q1 q2 q3 1 1 b7 b11 b14 1 20000 20000 0 0) []) (fun t k => XS.istore X278.here hx rfl (hb hby at_271) rfl (l' := (Sh11 q1 q2 q3 1 1 b7 b11 b14 1 20000 20000 0 0)) rfl k) ?_
                refine GoW.sg (mkF m 275 (Sh11 q1 q2 q3 1 1 b7 b11 b14 1 20000 20000 0 0) [(.int 1)]) (fun t k => XS.iload X278.here hx rfl (hb hby at_273) rfl k) ?_
                refine GoW.sg (mkF m 278 (Sh11 q1 q2 q3 1 1 b7 b11 b14 1 20000 20000 0 0) []) (fun t k => XS.ifNo X278.here hx rfl (hb hby at_275) rfl (by decide) k) ?_
                refine GoW.sg (mkF m 280 (Sh11 q1 q2 q3 1 1 b7 b11 b14 1 20000 20000 0 0) [(.ref b14)]) (fun t k => XS.aload X278.here hx rfl (hb hby at_278) rfl rfl k) ?_
                refine GoW.sg (mkF m 281 (Sh11 q1 q2 q3 1 1 b7 b11 b14 1 20000 20000 0 0) [(.long 0), (.ref b14)]) (fun t k => XS.lconst X278.here hx rfl (hb hby at_280) k) ?_
                obtain ⟨cq279, kq279, q279a, q279b, q279c⟩ := isOf hZ rfl p278_0
                obtain ⟨_, _, ⟨T279, L279, k279, n279⟩, -, X279, ⟨Lc279, hQ279, l279, y279, z279⟩, st279⟩ := X278.virtualBack hx (y := (⟨"com/example/spindle/spindle/SpinRule", "timesWait", "(J)Z"⟩ : MethodName)) (z := (⟨"com/example/spindle/spindle/SpinRule", "timesWait", "(J)Z"⟩ : MethodName)) hown (mvT hZ (ww hw 22 rfl)) (mvT hZ (ww hw 23 rfl)) (notFace_of_selects (args := #[]) (mvT hZ (ww hw 25 rfl))) (mvT hZ (ww hw 25 rfl)) (mvT hZ (ww hw 24 rfl)) (by decide) (backOf (W := 0) (rm4_24 l Z a0 hw [] b14  T278.heap n0  p278_0 p278_1 p278_2 p278_3    ) hZ (ww hw 26 rfl) (ww hw 2 rfl) (by decide) (by decide)) q279a q279c (g := (mkF m 281 (Sh11 q1 q2 q3 1 1 b7 b11 b14 1 20000 20000 0 0) [(.long 0), (.ref b14)])) rfl (by rw [hml]; rfl) (Steps.refl _) (argsL := [(.long (0 : Int64))]) (rest := []) (lenOf pd_28J29Z rfl) rfl (by show 2 * 0 + _ ≤ _; exact Nat.le_of_eq rfl) (hb hby at_281) (fun _ _ => ⟨rfl, rfl, (by decide : 1 + 0 ≤ _), (by decide : 3 + 0 ≤ _)⟩)
                dsimp only [Pt.U, Pt.locs, Pt.cells, Pt.slots] at X279 l279 y279 z279 st279 hQ279
                subst l279 y279 z279
                obtain ⟨rfl, N279q, e279⟩ := hQ279
                have N279 := Fr.app N278 N279q
                refine GoW.sg (mkF m 284 (Sh11 q1 q2 q3 1 1 b7 b11 b14 1 20000 20000 0 0) [(.int 0)]) (fun t k => st279.trans k) ?_
                refine GoW.sg (mkF m 287 (Sh11 q1 q2 q3 1 1 b7 b11 b14 1 20000 20000 0 0) []) (fun t k => XS.ifNo X279.here hx rfl (hb hby at_284) rfl (by decide) k) ?_
                refine GoW.sg (mkF m 288 (Sh11 q1 q2 q3 1 1 b7 b11 b14 1 20000 20000 0 0) [(.int 1)]) (fun t k => XS.iconst X279.here hx rfl (hb hby at_287) k) ?_
                refine GoW.sg (mkF m 292 (Sh11 q1 q2 q3 1 1 b7 b11 b14 1 20000 20000 0 0) [(.int 1)]) (fun t k => XS.goto X279.here hx rfl (pc0 := 288) (pc' := 292) rfl (hb hby at_288) (by decide) (by decide) k) ?_
                refine GoW.sg (mkF m 294 (Sh11 q1 q2 q3 1 1 b7 b11 b14 1 20000 20000 0 0) []) (fun t k => XS.istore X279.here hx rfl (hb hby at_292) rfl (l' := (Sh11 q1 q2 q3 1 1 b7 b11 b14 1 20000 20000 0 0)) rfl k) ?_
                refine GoW.sg (mkF m 296 (Sh11 q1 q2 q3 1 1 b7 b11 b14 1 20000 20000 0 0) [(.int 1)]) (fun t k => XS.iload X279.here hx rfl (hb hby at_294) rfl k) ?_
                refine GoW.retN X279 hx (t := .boolean) Bd.returns (by simp) (hb hby at_296) Bd.notSynchronized ?_ (by decide) (by decide)
                exact ⟨rfl, N279⟩
              · show GoW p e below s (ValQ (.int (1 : Int32)) n0) room_1.cells room_1.slots (T276.setTop (mkF m 230 (Sh9 q1 q2 q3 1 1 b7 b11 b14 1 20000 20000) []))
                refine GoW.sg (mkF m 232 (Sh9 q1 q2 q3 1 1 b7 b11 b14 1 20000 20000) [(.ref b14)]) (fun t k => XS.aload X276.here hx rfl (hb hby at_230) rfl rfl k) ?_
                refine GoW.sg (mkF m 233 (Sh9 q1 q2 q3 1 1 b7 b11 b14 1 20000 20000) [(.long q2), (.ref b14)]) (fun t k => XS.lloadN X276.here hx rfl (hb hby at_232) rfl k) ?_
                obtain ⟨cq280, kq280, q280a, q280b, q280c⟩ := isOf hZ e276 p273_0
                obtain ⟨_, _, ⟨T280, L280, k280, n280⟩, -, X280, ⟨Lc280, hQ280, l280, y280, z280⟩, st280⟩ := X276.virtualBack hx (y := (⟨"com/example/spindle/spindle/SpinRule", "spinNanos", "(J)J"⟩ : MethodName)) (z := (⟨"com/example/spindle/spindle/SpinRule", "spinNanos", "(J)J"⟩ : MethodName)) hown (mvT hZ (ww hw 11 rfl)) (mvT hZ (ww hw 12 rfl)) (notFace_of_selects (args := #[]) (mvT hZ (ww hw 14 rfl))) (mvT hZ (ww hw 14 rfl)) (mvT hZ (ww hw 13 rfl)) (by decide) (backOf (W := 0) (rm3_27 l Z a0 hw [] b14 q2  T273.heap n0  p273_0 p273_1 p273_2 p273_3 g_b14  c277 ) hZ (ww hw 15 rfl) (ww hw 2 rfl) (by decide) (by decide)) q280a q280c (g := (mkF m 233 (Sh9 q1 q2 q3 1 1 b7 b11 b14 1 20000 20000) [(.long q2), (.ref b14)])) rfl (by rw [hml]; rfl) (Steps.refl _) (argsL := [(.long q2)]) (rest := []) (lenOf pd_28J29J rfl) rfl (by show 2 * 0 + _ ≤ _; exact Nat.le_of_eq rfl) (hb hby at_233) (fun _ _ => ⟨rfl, e276, (by decide : 1 + 0 ≤ _), (by decide : 3 + 0 ≤ _)⟩)
                dsimp only [Pt.U, Pt.locs, Pt.cells, Pt.slots] at X280 l280 y280 z280 st280 hQ280
                subst l280 y280 z280
                obtain ⟨rfl, N280q, K280, p280_0, p280_1, p280_2, p280_3⟩ := hQ280
                have N280 := Fr.app N276 N280q
                have Zs_280 : n0 ≤ T280.heap.size := Nat.le_trans Zs_273 K280.1
                refine GoW.sg (mkF m 236 (Sh9 q1 q2 q3 1 1 b7 b11 b14 1 20000 20000) [(.long q2)]) (fun t k => st280.trans k) ?_
                refine GoW.sg (mkF m 238 (Sh10 q1 q2 q3 1 1 b7 b11 b14 1 20000 20000 q2) []) (fun t k => XS.lstore X280.here hx rfl (hb hby at_236) rfl (l' := (Sh10 q1 q2 q3 1 1 b7 b11 b14 1 20000 20000 q2)) rfl k) ?_
                refine GoW.sg (mkF m 239 (Sh10 q1 q2 q3 1 1 b7 b11 b14 1 20000 20000 q2) [(.long q2)]) (fun t k => XS.lloadN X280.here hx rfl (hb hby at_238) rfl k) ?_
                refine GoW.sg (mkF m 242 (Sh10 q1 q2 q3 1 1 b7 b11 b14 1 20000 20000 q2) [(.long 20000), (.long q2)]) (fun t k => X280.ldc2Long hx hown (mvT hZ (ww hw 21 rfl)) (g := (mkF m 239 (Sh10 q1 q2 q3 1 1 b7 b11 b14 1 20000 20000 q2) [(.long q2)])) rfl (hb hby at_239) t k) ?_
                refine GoW.sg (mkF m 243 (Sh10 q1 q2 q3 1 1 b7 b11 b14 1 20000 20000 q2) [(.int (lcmpW q2 (20000 : Int64)))]) (fun t k => XS.lcmp X280.here hx rfl (hb hby at_242) rfl k) ?_
                refine GoW.sg (mkF m 246 (Sh10 q1 q2 q3 1 1 b7 b11 b14 1 20000 20000 q2) []) (fun t k => XS.ifNo X280.here hx rfl (hb hby at_243) rfl ((if0 _ _).trans (flt (mt (lw_gt _ _).mp c277)).2.2.1) k) ?_
                refine GoW.sg (mkF m 247 (Sh10 q1 q2 q3 1 1 b7 b11 b14 1 20000 20000 q2) [(.long q2)]) (fun t k => XS.lloadN X280.here hx rfl (hb hby at_246) rfl k) ?_
                refine GoW.sg (mkF m 251 (Sh10 q1 q2 q3 1 1 b7 b11 b14 1 20000 20000 q2) [(.long q2)]) (fun t k => XS.goto X280.here hx rfl (pc0 := 247) (pc' := 251) rfl (hb hby at_247) (by decide) (by decide) k) ?_
                refine GoW.sg (mkF m 253 (Sh11 q1 q2 q3 1 1 b7 b11 b14 1 20000 20000 q2 q2) []) (fun t k => XS.lstore X280.here hx rfl (hb hby at_251) rfl (l' := (Sh11 q1 q2 q3 1 1 b7 b11 b14 1 20000 20000 q2 q2)) rfl k) ?_
                refine GoW.sg (mkF m 255 (Sh11 q1 q2 q3 1 1 b7 b11 b14 1 20000 20000 q2 q2) [(.int 1)]) (fun t k => XS.iload X280.here hx rfl (hb hby at_253) rfl k) ?_
                refine GoW.sg (mkF m 258 (Sh11 q1 q2 q3 1 1 b7 b11 b14 1 20000 20000 q2 q2) []) (fun t k => XS.ifNo X280.here hx rfl (hb hby at_255) rfl (by decide) k) ?_
                refine GoW.sg (mkF m 260 (Sh11 q1 q2 q3 1 1 b7 b11 b14 1 20000 20000 q2 q2) [(.long q2)]) (fun t k => XS.lload X280.here hx rfl (hb hby at_258) rfl k) ?_
                refine GoW.sg (mkF m 262 (Sh11 q1 q2 q3 1 1 b7 b11 b14 1 20000 20000 q2 q2) [(.long q2), (.long q2)]) (fun t k => XS.lload X280.here hx rfl (hb hby at_260) rfl k) ?_
                refine GoW.sg (mkF m 263 (Sh11 q1 q2 q3 1 1 b7 b11 b14 1 20000 20000 q2 q2) [(.int (lcmpW q2 q2))]) (fun t k => XS.lcmp X280.here hx rfl (hb hby at_262) rfl k) ?_
                refine GoW.sg (mkF m 266 (Sh11 q1 q2 q3 1 1 b7 b11 b14 1 20000 20000 q2 q2) []) (fun t k => XS.ifNo X280.here hx rfl (hb hby at_263) rfl ((if0 _ _).trans (teq ((lw_eq _ _).mpr rfl)).2) k) ?_
                refine GoW.sg (mkF m 267 (Sh11 q1 q2 q3 1 1 b7 b11 b14 1 20000 20000 q2 q2) [(.int 1)]) (fun t k => XS.iconst X280.here hx rfl (hb hby at_266) k) ?_
                refine GoW.sg (mkF m 271 (Sh11 q1 q2 q3 1 1 b7 b11 b14 1 20000 20000 q2 q2) [(.int 1)]) (fun t k => XS.goto X280.here hx rfl (pc0 := 267) (pc' := 271) rfl (hb hby at_267) (by decide) (by decide) k) ?_
                refine GoW.sg (mkF m 273 (Sh11 q1 q2 q3 1 1 b7 b11 b14 1 20000 20000 q2 q2) []) (fun t k => XS.istore X280.here hx rfl (hb hby at_271) rfl (l' := (Sh11 q1 q2 q3 1 1 b7 b11 b14 1 20000 20000 q2 q2)) rfl k) ?_
                refine GoW.sg (mkF m 275 (Sh11 q1 q2 q3 1 1 b7 b11 b14 1 20000 20000 q2 q2) [(.int 1)]) (fun t k => XS.iload X280.here hx rfl (hb hby at_273) rfl k) ?_
                refine GoW.sg (mkF m 278 (Sh11 q1 q2 q3 1 1 b7 b11 b14 1 20000 20000 q2 q2) []) (fun t k => XS.ifNo X280.here hx rfl (hb hby at_275) rfl (by decide) k) ?_
                refine GoW.sg (mkF m 280 (Sh11 q1 q2 q3 1 1 b7 b11 b14 1 20000 20000 q2 q2) [(.ref b14)]) (fun t k => XS.aload X280.here hx rfl (hb hby at_278) rfl rfl k) ?_
                refine GoW.sg (mkF m 281 (Sh11 q1 q2 q3 1 1 b7 b11 b14 1 20000 20000 q2 q2) [(.long 0), (.ref b14)]) (fun t k => XS.lconst X280.here hx rfl (hb hby at_280) k) ?_
                obtain ⟨cq281, kq281, q281a, q281b, q281c⟩ := isOf hZ rfl p280_0
                obtain ⟨_, _, ⟨T281, L281, k281, n281⟩, -, X281, ⟨Lc281, hQ281, l281, y281, z281⟩, st281⟩ := X280.virtualBack hx (y := (⟨"com/example/spindle/spindle/SpinRule", "timesWait", "(J)Z"⟩ : MethodName)) (z := (⟨"com/example/spindle/spindle/SpinRule", "timesWait", "(J)Z"⟩ : MethodName)) hown (mvT hZ (ww hw 22 rfl)) (mvT hZ (ww hw 23 rfl)) (notFace_of_selects (args := #[]) (mvT hZ (ww hw 25 rfl))) (mvT hZ (ww hw 25 rfl)) (mvT hZ (ww hw 24 rfl)) (by decide) (backOf (W := 0) (rm4_24 l Z a0 hw [] b14  T280.heap n0  p280_0 p280_1 p280_2 p280_3    ) hZ (ww hw 26 rfl) (ww hw 2 rfl) (by decide) (by decide)) q281a q281c (g := (mkF m 281 (Sh11 q1 q2 q3 1 1 b7 b11 b14 1 20000 20000 q2 q2) [(.long 0), (.ref b14)])) rfl (by rw [hml]; rfl) (Steps.refl _) (argsL := [(.long (0 : Int64))]) (rest := []) (lenOf pd_28J29Z rfl) rfl (by show 2 * 0 + _ ≤ _; exact Nat.le_of_eq rfl) (hb hby at_281) (fun _ _ => ⟨rfl, rfl, (by decide : 1 + 0 ≤ _), (by decide : 3 + 0 ≤ _)⟩)
                dsimp only [Pt.U, Pt.locs, Pt.cells, Pt.slots] at X281 l281 y281 z281 st281 hQ281
                subst l281 y281 z281
                obtain ⟨rfl, N281q, e281⟩ := hQ281
                have N281 := Fr.app N280 N281q
                refine GoW.sg (mkF m 284 (Sh11 q1 q2 q3 1 1 b7 b11 b14 1 20000 20000 q2 q2) [(.int 0)]) (fun t k => st281.trans k) ?_
                refine GoW.sg (mkF m 287 (Sh11 q1 q2 q3 1 1 b7 b11 b14 1 20000 20000 q2 q2) []) (fun t k => XS.ifNo X281.here hx rfl (hb hby at_284) rfl (by decide) k) ?_
                refine GoW.sg (mkF m 288 (Sh11 q1 q2 q3 1 1 b7 b11 b14 1 20000 20000 q2 q2) [(.int 1)]) (fun t k => XS.iconst X281.here hx rfl (hb hby at_287) k) ?_
                refine GoW.sg (mkF m 292 (Sh11 q1 q2 q3 1 1 b7 b11 b14 1 20000 20000 q2 q2) [(.int 1)]) (fun t k => XS.goto X281.here hx rfl (pc0 := 288) (pc' := 292) rfl (hb hby at_288) (by decide) (by decide) k) ?_
                refine GoW.sg (mkF m 294 (Sh11 q1 q2 q3 1 1 b7 b11 b14 1 20000 20000 q2 q2) []) (fun t k => XS.istore X281.here hx rfl (hb hby at_292) rfl (l' := (Sh11 q1 q2 q3 1 1 b7 b11 b14 1 20000 20000 q2 q2)) rfl k) ?_
                refine GoW.sg (mkF m 296 (Sh11 q1 q2 q3 1 1 b7 b11 b14 1 20000 20000 q2 q2) [(.int 1)]) (fun t k => XS.iload X281.here hx rfl (hb hby at_294) rfl k) ?_
                refine GoW.retN X281 hx (t := .boolean) Bd.returns (by simp) (hb hby at_296) Bd.notSynchronized ?_ (by decide) (by decide)
                exact ⟨rfl, N281⟩
            · show GoW p e below s (ValQ (.int (1 : Int32)) n0) room_1.cells room_1.slots (T261.setTop (mkF m 140 (Sh8 q1 q2 q3 1 1 b7 b11 b14 1 20000) []))
              refine GoW.sg (mkF m 142 (Sh8 q1 q2 q3 1 1 b7 b11 b14 1 20000) [(.ref b14)]) (fun t k => XS.aload X261.here hx rfl (hb hby at_140) rfl rfl k) ?_
              refine GoW.sg (mkF m 144 (Sh8 q1 q2 q3 1 1 b7 b11 b14 1 20000) [(.long b11), (.ref b14)]) (fun t k => XS.lload X261.here hx rfl (hb hby at_142) rfl k) ?_
              obtain ⟨cq288, kq288, q288a, q288b, q288c⟩ := isOf hZ rfl p261_0
              obtain ⟨_, _, ⟨T288, L288, k288, n288⟩, -, X288, ⟨Lc288, hQ288, l288, y288, z288⟩, st288⟩ := X261.virtualBack hx (y := (⟨"com/example/spindle/spindle/SpinRule", "spinNanos", "(J)J"⟩ : MethodName)) (z := (⟨"com/example/spindle/spindle/SpinRule", "spinNanos", "(J)J"⟩ : MethodName)) hown (mvT hZ (ww hw 11 rfl)) (mvT hZ (ww hw 12 rfl)) (notFace_of_selects (args := #[]) (mvT hZ (ww hw 14 rfl))) (mvT hZ (ww hw 14 rfl)) (mvT hZ (ww hw 13 rfl)) (by decide) (backOf (W := 0) (rm3_31 l Z a0 hw [] b14 b11  T261.heap n0  p261_0 p261_1 p261_2 p261_3 g_b14  c262 ) hZ (ww hw 15 rfl) (ww hw 2 rfl) (by decide) (by decide)) q288a q288c (g := (mkF m 144 (Sh8 q1 q2 q3 1 1 b7 b11 b14 1 20000) [(.long b11), (.ref b14)])) rfl (by rw [hml]; rfl) (Steps.refl _) (argsL := [(.long b11)]) (rest := []) (lenOf pd_28J29J rfl) rfl (by show 2 * 0 + _ ≤ _; exact Nat.le_of_eq rfl) (hb hby at_144) (fun _ _ => ⟨rfl, rfl, (by decide : 1 + 0 ≤ _), (by decide : 3 + 0 ≤ _)⟩)
              dsimp only [Pt.U, Pt.locs, Pt.cells, Pt.slots] at X288 l288 y288 z288 st288 hQ288
              subst l288 y288 z288
              obtain ⟨rfl, N288q, K288, p288_0, p288_1, p288_2, p288_3⟩ := hQ288
              have N288 := Fr.app N261 N288q
              have Zs_288 : n0 ≤ T288.heap.size := Nat.le_trans Zs_261 K288.1
              refine GoW.sg (mkF m 147 (Sh8 q1 q2 q3 1 1 b7 b11 b14 1 20000) [(.long b11)]) (fun t k => st288.trans k) ?_
              refine GoW.sg (mkF m 149 (Sh8 q1 q2 q3 1 1 b7 b11 b14 1 b11) []) (fun t k => XS.lstore X288.here hx rfl (hb hby at_147) rfl (l' := (Sh8 q1 q2 q3 1 1 b7 b11 b14 1 b11)) rfl k) ?_
              refine GoW.sg (mkF m 151 (Sh8 q1 q2 q3 1 1 b7 b11 b14 1 b11) [(.long b11)]) (fun t k => XS.lload X288.here hx rfl (hb hby at_149) rfl k) ?_
              refine GoW.sg (mkF m 154 (Sh8 q1 q2 q3 1 1 b7 b11 b14 1 b11) [(.long 20000), (.long b11)]) (fun t k => X288.ldc2Long hx hown (mvT hZ (ww hw 21 rfl)) (g := (mkF m 151 (Sh8 q1 q2 q3 1 1 b7 b11 b14 1 b11) [(.long b11)])) rfl (hb hby at_151) t k) ?_
              refine GoW.sg (mkF m 155 (Sh8 q1 q2 q3 1 1 b7 b11 b14 1 b11) [(.int (lcmpW b11 (20000 : Int64)))]) (fun t k => XS.lcmp X288.here hx rfl (hb hby at_154) rfl k) ?_
              refine GoW.sg (mkF m 158 (Sh8 q1 q2 q3 1 1 b7 b11 b14 1 b11) []) (fun t k => XS.ifNo X288.here hx rfl (hb hby at_155) rfl ((if0 _ _).trans (flt (mt (lw_gt _ _).mp c262)).2.2.1) k) ?_
              refine GoW.sg (mkF m 160 (Sh8 q1 q2 q3 1 1 b7 b11 b14 1 b11) [(.long b11)]) (fun t k => XS.lload X288.here hx rfl (hb hby at_158) rfl k) ?_
              refine GoW.sg (mkF m 162 (Sh9 q1 q2 q3 1 1 b7 b11 b14 1 b11 b11) []) (fun t k => XS.lstore X288.here hx rfl (hb hby at_160) rfl (l' := (Sh9 q1 q2 q3 1 1 b7 b11 b14 1 b11 b11)) rfl k) ?_
              refine GoW.sg (mkF m 187 (Sh9 q1 q2 q3 1 1 b7 b11 b14 1 b11 b11) []) (fun t k => XS.goto X288.here hx rfl (pc0 := 162) (pc' := 187) rfl (hb hby at_162) (by decide) (by decide) k) ?_
              refine GoW.sg (mkF m 189 (Sh9 q1 q2 q3 1 1 b7 b11 b14 1 b11 b11) [(.int 1)]) (fun t k => XS.iload X288.here hx rfl (hb hby at_187) rfl k) ?_
              refine GoW.sg (mkF m 192 (Sh9 q1 q2 q3 1 1 b7 b11 b14 1 b11 b11) []) (fun t k => XS.ifNo X288.here hx rfl (hb hby at_189) rfl (by decide) k) ?_
              refine GoW.sg (mkF m 194 (Sh9 q1 q2 q3 1 1 b7 b11 b14 1 b11 b11) [(.long b11)]) (fun t k => XS.lload X288.here hx rfl (hb hby at_192) rfl k) ?_
              refine GoW.sg (mkF m 196 (Sh9 q1 q2 q3 1 1 b7 b11 b14 1 b11 b11) [(.long b11), (.long b11)]) (fun t k => XS.lload X288.here hx rfl (hb hby at_194) rfl k) ?_
              refine GoW.sg (mkF m 197 (Sh9 q1 q2 q3 1 1 b7 b11 b14 1 b11 b11) [(.int (lcmpW b11 b11))]) (fun t k => XS.lcmp X288.here hx rfl (hb hby at_196) rfl k) ?_
              refine GoW.sg (mkF m 200 (Sh9 q1 q2 q3 1 1 b7 b11 b14 1 b11 b11) []) (fun t k => XS.ifNo X288.here hx rfl (hb hby at_197) rfl ((if0 _ _).trans (teq ((lw_eq _ _).mpr rfl)).2) k) ?_
              refine GoW.sg (mkF m 201 (Sh9 q1 q2 q3 1 1 b7 b11 b14 1 b11 b11) [(.int 1)]) (fun t k => XS.iconst X288.here hx rfl (hb hby at_200) k) ?_
              refine GoW.sg (mkF m 205 (Sh9 q1 q2 q3 1 1 b7 b11 b14 1 b11 b11) [(.int 1)]) (fun t k => XS.goto X288.here hx rfl (pc0 := 201) (pc' := 205) rfl (hb hby at_201) (by decide) (by decide) k) ?_
              refine GoW.sg (mkF m 207 (Sh9 q1 q2 q3 1 1 b7 b11 b14 1 b11 b11) []) (fun t k => XS.istore X288.here hx rfl (hb hby at_205) rfl (l' := (Sh9 q1 q2 q3 1 1 b7 b11 b14 1 b11 b11)) rfl k) ?_
              refine GoW.sg (mkF m 209 (Sh9 q1 q2 q3 1 1 b7 b11 b14 1 b11 b11) [(.int 1)]) (fun t k => XS.iload X288.here hx rfl (hb hby at_207) rfl k) ?_
              refine GoW.sg (mkF m 212 (Sh9 q1 q2 q3 1 1 b7 b11 b14 1 b11 b11) []) (fun t k => XS.ifNo X288.here hx rfl (hb hby at_209) rfl (by decide) k) ?_
              refine GoW.sg (mkF m 214 (Sh9 q1 q2 q3 1 1 b7 b11 b14 1 b11 b11) [(.ref b14)]) (fun t k => XS.aload X288.here hx rfl (hb hby at_212) rfl rfl k) ?_
              refine GoW.sg (mkF m 215 (Sh9 q1 q2 q3 1 1 b7 b11 b14 1 b11 b11) [(.long 0), (.ref b14)]) (fun t k => XS.lconst X288.here hx rfl (hb hby at_214) k) ?_
              obtain ⟨cq289, kq289, q289a, q289b, q289c⟩ := isOf hZ rfl p288_0
              obtain ⟨_, _, ⟨T289, L289, k289, n289⟩, -, X289, ⟨Lc289, hQ289, l289, y289, z289⟩, st289⟩ := X288.virtualBack hx (y := (⟨"com/example/spindle/spindle/SpinRule", "timesWait", "(J)Z"⟩ : MethodName)) (z := (⟨"com/example/spindle/spindle/SpinRule", "timesWait", "(J)Z"⟩ : MethodName)) hown (mvT hZ (ww hw 22 rfl)) (mvT hZ (ww hw 23 rfl)) (notFace_of_selects (args := #[]) (mvT hZ (ww hw 25 rfl))) (mvT hZ (ww hw 25 rfl)) (mvT hZ (ww hw 24 rfl)) (by decide) (backOf (W := 0) (rm4_30 l Z a0 hw [] b14  T288.heap n0  p288_0 p288_1 p288_2 p288_3    ) hZ (ww hw 26 rfl) (ww hw 2 rfl) (by decide) (by decide)) q289a q289c (g := (mkF m 215 (Sh9 q1 q2 q3 1 1 b7 b11 b14 1 b11 b11) [(.long 0), (.ref b14)])) rfl (by rw [hml]; rfl) (Steps.refl _) (argsL := [(.long (0 : Int64))]) (rest := []) (lenOf pd_28J29Z rfl) rfl (by show 2 * 0 + _ ≤ _; exact Nat.le_of_eq rfl) (hb hby at_215) (fun _ _ => ⟨rfl, rfl, (by decide : 1 + 0 ≤ _), (by decide : 3 + 0 ≤ _)⟩)
              dsimp only [Pt.U, Pt.locs, Pt.cells, Pt.slots] at X289 l289 y289 z289 st289 hQ289
              subst l289 y289 z289
              obtain ⟨rfl, N289q, e289⟩ := hQ289
              have N289 := Fr.app N288 N289q
              refine GoW.sg (mkF m 218 (Sh9 q1 q2 q3 1 1 b7 b11 b14 1 b11 b11) [(.int 1)]) (fun t k => st289.trans k) ?_
              refine GoW.sg (mkF m 220 (Sh9 q1 q2 q3 1 1 b7 b11 b14 1 b11 b11) [(.int 1), (.int 1)]) (fun t k => XS.iload X289.here hx rfl (hb hby at_218) rfl k) ?_
              refine GoW.sg (mkF m 223 (Sh9 q1 q2 q3 1 1 b7 b11 b14 1 b11 b11) []) (fun t k => XS.icmpNo X289.here hx rfl (hb hby at_220) rfl (by decide) k) ?_
              refine GoW.sg (mkF m 224 (Sh9 q1 q2 q3 1 1 b7 b11 b14 1 b11 b11) [(.int 1)]) (fun t k => XS.iconst X289.here hx rfl (hb hby at_223) k) ?_
              refine GoW.sg (mkF m 228 (Sh9 q1 q2 q3 1 1 b7 b11 b14 1 b11 b11) [(.int 1)]) (fun t k => XS.goto X289.here hx rfl (pc0 := 224) (pc' := 228) rfl (hb hby at_224) (by decide) (by decide) k) ?_
              refine GoW.sg (mkF m 230 (Sh9 q1 q2 q3 1 1 b7 b11 b14 1 b11 b11) []) (fun t k => XS.istore X289.here hx rfl (hb hby at_228) rfl (l' := (Sh9 q1 q2 q3 1 1 b7 b11 b14 1 b11 b11)) rfl k) ?_
              by_cases c290 : (20000 : Int64) < q2
              · show GoW p e below s (ValQ (.int (1 : Int32)) n0) room_1.cells room_1.slots (T289.setTop (mkF m 230 (Sh9 q1 q2 q3 1 1 b7 b11 b14 1 b11 b11) []))
                refine GoW.sg (mkF m 232 (Sh9 q1 q2 q3 1 1 b7 b11 b14 1 b11 b11) [(.ref b14)]) (fun t k => XS.aload X289.here hx rfl (hb hby at_230) rfl rfl k) ?_
                refine GoW.sg (mkF m 233 (Sh9 q1 q2 q3 1 1 b7 b11 b14 1 b11 b11) [(.long q2), (.ref b14)]) (fun t k => XS.lloadN X289.here hx rfl (hb hby at_232) rfl k) ?_
                obtain ⟨cq291, kq291, q291a, q291b, q291c⟩ := isOf hZ e289 p288_0
                obtain ⟨_, _, ⟨T291, L291, k291, n291⟩, -, X291, ⟨Lc291, hQ291, l291, y291, z291⟩, st291⟩ := X289.virtualBack hx (y := (⟨"com/example/spindle/spindle/SpinRule", "spinNanos", "(J)J"⟩ : MethodName)) (z := (⟨"com/example/spindle/spindle/SpinRule", "spinNanos", "(J)J"⟩ : MethodName)) hown (mvT hZ (ww hw 11 rfl)) (mvT hZ (ww hw 12 rfl)) (notFace_of_selects (args := #[]) (mvT hZ (ww hw 14 rfl))) (mvT hZ (ww hw 14 rfl)) (mvT hZ (ww hw 13 rfl)) (by decide) (backOf (W := 0) (rm3_23 l Z a0 hw [] b14 q2  T288.heap n0  p288_0 p288_1 p288_2 p288_3 g_b14  c290 ) hZ (ww hw 15 rfl) (ww hw 2 rfl) (by decide) (by decide)) q291a q291c (g := (mkF m 233 (Sh9 q1 q2 q3 1 1 b7 b11 b14 1 b11 b11) [(.long q2), (.ref b14)])) rfl (by rw [hml]; rfl) (Steps.refl _) (argsL := [(.long q2)]) (rest := []) (lenOf pd_28J29J rfl) rfl (by show 2 * 0 + _ ≤ _; exact Nat.le_of_eq rfl) (hb hby at_233) (fun _ _ => ⟨rfl, e289, (by decide : 1 + 0 ≤ _), (by decide : 3 + 0 ≤ _)⟩)
                dsimp only [Pt.U, Pt.locs, Pt.cells, Pt.slots] at X291 l291 y291 z291 st291 hQ291
                subst l291 y291 z291
                obtain ⟨rfl, N291q, K291, p291_0, p291_1, p291_2, p291_3⟩ := hQ291
                have N291 := Fr.app N289 N291q
                have Zs_291 : n0 ≤ T291.heap.size := Nat.le_trans Zs_288 K291.1
                refine GoW.sg (mkF m 236 (Sh9 q1 q2 q3 1 1 b7 b11 b14 1 b11 b11) [(.long 0)]) (fun t k => st291.trans k) ?_
                refine GoW.sg (mkF m 238 (Sh10 q1 q2 q3 1 1 b7 b11 b14 1 b11 b11 0) []) (fun t k => XS.lstore X291.here hx rfl (hb hby at_236) rfl (l' := (Sh10 q1 q2 q3 1 1 b7 b11 b14 1 b11 b11 0)) rfl k) ?_
                refine GoW.sg (mkF m 239 (Sh10 q1 q2 q3 1 1 b7 b11 b14 1 b11 b11 0) [(.long q2)]) (fun t k => XS.lloadN X291.here hx rfl (hb hby at_238) rfl k) ?_
                refine GoW.sg (mkF m 242 (Sh10 q1 q2 q3 1 1 b7 b11 b14 1 b11 b11 0) [(.long 20000), (.long q2)]) (fun t k => X291.ldc2Long hx hown (mvT hZ (ww hw 21 rfl)) (g := (mkF m 239 (Sh10 q1 q2 q3 1 1 b7 b11 b14 1 b11 b11 0) [(.long q2)])) rfl (hb hby at_239) t k) ?_
                refine GoW.sg (mkF m 243 (Sh10 q1 q2 q3 1 1 b7 b11 b14 1 b11 b11 0) [(.int (lcmpW q2 (20000 : Int64)))]) (fun t k => XS.lcmp X291.here hx rfl (hb hby at_242) rfl k) ?_
                refine GoW.sg (mkF m 250 (Sh10 q1 q2 q3 1 1 b7 b11 b14 1 b11 b11 0) []) (fun t k => XS.ifYes X291.here hx rfl (pc0 := 243) (pc' := 250) rfl (hb hby at_243) rfl ((if0 _ _).trans (tlt ((lw_gt _ _).mpr c290)).2.2.1) (by decide) (by decide) k) ?_
                refine GoW.sg (mkF m 251 (Sh10 q1 q2 q3 1 1 b7 b11 b14 1 b11 b11 0) [(.long 0)]) (fun t k => XS.lconst X291.here hx rfl (hb hby at_250) k) ?_
                refine GoW.sg (mkF m 253 (Sh11 q1 q2 q3 1 1 b7 b11 b14 1 b11 b11 0 0) []) (fun t k => XS.lstore X291.here hx rfl (hb hby at_251) rfl (l' := (Sh11 q1 q2 q3 1 1 b7 b11 b14 1 b11 b11 0 0)) rfl k) ?_
                refine GoW.sg (mkF m 255 (Sh11 q1 q2 q3 1 1 b7 b11 b14 1 b11 b11 0 0) [(.int 1)]) (fun t k => XS.iload X291.here hx rfl (hb hby at_253) rfl k) ?_
                refine GoW.sg (mkF m 258 (Sh11 q1 q2 q3 1 1 b7 b11 b14 1 b11 b11 0 0) []) (fun t k => XS.ifNo X291.here hx rfl (hb hby at_255) rfl (by decide) k) ?_
                refine GoW.sg (mkF m 260 (Sh11 q1 q2 q3 1 1 b7 b11 b14 1 b11 b11 0 0) [(.long 0)]) (fun t k => XS.lload X291.here hx rfl (hb hby at_258) rfl k) ?_
                refine GoW.sg (mkF m 262 (Sh11 q1 q2 q3 1 1 b7 b11 b14 1 b11 b11 0 0) [(.long 0), (.long 0)]) (fun t k => XS.lload X291.here hx rfl (hb hby at_260) rfl k) ?_
                refine GoW.sg (mkF m 263 (Sh11 q1 q2 q3 1 1 b7 b11 b14 1 b11 b11 0 0) [(.int (lcmpW (0 : Int64) (0 : Int64)))]) (fun t k => XS.lcmp X291.here hx rfl (hb hby at_262) rfl k) ?_
                refine GoW.sg (mkF m 266 (Sh11 q1 q2 q3 1 1 b7 b11 b14 1 b11 b11 0 0) []) (fun t k => XS.ifNo X291.here hx rfl (hb hby at_263) rfl (by decide) k) ?_
                refine GoW.sg (mkF m 267 (Sh11 q1 q2 q3 1 1 b7 b11 b14 1 b11 b11 0 0) [(.int 1)]) (fun t k => XS.iconst X291.here hx rfl (hb hby at_266) k) ?_
                refine GoW.sg (mkF m 271 (Sh11 q1 q2 q3 1 1 b7 b11 b14 1 b11 b11 0 0) [(.int 1)]) (fun t k => XS.goto X291.here hx rfl (pc0 := 267) (pc' := 271) rfl (hb hby at_267) (by decide) (by decide) k) ?_
                refine GoW.sg (mkF m 273 (Sh11 q1 q2 q3 1 1 b7 b11 b14 1 b11 b11 0 0) []) (fun t k => XS.istore X291.here hx rfl (hb hby at_271) rfl (l' := (Sh11 q1 q2 q3 1 1 b7 b11 b14 1 b11 b11 0 0)) rfl k) ?_
                refine GoW.sg (mkF m 275 (Sh11 q1 q2 q3 1 1 b7 b11 b14 1 b11 b11 0 0) [(.int 1)]) (fun t k => XS.iload X291.here hx rfl (hb hby at_273) rfl k) ?_
                refine GoW.sg (mkF m 278 (Sh11 q1 q2 q3 1 1 b7 b11 b14 1 b11 b11 0 0) []) (fun t k => XS.ifNo X291.here hx rfl (hb hby at_275) rfl (by decide) k) ?_
                refine GoW.sg (mkF m 280 (Sh11 q1 q2 q3 1 1 b7 b11 b14 1 b11 b11 0 0) [(.ref b14)]) (fun t k => XS.aload X291.here hx rfl (hb hby at_278) rfl rfl k) ?_
                refine GoW.sg (mkF m 281 (Sh11 q1 q2 q3 1 1 b7 b11 b14 1 b11 b11 0 0) [(.long 0), (.ref b14)]) (fun t k => XS.lconst X291.here hx rfl (hb hby at_280) k) ?_
                obtain ⟨cq292, kq292, q292a, q292b, q292c⟩ := isOf hZ rfl p291_0
                obtain ⟨_, _, ⟨T292, L292, k292, n292⟩, -, X292, ⟨Lc292, hQ292, l292, y292, z292⟩, st292⟩ := X291.virtualBack hx (y := (⟨"com/example/spindle/spindle/SpinRule", "timesWait", "(J)Z"⟩ : MethodName)) (z := (⟨"com/example/spindle/spindle/SpinRule", "timesWait", "(J)Z"⟩ : MethodName)) hown (mvT hZ (ww hw 22 rfl)) (mvT hZ (ww hw 23 rfl)) (notFace_of_selects (args := #[]) (mvT hZ (ww hw 25 rfl))) (mvT hZ (ww hw 25 rfl)) (mvT hZ (ww hw 24 rfl)) (by decide) (backOf (W := 0) (rm4_24 l Z a0 hw [] b14  T291.heap n0  p291_0 p291_1 p291_2 p291_3    ) hZ (ww hw 26 rfl) (ww hw 2 rfl) (by decide) (by decide)) q292a q292c (g := (mkF m 281 (Sh11 q1 q2 q3 1 1 b7 b11 b14 1 b11 b11 0 0) [(.long 0), (.ref b14)])) rfl (by rw [hml]; rfl) (Steps.refl _) (argsL := [(.long (0 : Int64))]) (rest := []) (lenOf pd_28J29Z rfl) rfl (by show 2 * 0 + _ ≤ _; exact Nat.le_of_eq rfl) (hb hby at_281) (fun _ _ => ⟨rfl, rfl, (by decide : 1 + 0 ≤ _), (by decide : 3 + 0 ≤ _)⟩)
                dsimp only [Pt.U, Pt.locs, Pt.cells, Pt.slots] at X292 l292 y292 z292 st292 hQ292
                subst l292 y292 z292
                obtain ⟨rfl, N292q, e292⟩ := hQ292
                have N292 := Fr.app N291 N292q
                refine GoW.sg (mkF m 284 (Sh11 q1 q2 q3 1 1 b7 b11 b14 1 b11 b11 0 0) [(.int 0)]) (fun t k => st292.trans k) ?_
                refine GoW.sg (mkF m 287 (Sh11 q1 q2 q3 1 1 b7 b11 b14 1 b11 b11 0 0) []) (fun t k => XS.ifNo X292.here hx rfl (hb hby at_284) rfl (by decide) k) ?_
                refine GoW.sg (mkF m 288 (Sh11 q1 q2 q3 1 1 b7 b11 b14 1 b11 b11 0 0) [(.int 1)]) (fun t k => XS.iconst X292.here hx rfl (hb hby at_287) k) ?_
                refine GoW.sg (mkF m 292 (Sh11 q1 q2 q3 1 1 b7 b11 b14 1 b11 b11 0 0) [(.int 1)]) (fun t k => XS.goto X292.here hx rfl (pc0 := 288) (pc' := 292) rfl (hb hby at_288) (by decide) (by decide) k) ?_
                refine GoW.sg (mkF m 294 (Sh11 q1 q2 q3 1 1 b7 b11 b14 1 b11 b11 0 0) []) (fun t k => XS.istore X292.here hx rfl (hb hby at_292) rfl (l' := (Sh11 q1 q2 q3 1 1 b7 b11 b14 1 b11 b11 0 0)) rfl k) ?_
                refine GoW.sg (mkF m 296 (Sh11 q1 q2 q3 1 1 b7 b11 b14 1 b11 b11 0 0) [(.int 1)]) (fun t k => XS.iload X292.here hx rfl (hb hby at_294) rfl k) ?_
                refine GoW.retN X292 hx (t := .boolean) Bd.returns (by simp) (hb hby at_296) Bd.notSynchronized ?_ (by decide) (by decide)
                exact ⟨rfl, N292⟩
              · show GoW p e below s (ValQ (.int (1 : Int32)) n0) room_1.cells room_1.slots (T289.setTop (mkF m 230 (Sh9 q1 q2 q3 1 1 b7 b11 b14 1 b11 b11) []))
                refine GoW.sg (mkF m 232 (Sh9 q1 q2 q3 1 1 b7 b11 b14 1 b11 b11) [(.ref b14)]) (fun t k => XS.aload X289.here hx rfl (hb hby at_230) rfl rfl k) ?_
                refine GoW.sg (mkF m 233 (Sh9 q1 q2 q3 1 1 b7 b11 b14 1 b11 b11) [(.long q2), (.ref b14)]) (fun t k => XS.lloadN X289.here hx rfl (hb hby at_232) rfl k) ?_
                obtain ⟨cq293, kq293, q293a, q293b, q293c⟩ := isOf hZ e289 p288_0
                obtain ⟨_, _, ⟨T293, L293, k293, n293⟩, -, X293, ⟨Lc293, hQ293, l293, y293, z293⟩, st293⟩ := X289.virtualBack hx (y := (⟨"com/example/spindle/spindle/SpinRule", "spinNanos", "(J)J"⟩ : MethodName)) (z := (⟨"com/example/spindle/spindle/SpinRule", "spinNanos", "(J)J"⟩ : MethodName)) hown (mvT hZ (ww hw 11 rfl)) (mvT hZ (ww hw 12 rfl)) (notFace_of_selects (args := #[]) (mvT hZ (ww hw 14 rfl))) (mvT hZ (ww hw 14 rfl)) (mvT hZ (ww hw 13 rfl)) (by decide) (backOf (W := 0) (rm3_27 l Z a0 hw [] b14 q2  T288.heap n0  p288_0 p288_1 p288_2 p288_3 g_b14  c290 ) hZ (ww hw 15 rfl) (ww hw 2 rfl) (by decide) (by decide)) q293a q293c (g := (mkF m 233 (Sh9 q1 q2 q3 1 1 b7 b11 b14 1 b11 b11) [(.long q2), (.ref b14)])) rfl (by rw [hml]; rfl) (Steps.refl _) (argsL := [(.long q2)]) (rest := []) (lenOf pd_28J29J rfl) rfl (by show 2 * 0 + _ ≤ _; exact Nat.le_of_eq rfl) (hb hby at_233) (fun _ _ => ⟨rfl, e289, (by decide : 1 + 0 ≤ _), (by decide : 3 + 0 ≤ _)⟩)
                dsimp only [Pt.U, Pt.locs, Pt.cells, Pt.slots] at X293 l293 y293 z293 st293 hQ293
                subst l293 y293 z293
                obtain ⟨rfl, N293q, K293, p293_0, p293_1, p293_2, p293_3⟩ := hQ293
                have N293 := Fr.app N289 N293q
                have Zs_293 : n0 ≤ T293.heap.size := Nat.le_trans Zs_288 K293.1
                refine GoW.sg (mkF m 236 (Sh9 q1 q2 q3 1 1 b7 b11 b14 1 b11 b11) [(.long q2)]) (fun t k => st293.trans k) ?_
                refine GoW.sg (mkF m 238 (Sh10 q1 q2 q3 1 1 b7 b11 b14 1 b11 b11 q2) []) (fun t k => XS.lstore X293.here hx rfl (hb hby at_236) rfl (l' := (Sh10 q1 q2 q3 1 1 b7 b11 b14 1 b11 b11 q2)) rfl k) ?_
                refine GoW.sg (mkF m 239 (Sh10 q1 q2 q3 1 1 b7 b11 b14 1 b11 b11 q2) [(.long q2)]) (fun t k => XS.lloadN X293.here hx rfl (hb hby at_238) rfl k) ?_
                refine GoW.sg (mkF m 242 (Sh10 q1 q2 q3 1 1 b7 b11 b14 1 b11 b11 q2) [(.long 20000), (.long q2)]) (fun t k => X293.ldc2Long hx hown (mvT hZ (ww hw 21 rfl)) (g := (mkF m 239 (Sh10 q1 q2 q3 1 1 b7 b11 b14 1 b11 b11 q2) [(.long q2)])) rfl (hb hby at_239) t k) ?_
                refine GoW.sg (mkF m 243 (Sh10 q1 q2 q3 1 1 b7 b11 b14 1 b11 b11 q2) [(.int (lcmpW q2 (20000 : Int64)))]) (fun t k => XS.lcmp X293.here hx rfl (hb hby at_242) rfl k) ?_
                refine GoW.sg (mkF m 246 (Sh10 q1 q2 q3 1 1 b7 b11 b14 1 b11 b11 q2) []) (fun t k => XS.ifNo X293.here hx rfl (hb hby at_243) rfl ((if0 _ _).trans (flt (mt (lw_gt _ _).mp c290)).2.2.1) k) ?_
                refine GoW.sg (mkF m 247 (Sh10 q1 q2 q3 1 1 b7 b11 b14 1 b11 b11 q2) [(.long q2)]) (fun t k => XS.lloadN X293.here hx rfl (hb hby at_246) rfl k) ?_
                refine GoW.sg (mkF m 251 (Sh10 q1 q2 q3 1 1 b7 b11 b14 1 b11 b11 q2) [(.long q2)]) (fun t k => XS.goto X293.here hx rfl (pc0 := 247) (pc' := 251) rfl (hb hby at_247) (by decide) (by decide) k) ?_
                refine GoW.sg (mkF m 253 (Sh11 q1 q2 q3 1 1 b7 b11 b14 1 b11 b11 q2 q2) []) (fun t k => XS.lstore X293.here hx rfl (hb hby at_251) rfl (l' := (Sh11 q1 q2 q3 1 1 b7 b11 b14 1 b11 b11 q2 q2)) rfl k) ?_
                refine GoW.sg (mkF m 255 (Sh11 q1 q2 q3 1 1 b7 b11 b14 1 b11 b11 q2 q2) [(.int 1)]) (fun t k => XS.iload X293.here hx rfl (hb hby at_253) rfl k) ?_
                refine GoW.sg (mkF m 258 (Sh11 q1 q2 q3 1 1 b7 b11 b14 1 b11 b11 q2 q2) []) (fun t k => XS.ifNo X293.here hx rfl (hb hby at_255) rfl (by decide) k) ?_
                refine GoW.sg (mkF m 260 (Sh11 q1 q2 q3 1 1 b7 b11 b14 1 b11 b11 q2 q2) [(.long q2)]) (fun t k => XS.lload X293.here hx rfl (hb hby at_258) rfl k) ?_
                refine GoW.sg (mkF m 262 (Sh11 q1 q2 q3 1 1 b7 b11 b14 1 b11 b11 q2 q2) [(.long q2), (.long q2)]) (fun t k => XS.lload X293.here hx rfl (hb hby at_260) rfl k) ?_
                refine GoW.sg (mkF m 263 (Sh11 q1 q2 q3 1 1 b7 b11 b14 1 b11 b11 q2 q2) [(.int (lcmpW q2 q2))]) (fun t k => XS.lcmp X293.here hx rfl (hb hby at_262) rfl k) ?_
                refine GoW.sg (mkF m 266 (Sh11 q1 q2 q3 1 1 b7 b11 b14 1 b11 b11 q2 q2) []) (fun t k => XS.ifNo X293.here hx rfl (hb hby at_263) rfl ((if0 _ _).trans (teq ((lw_eq _ _).mpr rfl)).2) k) ?_
                refine GoW.sg (mkF m 267 (Sh11 q1 q2 q3 1 1 b7 b11 b14 1 b11 b11 q2 q2) [(.int 1)]) (fun t k => XS.iconst X293.here hx rfl (hb hby at_266) k) ?_
                refine GoW.sg (mkF m 271 (Sh11 q1 q2 q3 1 1 b7 b11 b14 1 b11 b11 q2 q2) [(.int 1)]) (fun t k => XS.goto X293.here hx rfl (pc0 := 267) (pc' := 271) rfl (hb hby at_267) (by decide) (by decide) k) ?_
                refine GoW.sg (mkF m 273 (Sh11 q1 q2 q3 1 1 b7 b11 b14 1 b11 b11 q2 q2) []) (fun t k => XS.istore X293.here hx rfl (hb hby at_271) rfl (l' := (Sh11 q1 q2 q3 1 1 b7 b11 b14 1 b11 b11 q2 q2)) rfl k) ?_
                refine GoW.sg (mkF m 275 (Sh11 q1 q2 q3 1 1 b7 b11 b14 1 b11 b11 q2 q2) [(.int 1)]) (fun t k => XS.iload X293.here hx rfl (hb hby at_273) rfl k) ?_
                refine GoW.sg (mkF m 278 (Sh11 q1 q2 q3 1 1 b7 b11 b14 1 b11 b11 q2 q2) []) (fun t k => XS.ifNo X293.here hx rfl (hb hby at_275) rfl (by decide) k) ?_
                refine GoW.sg (mkF m 280 (Sh11 q1 q2 q3 1 1 b7 b11 b14 1 b11 b11 q2 q2) [(.ref b14)]) (fun t k => XS.aload X293.here hx rfl (hb hby at_278) rfl rfl k) ?_
                refine GoW.sg (mkF m 281 (Sh11 q1 q2 q3 1 1 b7 b11 b14 1 b11 b11 q2 q2) [(.long 0), (.ref b14)]) (fun t k => XS.lconst X293.here hx rfl (hb hby at_280) k) ?_
                obtain ⟨cq294, kq294, q294a, q294b, q294c⟩ := isOf hZ rfl p293_0
                obtain ⟨_, _, ⟨T294, L294, k294, n294⟩, -, X294, ⟨Lc294, hQ294, l294, y294, z294⟩, st294⟩ := X293.virtualBack hx (y := (⟨"com/example/spindle/spindle/SpinRule", "timesWait", "(J)Z"⟩ : MethodName)) (z := (⟨"com/example/spindle/spindle/SpinRule", "timesWait", "(J)Z"⟩ : MethodName)) hown (mvT hZ (ww hw 22 rfl)) (mvT hZ (ww hw 23 rfl)) (notFace_of_selects (args := #[]) (mvT hZ (ww hw 25 rfl))) (mvT hZ (ww hw 25 rfl)) (mvT hZ (ww hw 24 rfl)) (by decide) (backOf (W := 0) (rm4_24 l Z a0 hw [] b14  T293.heap n0  p293_0 p293_1 p293_2 p293_3    ) hZ (ww hw 26 rfl) (ww hw 2 rfl) (by decide) (by decide)) q294a q294c (g := (mkF m 281 (Sh11 q1 q2 q3 1 1 b7 b11 b14 1 b11 b11 q2 q2) [(.long 0), (.ref b14)])) rfl (by rw [hml]; rfl) (Steps.refl _) (argsL := [(.long (0 : Int64))]) (rest := []) (lenOf pd_28J29Z rfl) rfl (by show 2 * 0 + _ ≤ _; exact Nat.le_of_eq rfl) (hb hby at_281) (fun _ _ => ⟨rfl, rfl, (by decide : 1 + 0 ≤ _), (by decide : 3 + 0 ≤ _)⟩)
                dsimp only [Pt.U, Pt.locs, Pt.cells, Pt.slots] at X294 l294 y294 z294 st294 hQ294
                subst l294 y294 z294
                obtain ⟨rfl, N294q, e294⟩ := hQ294
                have N294 := Fr.app N293 N294q
                refine GoW.sg (mkF m 284 (Sh11 q1 q2 q3 1 1 b7 b11 b14 1 b11 b11 q2 q2) [(.int 0)]) (fun t k => st294.trans k) ?_
                refine GoW.sg (mkF m 287 (Sh11 q1 q2 q3 1 1 b7 b11 b14 1 b11 b11 q2 q2) []) (fun t k => XS.ifNo X294.here hx rfl (hb hby at_284) rfl (by decide) k) ?_
                refine GoW.sg (mkF m 288 (Sh11 q1 q2 q3 1 1 b7 b11 b14 1 b11 b11 q2 q2) [(.int 1)]) (fun t k => XS.iconst X294.here hx rfl (hb hby at_287) k) ?_
                refine GoW.sg (mkF m 292 (Sh11 q1 q2 q3 1 1 b7 b11 b14 1 b11 b11 q2 q2) [(.int 1)]) (fun t k => XS.goto X294.here hx rfl (pc0 := 288) (pc' := 292) rfl (hb hby at_288) (by decide) (by decide) k) ?_
                refine GoW.sg (mkF m 294 (Sh11 q1 q2 q3 1 1 b7 b11 b14 1 b11 b11 q2 q2) []) (fun t k => XS.istore X294.here hx rfl (hb hby at_292) rfl (l' := (Sh11 q1 q2 q3 1 1 b7 b11 b14 1 b11 b11 q2 q2)) rfl k) ?_
                refine GoW.sg (mkF m 296 (Sh11 q1 q2 q3 1 1 b7 b11 b14 1 b11 b11 q2 q2) [(.int 1)]) (fun t k => XS.iload X294.here hx rfl (hb hby at_294) rfl k) ?_
                refine GoW.retN X294 hx (t := .boolean) Bd.returns (by simp) (hb hby at_296) Bd.notSynchronized ?_ (by decide) (by decide)
                exact ⟨rfl, N294⟩
        · subst cc
          show GoW p e below s (ValQ (.int (1 : Int32)) n0) room_1.cells room_1.slots (T19.setTop (mkF m 69 (Sh6 q1 q2 q3 b2 2 b7 b11 b14 1) []))
          refine GoW.sg (mkF m 71 (Sh6 q1 q2 q3 b2 2 b7 b11 b14 1) [(.int 2)]) (fun t k => XS.iload X19.here hx rfl (hb hby at_69) rfl k) ?_
          refine GoW.sg (mkF m 72 (Sh6 q1 q2 q3 b2 2 b7 b11 b14 1) [(.int 1), (.int 2)]) (fun t k => XS.iconst X19.here hx rfl (hb hby at_71) k) ?_
          refine GoW.sg (mkF m 75 (Sh6 q1 q2 q3 b2 2 b7 b11 b14 1) []) (fun t k => XS.icmpNo X19.here hx rfl (hb hby at_72) rfl (by decide) k) ?_
          refine GoW.sg (mkF m 77 (Sh6 q1 q2 q3 b2 2 b7 b11 b14 1) [(.ref b14)]) (fun t k => XS.aload X19.here hx rfl (hb hby at_75) rfl rfl k) ?_
          obtain ⟨cq295, kq295, q295a, q295b, q295c⟩ := isOf hZ rfl p19_0
          obtain ⟨_, _, ⟨T295, L295, k295, n295⟩, -, X295, ⟨Lc295, hQ295, l295, y295, z295⟩, st295⟩ := X19.virtualBack hx (y := (⟨"com/example/spindle/spindle/SpinRule", "handedOn", "()V"⟩ : MethodName)) (z := (⟨"com/example/spindle/spindle/SpinRule", "handedOn", "()V"⟩ : MethodName)) hown (mvT hZ (ww hw 27 rfl)) (mvT hZ (ww hw 28 rfl)) (notFace_of_selects (args := #[]) (mvT hZ (ww hw 30 rfl))) (mvT hZ (ww hw 30 rfl)) (mvT hZ (ww hw 29 rfl)) (by decide) (backOf (W := 0) (rm5_5 l Z a0 hw [] b14  T19.heap n0  p19_0 p19_1 p19_2 p19_3 g_b14   ) hZ (ww hw 31 rfl) (ww hw 2 rfl) (by decide) (by decide)) q295a q295c (g := (mkF m 77 (Sh6 q1 q2 q3 b2 2 b7 b11 b14 1) [(.ref b14)])) rfl (by rw [hml]; rfl) (Steps.refl _) (argsL := []) (rest := []) (lenOf pd_2829V rfl) rfl (by show 2 * 0 + _ ≤ _; exact Nat.le_of_eq rfl) (hb hby at_77) (fun _ _ => ⟨rfl, rfl, (by decide : 1 + 0 ≤ _), (by decide : 3 + 0 ≤ _)⟩)
          dsimp only [Pt.U, Pt.locs, Pt.cells, Pt.slots] at X295 l295 y295 z295 st295 hQ295
          subst l295 y295 z295
          obtain ⟨rfl, N295q, K295, p295_0, p295_1, p295_2, p295_3⟩ := hQ295
          have N295 := Fr.app N19 N295q
          have Zs_295 : n0 ≤ T295.heap.size := Nat.le_trans Zs_19 K295.1
          refine GoW.sg (mkF m 80 (Sh6 q1 q2 q3 b2 2 b7 b11 b14 1) []) (fun t k => st295.trans k) ?_
          refine GoW.sg (mkF m 82 (Sh6 q1 q2 q3 b2 2 b7 b11 b14 1) [(.ref b14)]) (fun t k => XS.aload X295.here hx rfl (hb hby at_80) rfl rfl k) ?_
          refine GoW.sg (mkF m 85 (Sh6 q1 q2 q3 b2 2 b7 b11 b14 1) [(.long 9223372036854775807), (.ref b14)]) (fun t k => X295.ldc2Long hx hown (mvT hZ (ww hw 32 rfl)) (g := (mkF m 82 (Sh6 q1 q2 q3 b2 2 b7 b11 b14 1) [(.ref b14)])) rfl (hb hby at_82) t k) ?_
          obtain ⟨cq296, kq296, q296a, q296b, q296c⟩ := isOf hZ rfl p295_0
          obtain ⟨_, _, ⟨T296, L296, k296, n296⟩, -, X296, ⟨Lc296, hQ296, l296, y296, z296⟩, st296⟩ := X295.virtualBack hx (y := (⟨"com/example/spindle/spindle/SpinRule", "spinNanos", "(J)J"⟩ : MethodName)) (z := (⟨"com/example/spindle/spindle/SpinRule", "spinNanos", "(J)J"⟩ : MethodName)) hown (mvT hZ (ww hw 11 rfl)) (mvT hZ (ww hw 12 rfl)) (notFace_of_selects (args := #[]) (mvT hZ (ww hw 14 rfl))) (mvT hZ (ww hw 14 rfl)) (mvT hZ (ww hw 13 rfl)) (by decide) (backOf (W := 0) (rm3_11 l Z a0 hw [] b14  T295.heap n0  p295_0 p295_1 p295_2 p295_3 g_b14   ) hZ (ww hw 15 rfl) (ww hw 2 rfl) (by decide) (by decide)) q296a q296c (g := (mkF m 85 (Sh6 q1 q2 q3 b2 2 b7 b11 b14 1) [(.long 9223372036854775807), (.ref b14)])) rfl (by rw [hml]; rfl) (Steps.refl _) (argsL := [(.long (9223372036854775807 : Int64))]) (rest := []) (lenOf pd_28J29J rfl) rfl (by show 2 * 0 + _ ≤ _; exact Nat.le_of_eq rfl) (hb hby at_85) (fun _ _ => ⟨rfl, rfl, (by decide : 1 + 0 ≤ _), (by decide : 3 + 0 ≤ _)⟩)
          dsimp only [Pt.U, Pt.locs, Pt.cells, Pt.slots] at X296 l296 y296 z296 st296 hQ296
          subst l296 y296 z296
          obtain ⟨rfl, N296q, K296, p296_0, p296_1, p296_2, p296_3⟩ := hQ296
          have N296 := Fr.app N295 N296q
          have Zs_296 : n0 ≤ T296.heap.size := Nat.le_trans Zs_295 K296.1
          refine GoW.sg (mkF m 88 (Sh6 q1 q2 q3 b2 2 b7 b11 b14 1) [(.long 20000)]) (fun t k => st296.trans k) ?_
          refine GoW.sg (mkF m 90 (Sh8 q1 q2 q3 b2 2 b7 b11 b14 1 20000) []) (fun t k => XS.lstore X296.here hx rfl (hb hby at_88) rfl (l' := (Sh8 q1 q2 q3 b2 2 b7 b11 b14 1 20000)) rfl k) ?_
          refine GoW.sg (mkF m 92 (Sh8 q1 q2 q3 b2 2 b7 b11 b14 1 20000) [(.int 1)]) (fun t k => XS.iload X296.here hx rfl (hb hby at_90) rfl k) ?_
          refine GoW.sg (mkF m 95 (Sh8 q1 q2 q3 b2 2 b7 b11 b14 1 20000) []) (fun t k => XS.ifNo X296.here hx rfl (hb hby at_92) rfl (by decide) k) ?_
          refine GoW.sg (mkF m 97 (Sh8 q1 q2 q3 b2 2 b7 b11 b14 1 20000) [(.long 20000)]) (fun t k => XS.lload X296.here hx rfl (hb hby at_95) rfl k) ?_
          refine GoW.sg (mkF m 100 (Sh8 q1 q2 q3 b2 2 b7 b11 b14 1 20000) [(.long 20000), (.long 20000)]) (fun t k => X296.ldc2Long hx hown (mvT hZ (ww hw 21 rfl)) (g := (mkF m 97 (Sh8 q1 q2 q3 b2 2 b7 b11 b14 1 20000) [(.long 20000)])) rfl (hb hby at_97) t k) ?_
          refine GoW.sg (mkF m 101 (Sh8 q1 q2 q3 b2 2 b7 b11 b14 1 20000) [(.int (lcmpW (20000 : Int64) (20000 : Int64)))]) (fun t k => XS.lcmp X296.here hx rfl (hb hby at_100) rfl k) ?_
          refine GoW.sg (mkF m 104 (Sh8 q1 q2 q3 b2 2 b7 b11 b14 1 20000) []) (fun t k => XS.ifNo X296.here hx rfl (hb hby at_101) rfl (by decide) k) ?_
          refine GoW.sg (mkF m 105 (Sh8 q1 q2 q3 b2 2 b7 b11 b14 1 20000) [(.int 1)]) (fun t k => XS.iconst X296.here hx rfl (hb hby at_104) k) ?_
          refine GoW.sg (mkF m 109 (Sh8 q1 q2 q3 b2 2 b7 b11 b14 1 20000) [(.int 1)]) (fun t k => XS.goto X296.here hx rfl (pc0 := 105) (pc' := 109) rfl (hb hby at_105) (by decide) (by decide) k) ?_
          refine GoW.sg (mkF m 111 (Sh8 q1 q2 q3 b2 2 b7 b11 b14 1 20000) []) (fun t k => XS.istore X296.here hx rfl (hb hby at_109) rfl (l' := (Sh8 q1 q2 q3 b2 2 b7 b11 b14 1 20000)) rfl k) ?_
          refine GoW.sg (mkF m 113 (Sh8 q1 q2 q3 b2 2 b7 b11 b14 1 20000) [(.ref b14)]) (fun t k => XS.aload X296.here hx rfl (hb hby at_111) rfl rfl k) ?_
          obtain ⟨_, _, ⟨T297, L297, k297, n297⟩, -, X297, ⟨Lc297, hQ297, l297, y297, z297⟩, st297⟩ := Jvm.LawKit.callS X296 hx (y := (⟨"com/example/spindle/spindle/SpinRuleSpinNanosPinLaw", "tenMisses", "(Lcom/example/spindle/spindle/SpinRule;)V"⟩ : MethodName)) hown (mvT hZ (ww hw 34 rfl)) (mvT hZ (ww hw 35 rfl)) (mvT hZ (ww hw 36 rfl)) (mvT hZ (ww hw 37 rfl)) (by decide) (backOf (W := 0) (rm6_22 l Z a0 hw [] b14  T296.heap n0  p296_0 p296_1 p296_2 p296_3 g_b14   ) hZ (ww hw 37 rfl) (ww hw 36 rfl) (by decide) (by decide)) (g := (mkF m 113 (Sh8 q1 q2 q3 b2 2 b7 b11 b14 1 20000) [(.ref b14)])) rfl (by rw [hml]; rfl) (argsL := [(.ref b14)]) (rest := []) (lenOf pd_28Lcom2fexample2fspindle2fspindle2fSpinRule3b29V rfl) rfl (by show 2 * 0 + _ ≤ _; exact Nat.le_of_eq rfl) (hb hby at_113) (fun _ _ => ⟨rfl, rfl, (by decide : 1 + 0 ≤ _), (by decide : 3 + 0 ≤ _)⟩)
          dsimp only [Pt.U, Pt.locs, Pt.cells, Pt.slots] at X297 l297 y297 z297 st297 hQ297
          subst l297 y297 z297
          obtain ⟨rfl, N297q, K297, p297_0, p297_1, p297_2, p297_3⟩ := hQ297
          have N297 := Fr.app N296 N297q
          have Zs_297 : n0 ≤ T297.heap.size := Nat.le_trans Zs_296 K297.1
          refine GoW.sg (mkF m 116 (Sh8 q1 q2 q3 b2 2 b7 b11 b14 1 20000) []) (fun t k => st297 t k) ?_
          refine GoW.sg (mkF m 118 (Sh8 q1 q2 q3 b2 2 b7 b11 b14 1 20000) [(.int 2)]) (fun t k => XS.iload X297.here hx rfl (hb hby at_116) rfl k) ?_
          refine GoW.sg (mkF m 119 (Sh8 q1 q2 q3 b2 2 b7 b11 b14 1 20000) [(.int 2), (.int 2)]) (fun t k => XS.iconst X297.here hx rfl (hb hby at_118) k) ?_
          refine GoW.sg (mkF m 122 (Sh8 q1 q2 q3 b2 2 b7 b11 b14 1 20000) []) (fun t k => XS.icmpNo X297.here hx rfl (hb hby at_119) rfl (by decide) k) ?_
          refine GoW.sg (mkF m 124 (Sh8 q1 q2 q3 b2 2 b7 b11 b14 1 20000) [(.ref b14)]) (fun t k => XS.aload X297.here hx rfl (hb hby at_122) rfl rfl k) ?_
          refine GoW.sg (mkF m 125 (Sh8 q1 q2 q3 b2 2 b7 b11 b14 1 20000) [(.int 1), (.ref b14)]) (fun t k => XS.iconst X297.here hx rfl (hb hby at_124) k) ?_
          refine GoW.sg (mkF m 126 (Sh8 q1 q2 q3 b2 2 b7 b11 b14 1 20000) [(.int 0), (.int 1), (.ref b14)]) (fun t k => XS.iconst X297.here hx rfl (hb hby at_125) k) ?_
          refine GoW.sg (mkF m 127 (Sh8 q1 q2 q3 b2 2 b7 b11 b14 1 20000) [(.long 0), (.int 0), (.int 1), (.ref b14)]) (fun t k => XS.lconst X297.here hx rfl (hb hby at_126) k) ?_
          obtain ⟨cq306, kq306, q306a, q306b, q306c⟩ := isOf hZ rfl p297_0
          obtain ⟨_, _, ⟨T306, L306, k306, n306⟩, -, X306, ⟨Lc306, hQ306, l306, y306, z306⟩, st306⟩ := X297.virtualBack hx (y := (⟨"com/example/spindle/spindle/SpinRule", "countWait", "(ZZJ)V"⟩ : MethodName)) (z := (⟨"com/example/spindle/spindle/SpinRule", "countWait", "(ZZJ)V"⟩ : MethodName)) hown (mvT hZ (ww hw 38 rfl)) (mvT hZ (ww hw 39 rfl)) (notFace_of_selects (args := #[]) (mvT hZ (ww hw 41 rfl))) (mvT hZ (ww hw 41 rfl)) (mvT hZ (ww hw 40 rfl)) (by decide) (backOf (W := 0) (rm7_32 l Z a0 hw [] b14  T297.heap n0  p297_0 p297_1 p297_2 p297_3 g_b14   ) hZ (ww hw 42 rfl) (ww hw 2 rfl) (by decide) (by decide)) q306a q306c (g := (mkF m 127 (Sh8 q1 q2 q3 b2 2 b7 b11 b14 1 20000) [(.long 0), (.int 0), (.int 1), (.ref b14)])) rfl (by rw [hml]; rfl) (Steps.refl _) (argsL := [(.int (1 : Int32)), (.int (0 : Int32)), (.long (0 : Int64))]) (rest := []) (lenOf pd_28ZZJ29V rfl) rfl (by show 2 * 0 + _ ≤ _; exact Nat.le_of_eq rfl) (hb hby at_127) (fun _ _ => ⟨rfl, rfl, (by decide : 1 + 0 ≤ _), (by decide : 3 + 0 ≤ _)⟩)
          dsimp only [Pt.U, Pt.locs, Pt.cells, Pt.slots] at X306 l306 y306 z306 st306 hQ306
          subst l306 y306 z306
          obtain ⟨rfl, N306q, K306, p306_0, p306_1, p306_2, p306_3⟩ := hQ306
          have N306 := Fr.app N297 N306q
          have Zs_306 : n0 ≤ T306.heap.size := Nat.le_trans Zs_297 K306.1
          refine GoW.sg (mkF m 130 (Sh8 q1 q2 q3 b2 2 b7 b11 b14 1 20000) []) (fun t k => st306.trans k) ?_
          rcases own_01 hb2 with cc | cc
          · subst cc
            show GoW p e below s (ValQ (.int (1 : Int32)) n0) room_1.cells room_1.slots (T306.setTop (mkF m 130 (Sh8 q1 q2 q3 0 2 b7 b11 b14 1 20000) []))
            refine GoW.sg (mkF m 132 (Sh8 q1 q2 q3 0 2 b7 b11 b14 1 20000) [(.int 0)]) (fun t k => XS.iload X306.here hx rfl (hb hby at_130) rfl k) ?_
            refine GoW.sg (mkF m 140 (Sh8 q1 q2 q3 0 2 b7 b11 b14 1 20000) []) (fun t k => XS.ifYes X306.here hx rfl (pc0 := 132) (pc' := 140) rfl (hb hby at_132) rfl (by decide) (by decide) (by decide) k) ?_
            by_cases c307 : (20000 : Int64) < b11
            · show GoW p e below s (ValQ (.int (1 : Int32)) n0) room_1.cells room_1.slots (T306.setTop (mkF m 140 (Sh8 q1 q2 q3 0 2 b7 b11 b14 1 20000) []))
              refine GoW.sg (mkF m 142 (Sh8 q1 q2 q3 0 2 b7 b11 b14 1 20000) [(.ref b14)]) (fun t k => XS.aload X306.here hx rfl (hb hby at_140) rfl rfl k) ?_
              refine GoW.sg (mkF m 144 (Sh8 q1 q2 q3 0 2 b7 b11 b14 1 20000) [(.long b11), (.ref b14)]) (fun t k => XS.lload X306.here hx rfl (hb hby at_142) rfl k) ?_
              obtain ⟨cq316, kq316, q316a, q316b, q316c⟩ := isOf hZ rfl p306_0
              obtain ⟨_, _, ⟨T316, L316, k316, n316⟩, -, X316, ⟨Lc316, hQ316, l316, y316, z316⟩, st316⟩ := X306.virtualBack hx (y := (⟨"com/example/spindle/spindle/SpinRule", "spinNanos", "(J)J"⟩ : MethodName)) (z := (⟨"com/example/spindle/spindle/SpinRule", "spinNanos", "(J)J"⟩ : MethodName)) hown (mvT hZ (ww hw 11 rfl)) (mvT hZ (ww hw 12 rfl)) (notFace_of_selects (args := #[]) (mvT hZ (ww hw 14 rfl))) (mvT hZ (ww hw 14 rfl)) (mvT hZ (ww hw 13 rfl)) (by decide) (backOf (W := 0) (rm3_33 l Z a0 hw [] b14 b11  T306.heap n0  p306_0 p306_1 p306_2 p306_3 g_b14  c307 ) hZ (ww hw 15 rfl) (ww hw 2 rfl) (by decide) (by decide)) q316a q316c (g := (mkF m 144 (Sh8 q1 q2 q3 0 2 b7 b11 b14 1 20000) [(.long b11), (.ref b14)])) rfl (by rw [hml]; rfl) (Steps.refl _) (argsL := [(.long b11)]) (rest := []) (lenOf pd_28J29J rfl) rfl (by show 2 * 0 + _ ≤ _; exact Nat.le_of_eq rfl) (hb hby at_144) (fun _ _ => ⟨rfl, rfl, (by decide : 1 + 0 ≤ _), (by decide : 3 + 0 ≤ _)⟩)
              dsimp only [Pt.U, Pt.locs, Pt.cells, Pt.slots] at X316 l316 y316 z316 st316 hQ316
              subst l316 y316 z316
              obtain ⟨rfl, N316q, K316, p316_0, p316_1, p316_2, p316_3⟩ := hQ316
              have N316 := Fr.app N306 N316q
              have Zs_316 : n0 ≤ T316.heap.size := Nat.le_trans Zs_306 K316.1
              refine GoW.sg (mkF m 147 (Sh8 q1 q2 q3 0 2 b7 b11 b14 1 20000) [(.long 0)]) (fun t k => st316.trans k) ?_
              refine GoW.sg (mkF m 149 (Sh8 q1 q2 q3 0 2 b7 b11 b14 1 0) []) (fun t k => XS.lstore X316.here hx rfl (hb hby at_147) rfl (l' := (Sh8 q1 q2 q3 0 2 b7 b11 b14 1 0)) rfl k) ?_
              refine GoW.sg (mkF m 151 (Sh8 q1 q2 q3 0 2 b7 b11 b14 1 0) [(.long b11)]) (fun t k => XS.lload X316.here hx rfl (hb hby at_149) rfl k) ?_
              refine GoW.sg (mkF m 154 (Sh8 q1 q2 q3 0 2 b7 b11 b14 1 0) [(.long 20000), (.long b11)]) (fun t k => X316.ldc2Long hx hown (mvT hZ (ww hw 21 rfl)) (g := (mkF m 151 (Sh8 q1 q2 q3 0 2 b7 b11 b14 1 0) [(.long b11)])) rfl (hb hby at_151) t k) ?_
              refine GoW.sg (mkF m 155 (Sh8 q1 q2 q3 0 2 b7 b11 b14 1 0) [(.int (lcmpW b11 (20000 : Int64)))]) (fun t k => XS.lcmp X316.here hx rfl (hb hby at_154) rfl k) ?_
              refine GoW.sg (mkF m 165 (Sh8 q1 q2 q3 0 2 b7 b11 b14 1 0) []) (fun t k => XS.ifYes X316.here hx rfl (pc0 := 155) (pc' := 165) rfl (hb hby at_155) rfl ((if0 _ _).trans (tlt ((lw_gt _ _).mpr c307)).2.2.1) (by decide) (by decide) k) ?_
              refine GoW.sg (mkF m 167 (Sh8 q1 q2 q3 0 2 b7 b11 b14 1 0) [(.int 0)]) (fun t k => XS.iload X316.here hx rfl (hb hby at_165) rfl k) ?_
              refine GoW.sg (mkF m 184 (Sh8 q1 q2 q3 0 2 b7 b11 b14 1 0) []) (fun t k => XS.ifYes X316.here hx rfl (pc0 := 167) (pc' := 184) rfl (hb hby at_167) rfl (by decide) (by decide) (by decide) k) ?_
              refine GoW.sg (mkF m 185 (Sh8 q1 q2 q3 0 2 b7 b11 b14 1 0) [(.long 0)]) (fun t k => XS.lconst X316.here hx rfl (hb hby at_184) k) ?_
              refine GoW.sg (mkF m 187 (Sh9 q1 q2 q3 0 2 b7 b11 b14 1 0 0) []) (fun t k => XS.lstore X316.here hx rfl (hb hby at_185) rfl (l' := (Sh9 q1 q2 q3 0 2 b7 b11 b14 1 0 0)) rfl k) ?_
              refine GoW.sg (mkF m 189 (Sh9 q1 q2 q3 0 2 b7 b11 b14 1 0 0) [(.int 1)]) (fun t k => XS.iload X316.here hx rfl (hb hby at_187) rfl k) ?_
              refine GoW.sg (mkF m 192 (Sh9 q1 q2 q3 0 2 b7 b11 b14 1 0 0) []) (fun t k => XS.ifNo X316.here hx rfl (hb hby at_189) rfl (by decide) k) ?_
              refine GoW.sg (mkF m 194 (Sh9 q1 q2 q3 0 2 b7 b11 b14 1 0 0) [(.long 0)]) (fun t k => XS.lload X316.here hx rfl (hb hby at_192) rfl k) ?_
              refine GoW.sg (mkF m 196 (Sh9 q1 q2 q3 0 2 b7 b11 b14 1 0 0) [(.long 0), (.long 0)]) (fun t k => XS.lload X316.here hx rfl (hb hby at_194) rfl k) ?_
              refine GoW.sg (mkF m 197 (Sh9 q1 q2 q3 0 2 b7 b11 b14 1 0 0) [(.int (lcmpW (0 : Int64) (0 : Int64)))]) (fun t k => XS.lcmp X316.here hx rfl (hb hby at_196) rfl k) ?_
              refine GoW.sg (mkF m 200 (Sh9 q1 q2 q3 0 2 b7 b11 b14 1 0 0) []) (fun t k => XS.ifNo X316.here hx rfl (hb hby at_197) rfl (by decide) k) ?_
              refine GoW.sg (mkF m 201 (Sh9 q1 q2 q3 0 2 b7 b11 b14 1 0 0) [(.int 1)]) (fun t k => XS.iconst X316.here hx rfl (hb hby at_200) k) ?_
              refine GoW.sg (mkF m 205 (Sh9 q1 q2 q3 0 2 b7 b11 b14 1 0 0) [(.int 1)]) (fun t k => XS.goto X316.here hx rfl (pc0 := 201) (pc' := 205) rfl (hb hby at_201) (by decide) (by decide) k) ?_
              refine GoW.sg (mkF m 207 (Sh9 q1 q2 q3 0 2 b7 b11 b14 1 0 0) []) (fun t k => XS.istore X316.here hx rfl (hb hby at_205) rfl (l' := (Sh9 q1 q2 q3 0 2 b7 b11 b14 1 0 0)) rfl k) ?_
              refine GoW.sg (mkF m 209 (Sh9 q1 q2 q3 0 2 b7 b11 b14 1 0 0) [(.int 1)]) (fun t k => XS.iload X316.here hx rfl (hb hby at_207) rfl k) ?_
              refine GoW.sg (mkF m 212 (Sh9 q1 q2 q3 0 2 b7 b11 b14 1 0 0) []) (fun t k => XS.ifNo X316.here hx rfl (hb hby at_209) rfl (by decide) k) ?_
              refine GoW.sg (mkF m 214 (Sh9 q1 q2 q3 0 2 b7 b11 b14 1 0 0) [(.ref b14)]) (fun t k => XS.aload X316.here hx rfl (hb hby at_212) rfl rfl k) ?_
              refine GoW.sg (mkF m 215 (Sh9 q1 q2 q3 0 2 b7 b11 b14 1 0 0) [(.long 0), (.ref b14)]) (fun t k => XS.lconst X316.here hx rfl (hb hby at_214) k) ?_
              obtain ⟨cq319, kq319, q319a, q319b, q319c⟩ := isOf hZ rfl p316_0
              obtain ⟨_, _, ⟨T319, L319, k319, n319⟩, -, X319, ⟨Lc319, hQ319, l319, y319, z319⟩, st319⟩ := X316.virtualBack hx (y := (⟨"com/example/spindle/spindle/SpinRule", "timesWait", "(J)Z"⟩ : MethodName)) (z := (⟨"com/example/spindle/spindle/SpinRule", "timesWait", "(J)Z"⟩ : MethodName)) hown (mvT hZ (ww hw 22 rfl)) (mvT hZ (ww hw 23 rfl)) (notFace_of_selects (args := #[]) (mvT hZ (ww hw 25 rfl))) (mvT hZ (ww hw 25 rfl)) (mvT hZ (ww hw 24 rfl)) (by decide) (backOf (W := 0) (rm4_34 l Z a0 hw [] b14  T316.heap n0  p316_0 p316_1 p316_2 p316_3    ) hZ (ww hw 26 rfl) (ww hw 2 rfl) (by decide) (by decide)) q319a q319c (g := (mkF m 215 (Sh9 q1 q2 q3 0 2 b7 b11 b14 1 0 0) [(.long 0), (.ref b14)])) rfl (by rw [hml]; rfl) (Steps.refl _) (argsL := [(.long (0 : Int64))]) (rest := []) (lenOf pd_28J29Z rfl) rfl (by show 2 * 0 + _ ≤ _; exact Nat.le_of_eq rfl) (hb hby at_215) (fun _ _ => ⟨rfl, rfl, (by decide : 1 + 0 ≤ _), (by decide : 3 + 0 ≤ _)⟩)
              dsimp only [Pt.U, Pt.locs, Pt.cells, Pt.slots] at X319 l319 y319 z319 st319 hQ319
              subst l319 y319 z319
              obtain ⟨rfl, N319q, e319⟩ := hQ319
              have N319 := Fr.app N316 N319q
              refine GoW.sg (mkF m 218 (Sh9 q1 q2 q3 0 2 b7 b11 b14 1 0 0) [(.int 0)]) (fun t k => st319.trans k) ?_
              refine GoW.sg (mkF m 220 (Sh9 q1 q2 q3 0 2 b7 b11 b14 1 0 0) [(.int 0), (.int 0)]) (fun t k => XS.iload X319.here hx rfl (hb hby at_218) rfl k) ?_
              refine GoW.sg (mkF m 223 (Sh9 q1 q2 q3 0 2 b7 b11 b14 1 0 0) []) (fun t k => XS.icmpNo X319.here hx rfl (hb hby at_220) rfl (by decide) k) ?_
              refine GoW.sg (mkF m 224 (Sh9 q1 q2 q3 0 2 b7 b11 b14 1 0 0) [(.int 1)]) (fun t k => XS.iconst X319.here hx rfl (hb hby at_223) k) ?_
              refine GoW.sg (mkF m 228 (Sh9 q1 q2 q3 0 2 b7 b11 b14 1 0 0) [(.int 1)]) (fun t k => XS.goto X319.here hx rfl (pc0 := 224) (pc' := 228) rfl (hb hby at_224) (by decide) (by decide) k) ?_
              refine GoW.sg (mkF m 230 (Sh9 q1 q2 q3 0 2 b7 b11 b14 1 0 0) []) (fun t k => XS.istore X319.here hx rfl (hb hby at_228) rfl (l' := (Sh9 q1 q2 q3 0 2 b7 b11 b14 1 0 0)) rfl k) ?_
              by_cases c320 : (20000 : Int64) < q2
              · show GoW p e below s (ValQ (.int (1 : Int32)) n0) room_1.cells room_1.slots (T319.setTop (mkF m 230 (Sh9 q1 q2 q3 0 2 b7 b11 b14 1 0 0) []))
                refine GoW.sg (mkF m 232 (Sh9 q1 q2 q3 0 2 b7 b11 b14 1 0 0) [(.ref b14)]) (fun t k => XS.aload X319.here hx rfl (hb hby at_230) rfl rfl k) ?_
                refine GoW.sg (mkF m 233 (Sh9 q1 q2 q3 0 2 b7 b11 b14 1 0 0) [(.long q2), (.ref b14)]) (fun t k => XS.lloadN X319.here hx rfl (hb hby at_232) rfl k) ?_
                obtain ⟨cq329, kq329, q329a, q329b, q329c⟩ := isOf hZ e319 p316_0
                obtain ⟨_, _, ⟨T329, L329, k329, n329⟩, -, X329, ⟨Lc329, hQ329, l329, y329, z329⟩, st329⟩ := X319.virtualBack hx (y := (⟨"com/example/spindle/spindle/SpinRule", "spinNanos", "(J)J"⟩ : MethodName)) (z := (⟨"com/example/spindle/spindle/SpinRule", "spinNanos", "(J)J"⟩ : MethodName)) hown (mvT hZ (ww hw 11 rfl)) (mvT hZ (ww hw 12 rfl)) (notFace_of_selects (args := #[]) (mvT hZ (ww hw 14 rfl))) (mvT hZ (ww hw 14 rfl)) (mvT hZ (ww hw 13 rfl)) (by decide) (backOf (W := 0) (rm3_35 l Z a0 hw [] b14 q2  T316.heap n0  p316_0 p316_1 p316_2 p316_3 g_b14  c320 ) hZ (ww hw 15 rfl) (ww hw 2 rfl) (by decide) (by decide)) q329a q329c (g := (mkF m 233 (Sh9 q1 q2 q3 0 2 b7 b11 b14 1 0 0) [(.long q2), (.ref b14)])) rfl (by rw [hml]; rfl) (Steps.refl _) (argsL := [(.long q2)]) (rest := []) (lenOf pd_28J29J rfl) rfl (by show 2 * 0 + _ ≤ _; exact Nat.le_of_eq rfl) (hb hby at_233) (fun _ _ => ⟨rfl, e319, (by decide : 1 + 0 ≤ _), (by decide : 3 + 0 ≤ _)⟩)
                dsimp only [Pt.U, Pt.locs, Pt.cells, Pt.slots] at X329 l329 y329 z329 st329 hQ329
                subst l329 y329 z329
                obtain ⟨rfl, N329q, K329, p329_0, p329_1, p329_2, p329_3⟩ := hQ329
                have N329 := Fr.app N319 N329q
                have Zs_329 : n0 ≤ T329.heap.size := Nat.le_trans Zs_316 K329.1
                refine GoW.sg (mkF m 236 (Sh9 q1 q2 q3 0 2 b7 b11 b14 1 0 0) [(.long 0)]) (fun t k => st329.trans k) ?_
                refine GoW.sg (mkF m 238 (Sh10 q1 q2 q3 0 2 b7 b11 b14 1 0 0 0) []) (fun t k => XS.lstore X329.here hx rfl (hb hby at_236) rfl (l' := (Sh10 q1 q2 q3 0 2 b7 b11 b14 1 0 0 0)) rfl k) ?_
                refine GoW.sg (mkF m 239 (Sh10 q1 q2 q3 0 2 b7 b11 b14 1 0 0 0) [(.long q2)]) (fun t k => XS.lloadN X329.here hx rfl (hb hby at_238) rfl k) ?_
                refine GoW.sg (mkF m 242 (Sh10 q1 q2 q3 0 2 b7 b11 b14 1 0 0 0) [(.long 20000), (.long q2)]) (fun t k => X329.ldc2Long hx hown (mvT hZ (ww hw 21 rfl)) (g := (mkF m 239 (Sh10 q1 q2 q3 0 2 b7 b11 b14 1 0 0 0) [(.long q2)])) rfl (hb hby at_239) t k) ?_
                refine GoW.sg (mkF m 243 (Sh10 q1 q2 q3 0 2 b7 b11 b14 1 0 0 0) [(.int (lcmpW q2 (20000 : Int64)))]) (fun t k => XS.lcmp X329.here hx rfl (hb hby at_242) rfl k) ?_
                refine GoW.sg (mkF m 250 (Sh10 q1 q2 q3 0 2 b7 b11 b14 1 0 0 0) []) (fun t k => XS.ifYes X329.here hx rfl (pc0 := 243) (pc' := 250) rfl (hb hby at_243) rfl ((if0 _ _).trans (tlt ((lw_gt _ _).mpr c320)).2.2.1) (by decide) (by decide) k) ?_
                refine GoW.sg (mkF m 251 (Sh10 q1 q2 q3 0 2 b7 b11 b14 1 0 0 0) [(.long 0)]) (fun t k => XS.lconst X329.here hx rfl (hb hby at_250) k) ?_
                refine GoW.sg (mkF m 253 (Sh11 q1 q2 q3 0 2 b7 b11 b14 1 0 0 0 0) []) (fun t k => XS.lstore X329.here hx rfl (hb hby at_251) rfl (l' := (Sh11 q1 q2 q3 0 2 b7 b11 b14 1 0 0 0 0)) rfl k) ?_
                refine GoW.sg (mkF m 255 (Sh11 q1 q2 q3 0 2 b7 b11 b14 1 0 0 0 0) [(.int 1)]) (fun t k => XS.iload X329.here hx rfl (hb hby at_253) rfl k) ?_
                refine GoW.sg (mkF m 258 (Sh11 q1 q2 q3 0 2 b7 b11 b14 1 0 0 0 0) []) (fun t k => XS.ifNo X329.here hx rfl (hb hby at_255) rfl (by decide) k) ?_
                refine GoW.sg (mkF m 260 (Sh11 q1 q2 q3 0 2 b7 b11 b14 1 0 0 0 0) [(.long 0)]) (fun t k => XS.lload X329.here hx rfl (hb hby at_258) rfl k) ?_
                refine GoW.sg (mkF m 262 (Sh11 q1 q2 q3 0 2 b7 b11 b14 1 0 0 0 0) [(.long 0), (.long 0)]) (fun t k => XS.lload X329.here hx rfl (hb hby at_260) rfl k) ?_
                refine GoW.sg (mkF m 263 (Sh11 q1 q2 q3 0 2 b7 b11 b14 1 0 0 0 0) [(.int (lcmpW (0 : Int64) (0 : Int64)))]) (fun t k => XS.lcmp X329.here hx rfl (hb hby at_262) rfl k) ?_
                refine GoW.sg (mkF m 266 (Sh11 q1 q2 q3 0 2 b7 b11 b14 1 0 0 0 0) []) (fun t k => XS.ifNo X329.here hx rfl (hb hby at_263) rfl (by decide) k) ?_
                refine GoW.sg (mkF m 267 (Sh11 q1 q2 q3 0 2 b7 b11 b14 1 0 0 0 0) [(.int 1)]) (fun t k => XS.iconst X329.here hx rfl (hb hby at_266) k) ?_
                refine GoW.sg (mkF m 271 (Sh11 q1 q2 q3 0 2 b7 b11 b14 1 0 0 0 0) [(.int 1)]) (fun t k => XS.goto X329.here hx rfl (pc0 := 267) (pc' := 271) rfl (hb hby at_267) (by decide) (by decide) k) ?_
                refine GoW.sg (mkF m 273 (Sh11 q1 q2 q3 0 2 b7 b11 b14 1 0 0 0 0) []) (fun t k => XS.istore X329.here hx rfl (hb hby at_271) rfl (l' := (Sh11 q1 q2 q3 0 2 b7 b11 b14 1 0 0 0 0)) rfl k) ?_
                refine GoW.sg (mkF m 275 (Sh11 q1 q2 q3 0 2 b7 b11 b14 1 0 0 0 0) [(.int 1)]) (fun t k => XS.iload X329.here hx rfl (hb hby at_273) rfl k) ?_
                refine GoW.sg (mkF m 278 (Sh11 q1 q2 q3 0 2 b7 b11 b14 1 0 0 0 0) []) (fun t k => XS.ifNo X329.here hx rfl (hb hby at_275) rfl (by decide) k) ?_
                refine GoW.sg (mkF m 280 (Sh11 q1 q2 q3 0 2 b7 b11 b14 1 0 0 0 0) [(.ref b14)]) (fun t k => XS.aload X329.here hx rfl (hb hby at_278) rfl rfl k) ?_
                refine GoW.sg (mkF m 281 (Sh11 q1 q2 q3 0 2 b7 b11 b14 1 0 0 0 0) [(.long 0), (.ref b14)]) (fun t k => XS.lconst X329.here hx rfl (hb hby at_280) k) ?_
                obtain ⟨cq330, kq330, q330a, q330b, q330c⟩ := isOf hZ rfl p329_0
                obtain ⟨_, _, ⟨T330, L330, k330, n330⟩, -, X330, ⟨Lc330, hQ330, l330, y330, z330⟩, st330⟩ := X329.virtualBack hx (y := (⟨"com/example/spindle/spindle/SpinRule", "timesWait", "(J)Z"⟩ : MethodName)) (z := (⟨"com/example/spindle/spindle/SpinRule", "timesWait", "(J)Z"⟩ : MethodName)) hown (mvT hZ (ww hw 22 rfl)) (mvT hZ (ww hw 23 rfl)) (notFace_of_selects (args := #[]) (mvT hZ (ww hw 25 rfl))) (mvT hZ (ww hw 25 rfl)) (mvT hZ (ww hw 24 rfl)) (by decide) (backOf (W := 0) (rm4_34 l Z a0 hw [] b14  T329.heap n0  p329_0 p329_1 p329_2 p329_3    ) hZ (ww hw 26 rfl) (ww hw 2 rfl) (by decide) (by decide)) q330a q330c (g := (mkF m 281 (Sh11 q1 q2 q3 0 2 b7 b11 b14 1 0 0 0 0) [(.long 0), (.ref b14)])) rfl (by rw [hml]; rfl) (Steps.refl _) (argsL := [(.long (0 : Int64))]) (rest := []) (lenOf pd_28J29Z rfl) rfl (by show 2 * 0 + _ ≤ _; exact Nat.le_of_eq rfl) (hb hby at_281) (fun _ _ => ⟨rfl, rfl, (by decide : 1 + 0 ≤ _), (by decide : 3 + 0 ≤ _)⟩)
                dsimp only [Pt.U, Pt.locs, Pt.cells, Pt.slots] at X330 l330 y330 z330 st330 hQ330
                subst l330 y330 z330
                obtain ⟨rfl, N330q, e330⟩ := hQ330
                have N330 := Fr.app N329 N330q
                refine GoW.sg (mkF m 284 (Sh11 q1 q2 q3 0 2 b7 b11 b14 1 0 0 0 0) [(.int 0)]) (fun t k => st330.trans k) ?_
                refine GoW.sg (mkF m 287 (Sh11 q1 q2 q3 0 2 b7 b11 b14 1 0 0 0 0) []) (fun t k => XS.ifNo X330.here hx rfl (hb hby at_284) rfl (by decide) k) ?_
                refine GoW.sg (mkF m 288 (Sh11 q1 q2 q3 0 2 b7 b11 b14 1 0 0 0 0) [(.int 1)]) (fun t k => XS.iconst X330.here hx rfl (hb hby at_287) k) ?_
                refine GoW.sg (mkF m 292 (Sh11 q1 q2 q3 0 2 b7 b11 b14 1 0 0 0 0) [(.int 1)]) (fun t k => XS.goto X330.here hx rfl (pc0 := 288) (pc' := 292) rfl (hb hby at_288) (by decide) (by decide) k) ?_
                refine GoW.sg (mkF m 294 (Sh11 q1 q2 q3 0 2 b7 b11 b14 1 0 0 0 0) []) (fun t k => XS.istore X330.here hx rfl (hb hby at_292) rfl (l' := (Sh11 q1 q2 q3 0 2 b7 b11 b14 1 0 0 0 0)) rfl k) ?_
                refine GoW.sg (mkF m 296 (Sh11 q1 q2 q3 0 2 b7 b11 b14 1 0 0 0 0) [(.int 1)]) (fun t k => XS.iload X330.here hx rfl (hb hby at_294) rfl k) ?_
                refine GoW.retN X330 hx (t := .boolean) Bd.returns (by simp) (hb hby at_296) Bd.notSynchronized ?_ (by decide) (by decide)
                exact ⟨rfl, N330⟩
              · show GoW p e below s (ValQ (.int (1 : Int32)) n0) room_1.cells room_1.slots (T319.setTop (mkF m 230 (Sh9 q1 q2 q3 0 2 b7 b11 b14 1 0 0) []))
                refine GoW.sg (mkF m 232 (Sh9 q1 q2 q3 0 2 b7 b11 b14 1 0 0) [(.ref b14)]) (fun t k => XS.aload X319.here hx rfl (hb hby at_230) rfl rfl k) ?_
                refine GoW.sg (mkF m 233 (Sh9 q1 q2 q3 0 2 b7 b11 b14 1 0 0) [(.long q2), (.ref b14)]) (fun t k => XS.lloadN X319.here hx rfl (hb hby at_232) rfl k) ?_
                obtain ⟨cq337, kq337, q337a, q337b, q337c⟩ := isOf hZ e319 p316_0
                obtain ⟨_, _, ⟨T337, L337, k337, n337⟩, -, X337, ⟨Lc337, hQ337, l337, y337, z337⟩, st337⟩ := X319.virtualBack hx (y := (⟨"com/example/spindle/spindle/SpinRule", "spinNanos", "(J)J"⟩ : MethodName)) (z := (⟨"com/example/spindle/spindle/SpinRule", "spinNanos", "(J)J"⟩ : MethodName)) hown (mvT hZ (ww hw 11 rfl)) (mvT hZ (ww hw 12 rfl)) (notFace_of_selects (args := #[]) (mvT hZ (ww hw 14 rfl))) (mvT hZ (ww hw 14 rfl)) (mvT hZ (ww hw 13 rfl)) (by decide) (backOf (W := 0) (rm3_36 l Z a0 hw [] b14 q2  T316.heap n0  p316_0 p316_1 p316_2 p316_3 g_b14  c320 ) hZ (ww hw 15 rfl) (ww hw 2 rfl) (by decide) (by decide)) q337a q337c (g := (mkF m 233 (Sh9 q1 q2 q3 0 2 b7 b11 b14 1 0 0) [(.long q2), (.ref b14)])) rfl (by rw [hml]; rfl) (Steps.refl _) (argsL := [(.long q2)]) (rest := []) (lenOf pd_28J29J rfl) rfl (by show 2 * 0 + _ ≤ _; exact Nat.le_of_eq rfl) (hb hby at_233) (fun _ _ => ⟨rfl, e319, (by decide : 1 + 0 ≤ _), (by decide : 3 + 0 ≤ _)⟩)
                dsimp only [Pt.U, Pt.locs, Pt.cells, Pt.slots] at X337 l337 y337 z337 st337 hQ337
                subst l337 y337 z337
                obtain ⟨rfl, N337q, K337, p337_0, p337_1, p337_2, p337_3⟩ := hQ337
                have N337 := Fr.app N319 N337q
                have Zs_337 : n0 ≤ T337.heap.size := Nat.le_trans Zs_316 K337.1
                refine GoW.sg (mkF m 236 (Sh9 q1 q2 q3 0 2 b7 b11 b14 1 0 0) [(.long q2)]) (fun t k => st337.trans k) ?_
                refine GoW.sg (mkF m 238 (Sh10 q1 q2 q3 0 2 b7 b11 b14 1 0 0 q2) []) (fun t k => XS.lstore X337.here hx rfl (hb hby at_236) rfl (l' := (Sh10 q1 q2 q3 0 2 b7 b11 b14 1 0 0 q2)) rfl k) ?_
                refine GoW.sg (mkF m 239 (Sh10 q1 q2 q3 0 2 b7 b11 b14 1 0 0 q2) [(.long q2)]) (fun t k => XS.lloadN X337.here hx rfl (hb hby at_238) rfl k) ?_
                refine GoW.sg (mkF m 242 (Sh10 q1 q2 q3 0 2 b7 b11 b14 1 0 0 q2) [(.long 20000), (.long q2)]) (fun t k => X337.ldc2Long hx hown (mvT hZ (ww hw 21 rfl)) (g := (mkF m 239 (Sh10 q1 q2 q3 0 2 b7 b11 b14 1 0 0 q2) [(.long q2)])) rfl (hb hby at_239) t k) ?_
                refine GoW.sg (mkF m 243 (Sh10 q1 q2 q3 0 2 b7 b11 b14 1 0 0 q2) [(.int (lcmpW q2 (20000 : Int64)))]) (fun t k => XS.lcmp X337.here hx rfl (hb hby at_242) rfl k) ?_
                refine GoW.sg (mkF m 246 (Sh10 q1 q2 q3 0 2 b7 b11 b14 1 0 0 q2) []) (fun t k => XS.ifNo X337.here hx rfl (hb hby at_243) rfl ((if0 _ _).trans (flt (mt (lw_gt _ _).mp c320)).2.2.1) k) ?_
                refine GoW.sg (mkF m 247 (Sh10 q1 q2 q3 0 2 b7 b11 b14 1 0 0 q2) [(.long q2)]) (fun t k => XS.lloadN X337.here hx rfl (hb hby at_246) rfl k) ?_
                refine GoW.sg (mkF m 251 (Sh10 q1 q2 q3 0 2 b7 b11 b14 1 0 0 q2) [(.long q2)]) (fun t k => XS.goto X337.here hx rfl (pc0 := 247) (pc' := 251) rfl (hb hby at_247) (by decide) (by decide) k) ?_
                refine GoW.sg (mkF m 253 (Sh11 q1 q2 q3 0 2 b7 b11 b14 1 0 0 q2 q2) []) (fun t k => XS.lstore X337.here hx rfl (hb hby at_251) rfl (l' := (Sh11 q1 q2 q3 0 2 b7 b11 b14 1 0 0 q2 q2)) rfl k) ?_
                refine GoW.sg (mkF m 255 (Sh11 q1 q2 q3 0 2 b7 b11 b14 1 0 0 q2 q2) [(.int 1)]) (fun t k => XS.iload X337.here hx rfl (hb hby at_253) rfl k) ?_
                refine GoW.sg (mkF m 258 (Sh11 q1 q2 q3 0 2 b7 b11 b14 1 0 0 q2 q2) []) (fun t k => XS.ifNo X337.here hx rfl (hb hby at_255) rfl (by decide) k) ?_
                refine GoW.sg (mkF m 260 (Sh11 q1 q2 q3 0 2 b7 b11 b14 1 0 0 q2 q2) [(.long q2)]) (fun t k => XS.lload X337.here hx rfl (hb hby at_258) rfl k) ?_
                refine GoW.sg (mkF m 262 (Sh11 q1 q2 q3 0 2 b7 b11 b14 1 0 0 q2 q2) [(.long q2), (.long q2)]) (fun t k => XS.lload X337.here hx rfl (hb hby at_260) rfl k) ?_
                refine GoW.sg (mkF m 263 (Sh11 q1 q2 q3 0 2 b7 b11 b14 1 0 0 q2 q2) [(.int (lcmpW q2 q2))]) (fun t k => XS.lcmp X337.here hx rfl (hb hby at_262) rfl k) ?_
                refine GoW.sg (mkF m 266 (Sh11 q1 q2 q3 0 2 b7 b11 b14 1 0 0 q2 q2) []) (fun t k => XS.ifNo X337.here hx rfl (hb hby at_263) rfl ((if0 _ _).trans (teq ((lw_eq _ _).mpr rfl)).2) k) ?_
                refine GoW.sg (mkF m 267 (Sh11 q1 q2 q3 0 2 b7 b11 b14 1 0 0 q2 q2) [(.int 1)]) (fun t k => XS.iconst X337.here hx rfl (hb hby at_266) k) ?_
                refine GoW.sg (mkF m 271 (Sh11 q1 q2 q3 0 2 b7 b11 b14 1 0 0 q2 q2) [(.int 1)]) (fun t k => XS.goto X337.here hx rfl (pc0 := 267) (pc' := 271) rfl (hb hby at_267) (by decide) (by decide) k) ?_
                refine GoW.sg (mkF m 273 (Sh11 q1 q2 q3 0 2 b7 b11 b14 1 0 0 q2 q2) []) (fun t k => XS.istore X337.here hx rfl (hb hby at_271) rfl (l' := (Sh11 q1 q2 q3 0 2 b7 b11 b14 1 0 0 q2 q2)) rfl k) ?_
                refine GoW.sg (mkF m 275 (Sh11 q1 q2 q3 0 2 b7 b11 b14 1 0 0 q2 q2) [(.int 1)]) (fun t k => XS.iload X337.here hx rfl (hb hby at_273) rfl k) ?_
                refine GoW.sg (mkF m 278 (Sh11 q1 q2 q3 0 2 b7 b11 b14 1 0 0 q2 q2) []) (fun t k => XS.ifNo X337.here hx rfl (hb hby at_275) rfl (by decide) k) ?_
                refine GoW.sg (mkF m 280 (Sh11 q1 q2 q3 0 2 b7 b11 b14 1 0 0 q2 q2) [(.ref b14)]) (fun t k => XS.aload X337.here hx rfl (hb hby at_278) rfl rfl k) ?_
                refine GoW.sg (mkF m 281 (Sh11 q1 q2 q3 0 2 b7 b11 b14 1 0 0 q2 q2) [(.long 0), (.ref b14)]) (fun t k => XS.lconst X337.here hx rfl (hb hby at_280) k) ?_
                obtain ⟨cq338, kq338, q338a, q338b, q338c⟩ := isOf hZ rfl p337_0
                obtain ⟨_, _, ⟨T338, L338, k338, n338⟩, -, X338, ⟨Lc338, hQ338, l338, y338, z338⟩, st338⟩ := X337.virtualBack hx (y := (⟨"com/example/spindle/spindle/SpinRule", "timesWait", "(J)Z"⟩ : MethodName)) (z := (⟨"com/example/spindle/spindle/SpinRule", "timesWait", "(J)Z"⟩ : MethodName)) hown (mvT hZ (ww hw 22 rfl)) (mvT hZ (ww hw 23 rfl)) (notFace_of_selects (args := #[]) (mvT hZ (ww hw 25 rfl))) (mvT hZ (ww hw 25 rfl)) (mvT hZ (ww hw 24 rfl)) (by decide) (backOf (W := 0) (rm4_34 l Z a0 hw [] b14  T337.heap n0  p337_0 p337_1 p337_2 p337_3    ) hZ (ww hw 26 rfl) (ww hw 2 rfl) (by decide) (by decide)) q338a q338c (g := (mkF m 281 (Sh11 q1 q2 q3 0 2 b7 b11 b14 1 0 0 q2 q2) [(.long 0), (.ref b14)])) rfl (by rw [hml]; rfl) (Steps.refl _) (argsL := [(.long (0 : Int64))]) (rest := []) (lenOf pd_28J29Z rfl) rfl (by show 2 * 0 + _ ≤ _; exact Nat.le_of_eq rfl) (hb hby at_281) (fun _ _ => ⟨rfl, rfl, (by decide : 1 + 0 ≤ _), (by decide : 3 + 0 ≤ _)⟩)
                dsimp only [Pt.U, Pt.locs, Pt.cells, Pt.slots] at X338 l338 y338 z338 st338 hQ338
                subst l338 y338 z338
                obtain ⟨rfl, N338q, e338⟩ := hQ338
                have N338 := Fr.app N337 N338q
                refine GoW.sg (mkF m 284 (Sh11 q1 q2 q3 0 2 b7 b11 b14 1 0 0 q2 q2) [(.int 0)]) (fun t k => st338.trans k) ?_
                refine GoW.sg (mkF m 287 (Sh11 q1 q2 q3 0 2 b7 b11 b14 1 0 0 q2 q2) []) (fun t k => XS.ifNo X338.here hx rfl (hb hby at_284) rfl (by decide) k) ?_
                refine GoW.sg (mkF m 288 (Sh11 q1 q2 q3 0 2 b7 b11 b14 1 0 0 q2 q2) [(.int 1)]) (fun t k => XS.iconst X338.here hx rfl (hb hby at_287) k) ?_
                refine GoW.sg (mkF m 292 (Sh11 q1 q2 q3 0 2 b7 b11 b14 1 0 0 q2 q2) [(.int 1)]) (fun t k => XS.goto X338.here hx rfl (pc0 := 288) (pc' := 292) rfl (hb hby at_288) (by decide) (by decide) k) ?_
                refine GoW.sg (mkF m 294 (Sh11 q1 q2 q3 0 2 b7 b11 b14 1 0 0 q2 q2) []) (fun t k => XS.istore X338.here hx rfl (hb hby at_292) rfl (l' := (Sh11 q1 q2 q3 0 2 b7 b11 b14 1 0 0 q2 q2)) rfl k) ?_
                refine GoW.sg (mkF m 296 (Sh11 q1 q2 q3 0 2 b7 b11 b14 1 0 0 q2 q2) [(.int 1)]) (fun t k => XS.iload X338.here hx rfl (hb hby at_294) rfl k) ?_
                refine GoW.retN X338 hx (t := .boolean) Bd.returns (by simp) (hb hby at_296) Bd.notSynchronized ?_ (by decide) (by decide)
                exact ⟨rfl, N338⟩
            · show GoW p e below s (ValQ (.int (1 : Int32)) n0) room_1.cells room_1.slots (T306.setTop (mkF m 140 (Sh8 q1 q2 q3 0 2 b7 b11 b14 1 20000) []))
              refine GoW.sg (mkF m 142 (Sh8 q1 q2 q3 0 2 b7 b11 b14 1 20000) [(.ref b14)]) (fun t k => XS.aload X306.here hx rfl (hb hby at_140) rfl rfl k) ?_
              refine GoW.sg (mkF m 144 (Sh8 q1 q2 q3 0 2 b7 b11 b14 1 20000) [(.long b11), (.ref b14)]) (fun t k => XS.lload X306.here hx rfl (hb hby at_142) rfl k) ?_
              obtain ⟨cq345, kq345, q345a, q345b, q345c⟩ := isOf hZ rfl p306_0
              obtain ⟨_, _, ⟨T345, L345, k345, n345⟩, -, X345, ⟨Lc345, hQ345, l345, y345, z345⟩, st345⟩ := X306.virtualBack hx (y := (⟨"com/example/spindle/spindle/SpinRule", "spinNanos", "(J)J"⟩ : MethodName)) (z := (⟨"com/example/spindle/spindle/SpinRule", "spinNanos", "(J)J"⟩ : MethodName)) hown (mvT hZ (ww hw 11 rfl)) (mvT hZ (ww hw 12 rfl)) (notFace_of_selects (args := #[]) (mvT hZ (ww hw 14 rfl))) (mvT hZ (ww hw 14 rfl)) (mvT hZ (ww hw 13 rfl)) (by decide) (backOf (W := 0) (rm3_37 l Z a0 hw [] b14 b11  T306.heap n0  p306_0 p306_1 p306_2 p306_3 g_b14  c307 ) hZ (ww hw 15 rfl) (ww hw 2 rfl) (by decide) (by decide)) q345a q345c (g := (mkF m 144 (Sh8 q1 q2 q3 0 2 b7 b11 b14 1 20000) [(.long b11), (.ref b14)])) rfl (by rw [hml]; rfl) (Steps.refl _) (argsL := [(.long b11)]) (rest := []) (lenOf pd_28J29J rfl) rfl (by show 2 * 0 + _ ≤ _; exact Nat.le_of_eq rfl) (hb hby at_144) (fun _ _ => ⟨rfl, rfl, (by decide : 1 + 0 ≤ _), (by decide : 3 + 0 ≤ _)⟩)
              dsimp only [Pt.U, Pt.locs, Pt.cells, Pt.slots] at X345 l345 y345 z345 st345 hQ345
              subst l345 y345 z345
              obtain ⟨rfl, N345q, K345, p345_0, p345_1, p345_2, p345_3⟩ := hQ345
              have N345 := Fr.app N306 N345q
              have Zs_345 : n0 ≤ T345.heap.size := Nat.le_trans Zs_306 K345.1
              refine GoW.sg (mkF m 147 (Sh8 q1 q2 q3 0 2 b7 b11 b14 1 20000) [(.long b11)]) (fun t k => st345.trans k) ?_
              refine GoW.sg (mkF m 149 (Sh8 q1 q2 q3 0 2 b7 b11 b14 1 b11) []) (fun t k => XS.lstore X345.here hx rfl (hb hby at_147) rfl (l' := (Sh8 q1 q2 q3 0 2 b7 b11 b14 1 b11)) rfl k) ?_
              refine GoW.sg (mkF m 151 (Sh8 q1 q2 q3 0 2 b7 b11 b14 1 b11) [(.long b11)]) (fun t k => XS.lload X345.here hx rfl (hb hby at_149) rfl k) ?_
              refine GoW.sg (mkF m 154 (Sh8 q1 q2 q3 0 2 b7 b11 b14 1 b11) [(.long 20000), (.long b11)]) (fun t k => X345.ldc2Long hx hown (mvT hZ (ww hw 21 rfl)) (g := (mkF m 151 (Sh8 q1 q2 q3 0 2 b7 b11 b14 1 b11) [(.long b11)])) rfl (hb hby at_151) t k) ?_
              refine GoW.sg (mkF m 155 (Sh8 q1 q2 q3 0 2 b7 b11 b14 1 b11) [(.int (lcmpW b11 (20000 : Int64)))]) (fun t k => XS.lcmp X345.here hx rfl (hb hby at_154) rfl k) ?_
              refine GoW.sg (mkF m 158 (Sh8 q1 q2 q3 0 2 b7 b11 b14 1 b11) []) (fun t k => XS.ifNo X345.here hx rfl (hb hby at_155) rfl ((if0 _ _).trans (flt (mt (lw_gt _ _).mp c307)).2.2.1) k) ?_
              refine GoW.sg (mkF m 160 (Sh8 q1 q2 q3 0 2 b7 b11 b14 1 b11) [(.long b11)]) (fun t k => XS.lload X345.here hx rfl (hb hby at_158) rfl k) ?_
              refine GoW.sg (mkF m 162 (Sh9 q1 q2 q3 0 2 b7 b11 b14 1 b11 b11) []) (fun t k => XS.lstore X345.here hx rfl (hb hby at_160) rfl (l' := (Sh9 q1 q2 q3 0 2 b7 b11 b14 1 b11 b11)) rfl k) ?_
              refine GoW.sg (mkF m 187 (Sh9 q1 q2 q3 0 2 b7 b11 b14 1 b11 b11) []) (fun t k => XS.goto X345.here hx rfl (pc0 := 162) (pc' := 187) rfl (hb hby at_162) (by decide) (by decide) k) ?_
              refine GoW.sg (mkF m 189 (Sh9 q1 q2 q3 0 2 b7 b11 b14 1 b11 b11) [(.int 1)]) (fun t k => XS.iload X345.here hx rfl (hb hby at_187) rfl k) ?_
              refine GoW.sg (mkF m 192 (Sh9 q1 q2 q3 0 2 b7 b11 b14 1 b11 b11) []) (fun t k => XS.ifNo X345.here hx rfl (hb hby at_189) rfl (by decide) k) ?_
              refine GoW.sg (mkF m 194 (Sh9 q1 q2 q3 0 2 b7 b11 b14 1 b11 b11) [(.long b11)]) (fun t k => XS.lload X345.here hx rfl (hb hby at_192) rfl k) ?_
              refine GoW.sg (mkF m 196 (Sh9 q1 q2 q3 0 2 b7 b11 b14 1 b11 b11) [(.long b11), (.long b11)]) (fun t k => XS.lload X345.here hx rfl (hb hby at_194) rfl k) ?_
              refine GoW.sg (mkF m 197 (Sh9 q1 q2 q3 0 2 b7 b11 b14 1 b11 b11) [(.int (lcmpW b11 b11))]) (fun t k => XS.lcmp X345.here hx rfl (hb hby at_196) rfl k) ?_
              refine GoW.sg (mkF m 200 (Sh9 q1 q2 q3 0 2 b7 b11 b14 1 b11 b11) []) (fun t k => XS.ifNo X345.here hx rfl (hb hby at_197) rfl ((if0 _ _).trans (teq ((lw_eq _ _).mpr rfl)).2) k) ?_
              refine GoW.sg (mkF m 201 (Sh9 q1 q2 q3 0 2 b7 b11 b14 1 b11 b11) [(.int 1)]) (fun t k => XS.iconst X345.here hx rfl (hb hby at_200) k) ?_
              refine GoW.sg (mkF m 205 (Sh9 q1 q2 q3 0 2 b7 b11 b14 1 b11 b11) [(.int 1)]) (fun t k => XS.goto X345.here hx rfl (pc0 := 201) (pc' := 205) rfl (hb hby at_201) (by decide) (by decide) k) ?_
              refine GoW.sg (mkF m 207 (Sh9 q1 q2 q3 0 2 b7 b11 b14 1 b11 b11) []) (fun t k => XS.istore X345.here hx rfl (hb hby at_205) rfl (l' := (Sh9 q1 q2 q3 0 2 b7 b11 b14 1 b11 b11)) rfl k) ?_
              refine GoW.sg (mkF m 209 (Sh9 q1 q2 q3 0 2 b7 b11 b14 1 b11 b11) [(.int 1)]) (fun t k => XS.iload X345.here hx rfl (hb hby at_207) rfl k) ?_
              refine GoW.sg (mkF m 212 (Sh9 q1 q2 q3 0 2 b7 b11 b14 1 b11 b11) []) (fun t k => XS.ifNo X345.here hx rfl (hb hby at_209) rfl (by decide) k) ?_
              refine GoW.sg (mkF m 214 (Sh9 q1 q2 q3 0 2 b7 b11 b14 1 b11 b11) [(.ref b14)]) (fun t k => XS.aload X345.here hx rfl (hb hby at_212) rfl rfl k) ?_
              refine GoW.sg (mkF m 215 (Sh9 q1 q2 q3 0 2 b7 b11 b14 1 b11 b11) [(.long 0), (.ref b14)]) (fun t k => XS.lconst X345.here hx rfl (hb hby at_214) k) ?_
              obtain ⟨cq346, kq346, q346a, q346b, q346c⟩ := isOf hZ rfl p345_0
              obtain ⟨_, _, ⟨T346, L346, k346, n346⟩, -, X346, ⟨Lc346, hQ346, l346, y346, z346⟩, st346⟩ := X345.virtualBack hx (y := (⟨"com/example/spindle/spindle/SpinRule", "timesWait", "(J)Z"⟩ : MethodName)) (z := (⟨"com/example/spindle/spindle/SpinRule", "timesWait", "(J)Z"⟩ : MethodName)) hown (mvT hZ (ww hw 22 rfl)) (mvT hZ (ww hw 23 rfl)) (notFace_of_selects (args := #[]) (mvT hZ (ww hw 25 rfl))) (mvT hZ (ww hw 25 rfl)) (mvT hZ (ww hw 24 rfl)) (by decide) (backOf (W := 0) (rm4_34 l Z a0 hw [] b14  T345.heap n0  p345_0 p345_1 p345_2 p345_3    ) hZ (ww hw 26 rfl) (ww hw 2 rfl) (by decide) (by decide)) q346a q346c (g := (mkF m 215 (Sh9 q1 q2 q3 0 2 b7 b11 b14 1 b11 b11) [(.long 0), (.ref b14)])) rfl (by rw [hml]; rfl) (Steps.refl _) (argsL := [(.long (0 : Int64))]) (rest := []) (lenOf pd_28J29Z rfl) rfl (by show 2 * 0 + _ ≤ _; exact Nat.le_of_eq rfl) (hb hby at_215) (fun _ _ => ⟨rfl, rfl, (by decide : 1 + 0 ≤ _), (by decide : 3 + 0 ≤ _)⟩)
              dsimp only [Pt.U, Pt.locs, Pt.cells, Pt.slots] at X346 l346 y346 z346 st346 hQ346
              subst l346 y346 z346
              obtain ⟨rfl, N346q, e346⟩ := hQ346
              have N346 := Fr.app N345 N346q
              refine GoW.sg (mkF m 218 (Sh9 q1 q2 q3 0 2 b7 b11 b14 1 b11 b11) [(.int 0)]) (fun t k => st346.trans k) ?_
              refine GoW.sg (mkF m 220 (Sh9 q1 q2 q3 0 2 b7 b11 b14 1 b11 b11) [(.int 0), (.int 0)]) (fun t k => XS.iload X346.here hx rfl (hb hby at_218) rfl k) ?_
              refine GoW.sg (mkF m 223 (Sh9 q1 q2 q3 0 2 b7 b11 b14 1 b11 b11) []) (fun t k => XS.icmpNo X346.here hx rfl (hb hby at_220) rfl (by decide) k) ?_
              refine GoW.sg (mkF m 224 (Sh9 q1 q2 q3 0 2 b7 b11 b14 1 b11 b11) [(.int 1)]) (fun t k => XS.iconst X346.here hx rfl (hb hby at_223) k) ?_
              refine GoW.sg (mkF m 228 (Sh9 q1 q2 q3 0 2 b7 b11 b14 1 b11 b11) [(.int 1)]) (fun t k => XS.goto X346.here hx rfl (pc0 := 224) (pc' := 228) rfl (hb hby at_224) (by decide) (by decide) k) ?_
              refine GoW.sg (mkF m 230 (Sh9 q1 q2 q3 0 2 b7 b11 b14 1 b11 b11) []) (fun t k => XS.istore X346.here hx rfl (hb hby at_228) rfl (l' := (Sh9 q1 q2 q3 0 2 b7 b11 b14 1 b11 b11)) rfl k) ?_
              by_cases c347 : (20000 : Int64) < q2
              · show GoW p e below s (ValQ (.int (1 : Int32)) n0) room_1.cells room_1.slots (T346.setTop (mkF m 230 (Sh9 q1 q2 q3 0 2 b7 b11 b14 1 b11 b11) []))
                refine GoW.sg (mkF m 232 (Sh9 q1 q2 q3 0 2 b7 b11 b14 1 b11 b11) [(.ref b14)]) (fun t k => XS.aload X346.here hx rfl (hb hby at_230) rfl rfl k) ?_
                refine GoW.sg (mkF m 233 (Sh9 q1 q2 q3 0 2 b7 b11 b14 1 b11 b11) [(.long q2), (.ref b14)]) (fun t k => XS.lloadN X346.here hx rfl (hb hby at_232) rfl k) ?_
                obtain ⟨cq348, kq348, q348a, q348b, q348c⟩ := isOf hZ e346 p345_0
                obtain ⟨_, _, ⟨T348, L348, k348, n348⟩, -, X348, ⟨Lc348, hQ348, l348, y348, z348⟩, st348⟩ := X346.virtualBack hx (y := (⟨"com/example/spindle/spindle/SpinRule", "spinNanos", "(J)J"⟩ : MethodName)) (z := (⟨"com/example/spindle/spindle/SpinRule", "spinNanos", "(J)J"⟩ : MethodName)) hown (mvT hZ (ww hw 11 rfl)) (mvT hZ (ww hw 12 rfl)) (notFace_of_selects (args := #[]) (mvT hZ (ww hw 14 rfl))) (mvT hZ (ww hw 14 rfl)) (mvT hZ (ww hw 13 rfl)) (by decide) (backOf (W := 0) (rm3_35 l Z a0 hw [] b14 q2  T345.heap n0  p345_0 p345_1 p345_2 p345_3 g_b14  c347 ) hZ (ww hw 15 rfl) (ww hw 2 rfl) (by decide) (by decide)) q348a q348c (g := (mkF m 233 (Sh9 q1 q2 q3 0 2 b7 b11 b14 1 b11 b11) [(.long q2), (.ref b14)])) rfl (by rw [hml]; rfl) (Steps.refl _) (argsL := [(.long q2)]) (rest := []) (lenOf pd_28J29J rfl) rfl (by show 2 * 0 + _ ≤ _; exact Nat.le_of_eq rfl) (hb hby at_233) (fun _ _ => ⟨rfl, e346, (by decide : 1 + 0 ≤ _), (by decide : 3 + 0 ≤ _)⟩)
                dsimp only [Pt.U, Pt.locs, Pt.cells, Pt.slots] at X348 l348 y348 z348 st348 hQ348
                subst l348 y348 z348
                obtain ⟨rfl, N348q, K348, p348_0, p348_1, p348_2, p348_3⟩ := hQ348
                have N348 := Fr.app N346 N348q
                have Zs_348 : n0 ≤ T348.heap.size := Nat.le_trans Zs_345 K348.1
                refine GoW.sg (mkF m 236 (Sh9 q1 q2 q3 0 2 b7 b11 b14 1 b11 b11) [(.long 0)]) (fun t k => st348.trans k) ?_
                refine GoW.sg (mkF m 238 (Sh10 q1 q2 q3 0 2 b7 b11 b14 1 b11 b11 0) []) (fun t k => XS.lstore X348.here hx rfl (hb hby at_236) rfl (l' := (Sh10 q1 q2 q3 0 2 b7 b11 b14 1 b11 b11 0)) rfl k) ?_
                refine GoW.sg (mkF m 239 (Sh10 q1 q2 q3 0 2 b7 b11 b14 1 b11 b11 0) [(.long q2)]) (fun t k => XS.lloadN X348.here hx rfl (hb hby at_238) rfl k) ?_
                refine GoW.sg (mkF m 242 (Sh10 q1 q2 q3 0 2 b7 b11 b14 1 b11 b11 0) [(.long 20000), (.long q2)]) (fun t k => X348.ldc2Long hx hown (mvT hZ (ww hw 21 rfl)) (g := (mkF m 239 (Sh10 q1 q2 q3 0 2 b7 b11 b14 1 b11 b11 0) [(.long q2)])) rfl (hb hby at_239) t k) ?_
                refine GoW.sg (mkF m 243 (Sh10 q1 q2 q3 0 2 b7 b11 b14 1 b11 b11 0) [(.int (lcmpW q2 (20000 : Int64)))]) (fun t k => XS.lcmp X348.here hx rfl (hb hby at_242) rfl k) ?_
                refine GoW.sg (mkF m 250 (Sh10 q1 q2 q3 0 2 b7 b11 b14 1 b11 b11 0) []) (fun t k => XS.ifYes X348.here hx rfl (pc0 := 243) (pc' := 250) rfl (hb hby at_243) rfl ((if0 _ _).trans (tlt ((lw_gt _ _).mpr c347)).2.2.1) (by decide) (by decide) k) ?_
                refine GoW.sg (mkF m 251 (Sh10 q1 q2 q3 0 2 b7 b11 b14 1 b11 b11 0) [(.long 0)]) (fun t k => XS.lconst X348.here hx rfl (hb hby at_250) k) ?_
                refine GoW.sg (mkF m 253 (Sh11 q1 q2 q3 0 2 b7 b11 b14 1 b11 b11 0 0) []) (fun t k => XS.lstore X348.here hx rfl (hb hby at_251) rfl (l' := (Sh11 q1 q2 q3 0 2 b7 b11 b14 1 b11 b11 0 0)) rfl k) ?_
                refine GoW.sg (mkF m 255 (Sh11 q1 q2 q3 0 2 b7 b11 b14 1 b11 b11 0 0) [(.int 1)]) (fun t k => XS.iload X348.here hx rfl (hb hby at_253) rfl k) ?_
                refine GoW.sg (mkF m 258 (Sh11 q1 q2 q3 0 2 b7 b11 b14 1 b11 b11 0 0) []) (fun t k => XS.ifNo X348.here hx rfl (hb hby at_255) rfl (by decide) k) ?_
                refine GoW.sg (mkF m 260 (Sh11 q1 q2 q3 0 2 b7 b11 b14 1 b11 b11 0 0) [(.long 0)]) (fun t k => XS.lload X348.here hx rfl (hb hby at_258) rfl k) ?_
                refine GoW.sg (mkF m 262 (Sh11 q1 q2 q3 0 2 b7 b11 b14 1 b11 b11 0 0) [(.long 0), (.long 0)]) (fun t k => XS.lload X348.here hx rfl (hb hby at_260) rfl k) ?_
                refine GoW.sg (mkF m 263 (Sh11 q1 q2 q3 0 2 b7 b11 b14 1 b11 b11 0 0) [(.int (lcmpW (0 : Int64) (0 : Int64)))]) (fun t k => XS.lcmp X348.here hx rfl (hb hby at_262) rfl k) ?_
                refine GoW.sg (mkF m 266 (Sh11 q1 q2 q3 0 2 b7 b11 b14 1 b11 b11 0 0) []) (fun t k => XS.ifNo X348.here hx rfl (hb hby at_263) rfl (by decide) k) ?_
                refine GoW.sg (mkF m 267 (Sh11 q1 q2 q3 0 2 b7 b11 b14 1 b11 b11 0 0) [(.int 1)]) (fun t k => XS.iconst X348.here hx rfl (hb hby at_266) k) ?_
                refine GoW.sg (mkF m 271 (Sh11 q1 q2 q3 0 2 b7 b11 b14 1 b11 b11 0 0) [(.int 1)]) (fun t k => XS.goto X348.here hx rfl (pc0 := 267) (pc' := 271) rfl (hb hby at_267) (by decide) (by decide) k) ?_
                refine GoW.sg (mkF m 273 (Sh11 q1 q2 q3 0 2 b7 b11 b14 1 b11 b11 0 0) []) (fun t k => XS.istore X348.here hx rfl (hb hby at_271) rfl (l' := (Sh11 q1 q2 q3 0 2 b7 b11 b14 1 b11 b11 0 0)) rfl k) ?_
                refine GoW.sg (mkF m 275 (Sh11 q1 q2 q3 0 2 b7 b11 b14 1 b11 b11 0 0) [(.int 1)]) (fun t k => XS.iload X348.here hx rfl (hb hby at_273) rfl k) ?_
                refine GoW.sg (mkF m 278 (Sh11 q1 q2 q3 0 2 b7 b11 b14 1 b11 b11 0 0) []) (fun t k => XS.ifNo X348.here hx rfl (hb hby at_275) rfl (by decide) k) ?_
                refine GoW.sg (mkF m 280 (Sh11 q1 q2 q3 0 2 b7 b11 b14 1 b11 b11 0 0) [(.ref b14)]) (fun t k => XS.aload X348.here hx rfl (hb hby at_278) rfl rfl k) ?_
                refine GoW.sg (mkF m 281 (Sh11 q1 q2 q3 0 2 b7 b11 b14 1 b11 b11 0 0) [(.long 0), (.ref b14)]) (fun t k => XS.lconst X348.here hx rfl (hb hby at_280) k) ?_
                obtain ⟨cq349, kq349, q349a, q349b, q349c⟩ := isOf hZ rfl p348_0
                obtain ⟨_, _, ⟨T349, L349, k349, n349⟩, -, X349, ⟨Lc349, hQ349, l349, y349, z349⟩, st349⟩ := X348.virtualBack hx (y := (⟨"com/example/spindle/spindle/SpinRule", "timesWait", "(J)Z"⟩ : MethodName)) (z := (⟨"com/example/spindle/spindle/SpinRule", "timesWait", "(J)Z"⟩ : MethodName)) hown (mvT hZ (ww hw 22 rfl)) (mvT hZ (ww hw 23 rfl)) (notFace_of_selects (args := #[]) (mvT hZ (ww hw 25 rfl))) (mvT hZ (ww hw 25 rfl)) (mvT hZ (ww hw 24 rfl)) (by decide) (backOf (W := 0) (rm4_34 l Z a0 hw [] b14  T348.heap n0  p348_0 p348_1 p348_2 p348_3    ) hZ (ww hw 26 rfl) (ww hw 2 rfl) (by decide) (by decide)) q349a q349c (g := (mkF m 281 (Sh11 q1 q2 q3 0 2 b7 b11 b14 1 b11 b11 0 0) [(.long 0), (.ref b14)])) rfl (by rw [hml]; rfl) (Steps.refl _) (argsL := [(.long (0 : Int64))]) (rest := []) (lenOf pd_28J29Z rfl) rfl (by show 2 * 0 + _ ≤ _; exact Nat.le_of_eq rfl) (hb hby at_281) (fun _ _ => ⟨rfl, rfl, (by decide : 1 + 0 ≤ _), (by decide : 3 + 0 ≤ _)⟩)
                dsimp only [Pt.U, Pt.locs, Pt.cells, Pt.slots] at X349 l349 y349 z349 st349 hQ349
                subst l349 y349 z349
                obtain ⟨rfl, N349q, e349⟩ := hQ349
                have N349 := Fr.app N348 N349q
                refine GoW.sg (mkF m 284 (Sh11 q1 q2 q3 0 2 b7 b11 b14 1 b11 b11 0 0) [(.int 0)]) (fun t k => st349.trans k) ?_
                refine GoW.sg (mkF m 287 (Sh11 q1 q2 q3 0 2 b7 b11 b14 1 b11 b11 0 0) []) (fun t k => XS.ifNo X349.here hx rfl (hb hby at_284) rfl (by decide) k) ?_
                refine GoW.sg (mkF m 288 (Sh11 q1 q2 q3 0 2 b7 b11 b14 1 b11 b11 0 0) [(.int 1)]) (fun t k => XS.iconst X349.here hx rfl (hb hby at_287) k) ?_
                refine GoW.sg (mkF m 292 (Sh11 q1 q2 q3 0 2 b7 b11 b14 1 b11 b11 0 0) [(.int 1)]) (fun t k => XS.goto X349.here hx rfl (pc0 := 288) (pc' := 292) rfl (hb hby at_288) (by decide) (by decide) k) ?_
                refine GoW.sg (mkF m 294 (Sh11 q1 q2 q3 0 2 b7 b11 b14 1 b11 b11 0 0) []) (fun t k => XS.istore X349.here hx rfl (hb hby at_292) rfl (l' := (Sh11 q1 q2 q3 0 2 b7 b11 b14 1 b11 b11 0 0)) rfl k) ?_
                refine GoW.sg (mkF m 296 (Sh11 q1 q2 q3 0 2 b7 b11 b14 1 b11 b11 0 0) [(.int 1)]) (fun t k => XS.iload X349.here hx rfl (hb hby at_294) rfl k) ?_
                refine GoW.retN X349 hx (t := .boolean) Bd.returns (by simp) (hb hby at_296) Bd.notSynchronized ?_ (by decide) (by decide)
                exact ⟨rfl, N349⟩
              · show GoW p e below s (ValQ (.int (1 : Int32)) n0) room_1.cells room_1.slots (T346.setTop (mkF m 230 (Sh9 q1 q2 q3 0 2 b7 b11 b14 1 b11 b11) []))
                refine GoW.sg (mkF m 232 (Sh9 q1 q2 q3 0 2 b7 b11 b14 1 b11 b11) [(.ref b14)]) (fun t k => XS.aload X346.here hx rfl (hb hby at_230) rfl rfl k) ?_
                refine GoW.sg (mkF m 233 (Sh9 q1 q2 q3 0 2 b7 b11 b14 1 b11 b11) [(.long q2), (.ref b14)]) (fun t k => XS.lloadN X346.here hx rfl (hb hby at_232) rfl k) ?_
                obtain ⟨cq350, kq350, q350a, q350b, q350c⟩ := isOf hZ e346 p345_0
                obtain ⟨_, _, ⟨T350, L350, k350, n350⟩, -, X350, ⟨Lc350, hQ350, l350, y350, z350⟩, st350⟩ := X346.virtualBack hx (y := (⟨"com/example/spindle/spindle/SpinRule", "spinNanos", "(J)J"⟩ : MethodName)) (z := (⟨"com/example/spindle/spindle/SpinRule", "spinNanos", "(J)J"⟩ : MethodName)) hown (mvT hZ (ww hw 11 rfl)) (mvT hZ (ww hw 12 rfl)) (notFace_of_selects (args := #[]) (mvT hZ (ww hw 14 rfl))) (mvT hZ (ww hw 14 rfl)) (mvT hZ (ww hw 13 rfl)) (by decide) (backOf (W := 0) (rm3_36 l Z a0 hw [] b14 q2  T345.heap n0  p345_0 p345_1 p345_2 p345_3 g_b14  c347 ) hZ (ww hw 15 rfl) (ww hw 2 rfl) (by decide) (by decide)) q350a q350c (g := (mkF m 233 (Sh9 q1 q2 q3 0 2 b7 b11 b14 1 b11 b11) [(.long q2), (.ref b14)])) rfl (by rw [hml]; rfl) (Steps.refl _) (argsL := [(.long q2)]) (rest := []) (lenOf pd_28J29J rfl) rfl (by show 2 * 0 + _ ≤ _; exact Nat.le_of_eq rfl) (hb hby at_233) (fun _ _ => ⟨rfl, e346, (by decide : 1 + 0 ≤ _), (by decide : 3 + 0 ≤ _)⟩)
                dsimp only [Pt.U, Pt.locs, Pt.cells, Pt.slots] at X350 l350 y350 z350 st350 hQ350
                subst l350 y350 z350
                obtain ⟨rfl, N350q, K350, p350_0, p350_1, p350_2, p350_3⟩ := hQ350
                have N350 := Fr.app N346 N350q
                have Zs_350 : n0 ≤ T350.heap.size := Nat.le_trans Zs_345 K350.1
                refine GoW.sg (mkF m 236 (Sh9 q1 q2 q3 0 2 b7 b11 b14 1 b11 b11) [(.long q2)]) (fun t k => st350.trans k) ?_
                refine GoW.sg (mkF m 238 (Sh10 q1 q2 q3 0 2 b7 b11 b14 1 b11 b11 q2) []) (fun t k => XS.lstore X350.here hx rfl (hb hby at_236) rfl (l' := (Sh10 q1 q2 q3 0 2 b7 b11 b14 1 b11 b11 q2)) rfl k) ?_
                refine GoW.sg (mkF m 239 (Sh10 q1 q2 q3 0 2 b7 b11 b14 1 b11 b11 q2) [(.long q2)]) (fun t k => XS.lloadN X350.here hx rfl (hb hby at_238) rfl k) ?_
                refine GoW.sg (mkF m 242 (Sh10 q1 q2 q3 0 2 b7 b11 b14 1 b11 b11 q2) [(.long 20000), (.long q2)]) (fun t k => X350.ldc2Long hx hown (mvT hZ (ww hw 21 rfl)) (g := (mkF m 239 (Sh10 q1 q2 q3 0 2 b7 b11 b14 1 b11 b11 q2) [(.long q2)])) rfl (hb hby at_239) t k) ?_
                refine GoW.sg (mkF m 243 (Sh10 q1 q2 q3 0 2 b7 b11 b14 1 b11 b11 q2) [(.int (lcmpW q2 (20000 : Int64)))]) (fun t k => XS.lcmp X350.here hx rfl (hb hby at_242) rfl k) ?_
                refine GoW.sg (mkF m 246 (Sh10 q1 q2 q3 0 2 b7 b11 b14 1 b11 b11 q2) []) (fun t k => XS.ifNo X350.here hx rfl (hb hby at_243) rfl ((if0 _ _).trans (flt (mt (lw_gt _ _).mp c347)).2.2.1) k) ?_
                refine GoW.sg (mkF m 247 (Sh10 q1 q2 q3 0 2 b7 b11 b14 1 b11 b11 q2) [(.long q2)]) (fun t k => XS.lloadN X350.here hx rfl (hb hby at_246) rfl k) ?_
                refine GoW.sg (mkF m 251 (Sh10 q1 q2 q3 0 2 b7 b11 b14 1 b11 b11 q2) [(.long q2)]) (fun t k => XS.goto X350.here hx rfl (pc0 := 247) (pc' := 251) rfl (hb hby at_247) (by decide) (by decide) k) ?_
                refine GoW.sg (mkF m 253 (Sh11 q1 q2 q3 0 2 b7 b11 b14 1 b11 b11 q2 q2) []) (fun t k => XS.lstore X350.here hx rfl (hb hby at_251) rfl (l' := (Sh11 q1 q2 q3 0 2 b7 b11 b14 1 b11 b11 q2 q2)) rfl k) ?_
                refine GoW.sg (mkF m 255 (Sh11 q1 q2 q3 0 2 b7 b11 b14 1 b11 b11 q2 q2) [(.int 1)]) (fun t k => XS.iload X350.here hx rfl (hb hby at_253) rfl k) ?_
                refine GoW.sg (mkF m 258 (Sh11 q1 q2 q3 0 2 b7 b11 b14 1 b11 b11 q2 q2) []) (fun t k => XS.ifNo X350.here hx rfl (hb hby at_255) rfl (by decide) k) ?_
                refine GoW.sg (mkF m 260 (Sh11 q1 q2 q3 0 2 b7 b11 b14 1 b11 b11 q2 q2) [(.long q2)]) (fun t k => XS.lload X350.here hx rfl (hb hby at_258) rfl k) ?_
                refine GoW.sg (mkF m 262 (Sh11 q1 q2 q3 0 2 b7 b11 b14 1 b11 b11 q2 q2) [(.long q2), (.long q2)]) (fun t k => XS.lload X350.here hx rfl (hb hby at_260) rfl k) ?_
                refine GoW.sg (mkF m 263 (Sh11 q1 q2 q3 0 2 b7 b11 b14 1 b11 b11 q2 q2) [(.int (lcmpW q2 q2))]) (fun t k => XS.lcmp X350.here hx rfl (hb hby at_262) rfl k) ?_
                refine GoW.sg (mkF m 266 (Sh11 q1 q2 q3 0 2 b7 b11 b14 1 b11 b11 q2 q2) []) (fun t k => XS.ifNo X350.here hx rfl (hb hby at_263) rfl ((if0 _ _).trans (teq ((lw_eq _ _).mpr rfl)).2) k) ?_
                refine GoW.sg (mkF m 267 (Sh11 q1 q2 q3 0 2 b7 b11 b14 1 b11 b11 q2 q2) [(.int 1)]) (fun t k => XS.iconst X350.here hx rfl (hb hby at_266) k) ?_
                refine GoW.sg (mkF m 271 (Sh11 q1 q2 q3 0 2 b7 b11 b14 1 b11 b11 q2 q2) [(.int 1)]) (fun t k => XS.goto X350.here hx rfl (pc0 := 267) (pc' := 271) rfl (hb hby at_267) (by decide) (by decide) k) ?_
                refine GoW.sg (mkF m 273 (Sh11 q1 q2 q3 0 2 b7 b11 b14 1 b11 b11 q2 q2) []) (fun t k => XS.istore X350.here hx rfl (hb hby at_271) rfl (l' := (Sh11 q1 q2 q3 0 2 b7 b11 b14 1 b11 b11 q2 q2)) rfl k) ?_
                refine GoW.sg (mkF m 275 (Sh11 q1 q2 q3 0 2 b7 b11 b14 1 b11 b11 q2 q2) [(.int 1)]) (fun t k => XS.iload X350.here hx rfl (hb hby at_273) rfl k) ?_
                refine GoW.sg (mkF m 278 (Sh11 q1 q2 q3 0 2 b7 b11 b14 1 b11 b11 q2 q2) []) (fun t k => XS.ifNo X350.here hx rfl (hb hby at_275) rfl (by decide) k) ?_
                refine GoW.sg (mkF m 280 (Sh11 q1 q2 q3 0 2 b7 b11 b14 1 b11 b11 q2 q2) [(.ref b14)]) (fun t k => XS.aload X350.here hx rfl (hb hby at_278) rfl rfl k) ?_
                refine GoW.sg (mkF m 281 (Sh11 q1 q2 q3 0 2 b7 b11 b14 1 b11 b11 q2 q2) [(.long 0), (.ref b14)]) (fun t k => XS.lconst X350.here hx rfl (hb hby at_280) k) ?_
                obtain ⟨cq351, kq351, q351a, q351b, q351c⟩ := isOf hZ rfl p350_0
                obtain ⟨_, _, ⟨T351, L351, k351, n351⟩, -, X351, ⟨Lc351, hQ351, l351, y351, z351⟩, st351⟩ := X350.virtualBack hx (y := (⟨"com/example/spindle/spindle/SpinRule", "timesWait", "(J)Z"⟩ : MethodName)) (z := (⟨"com/example/spindle/spindle/SpinRule", "timesWait", "(J)Z"⟩ : MethodName)) hown (mvT hZ (ww hw 22 rfl)) (mvT hZ (ww hw 23 rfl)) (notFace_of_selects (args := #[]) (mvT hZ (ww hw 25 rfl))) (mvT hZ (ww hw 25 rfl)) (mvT hZ (ww hw 24 rfl)) (by decide) (backOf (W := 0) (rm4_34 l Z a0 hw [] b14  T350.heap n0  p350_0 p350_1 p350_2 p350_3    ) hZ (ww hw 26 rfl) (ww hw 2 rfl) (by decide) (by decide)) q351a q351c (g := (mkF m 281 (Sh11 q1 q2 q3 0 2 b7 b11 b14 1 b11 b11 q2 q2) [(.long 0), (.ref b14)])) rfl (by rw [hml]; rfl) (Steps.refl _) (argsL := [(.long (0 : Int64))]) (rest := []) (lenOf pd_28J29Z rfl) rfl (by show 2 * 0 + _ ≤ _; exact Nat.le_of_eq rfl) (hb hby at_281) (fun _ _ => ⟨rfl, rfl, (by decide : 1 + 0 ≤ _), (by decide : 3 + 0 ≤ _)⟩)
                dsimp only [Pt.U, Pt.locs, Pt.cells, Pt.slots] at X351 l351 y351 z351 st351 hQ351
                subst l351 y351 z351
                obtain ⟨rfl, N351q, e351⟩ := hQ351
                have N351 := Fr.app N350 N351q
                refine GoW.sg (mkF m 284 (Sh11 q1 q2 q3 0 2 b7 b11 b14 1 b11 b11 q2 q2) [(.int 0)]) (fun t k => st351.trans k) ?_
                refine GoW.sg (mkF m 287 (Sh11 q1 q2 q3 0 2 b7 b11 b14 1 b11 b11 q2 q2) []) (fun t k => XS.ifNo X351.here hx rfl (hb hby at_284) rfl (by decide) k) ?_
                refine GoW.sg (mkF m 288 (Sh11 q1 q2 q3 0 2 b7 b11 b14 1 b11 b11 q2 q2) [(.int 1)]) (fun t k => XS.iconst X351.here hx rfl (hb hby at_287) k) ?_
                refine GoW.sg (mkF m 292 (Sh11 q1 q2 q3 0 2 b7 b11 b14 1 b11 b11 q2 q2) [(.int 1)]) (fun t k => XS.goto X351.here hx rfl (pc0 := 288) (pc' := 292) rfl (hb hby at_288) (by decide) (by decide) k) ?_
                refine GoW.sg (mkF m 294 (Sh11 q1 q2 q3 0 2 b7 b11 b14 1 b11 b11 q2 q2) []) (fun t k => XS.istore X351.here hx rfl (hb hby at_292) rfl (l' := (Sh11 q1 q2 q3 0 2 b7 b11 b14 1 b11 b11 q2 q2)) rfl k) ?_
                refine GoW.sg (mkF m 296 (Sh11 q1 q2 q3 0 2 b7 b11 b14 1 b11 b11 q2 q2) [(.int 1)]) (fun t k => XS.iload X351.here hx rfl (hb hby at_294) rfl k) ?_
                refine GoW.retN X351 hx (t := .boolean) Bd.returns (by simp) (hb hby at_296) Bd.notSynchronized ?_ (by decide) (by decide)
                exact ⟨rfl, N351⟩
          · subst cc
            show GoW p e below s (ValQ (.int (1 : Int32)) n0) room_1.cells room_1.slots (T306.setTop (mkF m 130 (Sh8 q1 q2 q3 1 2 b7 b11 b14 1 20000) []))
            refine GoW.sg (mkF m 132 (Sh8 q1 q2 q3 1 2 b7 b11 b14 1 20000) [(.int 1)]) (fun t k => XS.iload X306.here hx rfl (hb hby at_130) rfl k) ?_
            refine GoW.sg (mkF m 135 (Sh8 q1 q2 q3 1 2 b7 b11 b14 1 20000) []) (fun t k => XS.ifNo X306.here hx rfl (hb hby at_132) rfl (by decide) k) ?_
            refine GoW.sg (mkF m 137 (Sh8 q1 q2 q3 1 2 b7 b11 b14 1 20000) [(.ref b14)]) (fun t k => XS.aload X306.here hx rfl (hb hby at_135) rfl rfl k) ?_
            obtain ⟨cq354, kq354, q354a, q354b, q354c⟩ := isOf hZ rfl p306_0
            obtain ⟨_, _, ⟨T354, L354, k354, n354⟩, -, X354, ⟨Lc354, hQ354, l354, y354, z354⟩, st354⟩ := X306.virtualBack hx (y := (⟨"com/example/spindle/spindle/SpinRule", "handedOn", "()V"⟩ : MethodName)) (z := (⟨"com/example/spindle/spindle/SpinRule", "handedOn", "()V"⟩ : MethodName)) hown (mvT hZ (ww hw 27 rfl)) (mvT hZ (ww hw 28 rfl)) (notFace_of_selects (args := #[]) (mvT hZ (ww hw 30 rfl))) (mvT hZ (ww hw 30 rfl)) (mvT hZ (ww hw 29 rfl)) (by decide) (backOf (W := 0) (rm5_38 l Z a0 hw [] b14  T306.heap n0  p306_0 p306_1 p306_2 p306_3 g_b14   ) hZ (ww hw 31 rfl) (ww hw 2 rfl) (by decide) (by decide)) q354a q354c (g := (mkF m 137 (Sh8 q1 q2 q3 1 2 b7 b11 b14 1 20000) [(.ref b14)])) rfl (by rw [hml]; rfl) (Steps.refl _) (argsL := []) (rest := []) (lenOf pd_2829V rfl) rfl (by show 2 * 0 + _ ≤ _; exact Nat.le_of_eq rfl) (hb hby at_137) (fun _ _ => ⟨rfl, rfl, (by decide : 1 + 0 ≤ _), (by decide : 3 + 0 ≤ _)⟩)
            dsimp only [Pt.U, Pt.locs, Pt.cells, Pt.slots] at X354 l354 y354 z354 st354 hQ354
            subst l354 y354 z354
            obtain ⟨rfl, N354q, K354, p354_0, p354_1, p354_2, p354_3⟩ := hQ354
            have N354 := Fr.app N306 N354q
            have Zs_354 : n0 ≤ T354.heap.size := Nat.le_trans Zs_306 K354.1
            refine GoW.sg (mkF m 140 (Sh8 q1 q2 q3 1 2 b7 b11 b14 1 20000) []) (fun t k => st354.trans k) ?_
            by_cases c355 : (20000 : Int64) < b11
            · show GoW p e below s (ValQ (.int (1 : Int32)) n0) room_1.cells room_1.slots (T354.setTop (mkF m 140 (Sh8 q1 q2 q3 1 2 b7 b11 b14 1 20000) []))
              refine GoW.sg (mkF m 142 (Sh8 q1 q2 q3 1 2 b7 b11 b14 1 20000) [(.ref b14)]) (fun t k => XS.aload X354.here hx rfl (hb hby at_140) rfl rfl k) ?_
              refine GoW.sg (mkF m 144 (Sh8 q1 q2 q3 1 2 b7 b11 b14 1 20000) [(.long b11), (.ref b14)]) (fun t k => XS.lload X354.here hx rfl (hb hby at_142) rfl k) ?_
              obtain ⟨cq366, kq366, q366a, q366b, q366c⟩ := isOf hZ rfl p354_0
              obtain ⟨_, _, ⟨T366, L366, k366, n366⟩, -, X366, ⟨Lc366, hQ366, l366, y366, z366⟩, st366⟩ := X354.virtualBack hx (y := (⟨"com/example/spindle/spindle/SpinRule", "spinNanos", "(J)J"⟩ : MethodName)) (z := (⟨"com/example/spindle/spindle/SpinRule", "spinNanos", "(J)J"⟩ : MethodName)) hown (mvT hZ (ww hw 11 rfl)) (mvT hZ (ww hw 12 rfl)) (notFace_of_selects (args := #[]) (mvT hZ (ww hw 14 rfl))) (mvT hZ (ww hw 14 rfl)) (mvT hZ (ww hw 13 rfl)) (by decide) (backOf (W := 0) (rm3_39 l Z a0 hw [] b14 b11  T354.heap n0  p354_0 p354_1 p354_2 p354_3 g_b14  c355 ) hZ (ww hw 15 rfl) (ww hw 2 rfl) (by decide) (by decide)) q366a q366c (g := (mkF m 144 (Sh8 q1 q2 q3 1 2 b7 b11 b14 1 20000) [(.long b11), (.ref b14)])) rfl (by rw [hml]; rfl) (Steps.refl _) (argsL := [(.long b11)]) (rest := []) (lenOf pd_28J29J rfl) rfl (by show 2 * 0 + _ ≤ _; exact Nat.le_of_eq rfl) (hb hby at_144) (fun _ _ => ⟨rfl, rfl, (by decide : 1 + 0 ≤ _), (by decide : 3 + 0 ≤ _)⟩)
              dsimp only [Pt.U, Pt.locs, Pt.cells, Pt.slots] at X366 l366 y366 z366 st366 hQ366
              subst l366 y366 z366
              obtain ⟨rfl, N366q, K366, p366_0, p366_1, p366_2, p366_3⟩ := hQ366
              have N366 := Fr.app N354 N366q
              have Zs_366 : n0 ≤ T366.heap.size := Nat.le_trans Zs_354 K366.1
              refine GoW.sg (mkF m 147 (Sh8 q1 q2 q3 1 2 b7 b11 b14 1 20000) [(.long 0)]) (fun t k => st366.trans k) ?_
              refine GoW.sg (mkF m 149 (Sh8 q1 q2 q3 1 2 b7 b11 b14 1 0) []) (fun t k => XS.lstore X366.here hx rfl (hb hby at_147) rfl (l' := (Sh8 q1 q2 q3 1 2 b7 b11 b14 1 0)) rfl k) ?_
              refine GoW.sg (mkF m 151 (Sh8 q1 q2 q3 1 2 b7 b11 b14 1 0) [(.long b11)]) (fun t k => XS.lload X366.here hx rfl (hb hby at_149) rfl k) ?_
              refine GoW.sg (mkF m 154 (Sh8 q1 q2 q3 1 2 b7 b11 b14 1 0) [(.long 20000), (.long b11)]) (fun t k => X366.ldc2Long hx hown (mvT hZ (ww hw 21 rfl)) (g := (mkF m 151 (Sh8 q1 q2 q3 1 2 b7 b11 b14 1 0) [(.long b11)])) rfl (hb hby at_151) t k) ?_
              refine GoW.sg (mkF m 155 (Sh8 q1 q2 q3 1 2 b7 b11 b14 1 0) [(.int (lcmpW b11 (20000 : Int64)))]) (fun t k => XS.lcmp X366.here hx rfl (hb hby at_154) rfl k) ?_
              refine GoW.sg (mkF m 165 (Sh8 q1 q2 q3 1 2 b7 b11 b14 1 0) []) (fun t k => XS.ifYes X366.here hx rfl (pc0 := 155) (pc' := 165) rfl (hb hby at_155) rfl ((if0 _ _).trans (tlt ((lw_gt _ _).mpr c355)).2.2.1) (by decide) (by decide) k) ?_
              refine GoW.sg (mkF m 167 (Sh8 q1 q2 q3 1 2 b7 b11 b14 1 0) [(.int 1)]) (fun t k => XS.iload X366.here hx rfl (hb hby at_165) rfl k) ?_
              refine GoW.sg (mkF m 170 (Sh8 q1 q2 q3 1 2 b7 b11 b14 1 0) []) (fun t k => XS.ifNo X366.here hx rfl (hb hby at_167) rfl (by decide) k) ?_
              refine GoW.sg (mkF m 172 (Sh8 q1 q2 q3 1 2 b7 b11 b14 1 0) [(.int 2)]) (fun t k => XS.iload X366.here hx rfl (hb hby at_170) rfl k) ?_
              refine GoW.sg (mkF m 173 (Sh8 q1 q2 q3 1 2 b7 b11 b14 1 0) [(.int 2), (.int 2)]) (fun t k => XS.iconst X366.here hx rfl (hb hby at_172) k) ?_
              refine GoW.sg (mkF m 184 (Sh8 q1 q2 q3 1 2 b7 b11 b14 1 0) []) (fun t k => XS.icmpYes X366.here hx rfl (pc0 := 173) (pc' := 184) rfl (hb hby at_173) rfl (by decide) (by decide) (by decide) k) ?_
              refine GoW.sg (mkF m 185 (Sh8 q1 q2 q3 1 2 b7 b11 b14 1 0) [(.long 0)]) (fun t k => XS.lconst X366.here hx rfl (hb hby at_184) k) ?_
              refine GoW.sg (mkF m 187 (Sh9 q1 q2 q3 1 2 b7 b11 b14 1 0 0) []) (fun t k => XS.lstore X366.here hx rfl (hb hby at_185) rfl (l' := (Sh9 q1 q2 q3 1 2 b7 b11 b14 1 0 0)) rfl k) ?_
              refine GoW.sg (mkF m 189 (Sh9 q1 q2 q3 1 2 b7 b11 b14 1 0 0) [(.int 1)]) (fun t k => XS.iload X366.here hx rfl (hb hby at_187) rfl k) ?_
              refine GoW.sg (mkF m 192 (Sh9 q1 q2 q3 1 2 b7 b11 b14 1 0 0) []) (fun t k => XS.ifNo X366.here hx rfl (hb hby at_189) rfl (by decide) k) ?_
              refine GoW.sg (mkF m 194 (Sh9 q1 q2 q3 1 2 b7 b11 b14 1 0 0) [(.long 0)]) (fun t k => XS.lload X366.here hx rfl (hb hby at_192) rfl k) ?_
              refine GoW.sg (mkF m 196 (Sh9 q1 q2 q3 1 2 b7 b11 b14 1 0 0) [(.long 0), (.long 0)]) (fun t k => XS.lload X366.here hx rfl (hb hby at_194) rfl k) ?_
              refine GoW.sg (mkF m 197 (Sh9 q1 q2 q3 1 2 b7 b11 b14 1 0 0) [(.int (lcmpW (0 : Int64) (0 : Int64)))]) (fun t k => XS.lcmp X366.here hx rfl (hb hby at_196) rfl k) ?_
              refine GoW.sg (mkF m 200 (Sh9 q1 q2 q3 1 2 b7 b11 b14 1 0 0) []) (fun t k => XS.ifNo X366.here hx rfl (hb hby at_197) rfl (by decide) k) ?_
              refine GoW.sg (mkF m 201 (Sh9 q1 q2 q3 1 2 b7 b11 b14 1 0 0) [(.int 1)]) (fun t k => XS.iconst X366.here hx rfl (hb hby at_200) k) ?_
              refine GoW.sg (mkF m 205 (Sh9 q1 q2 q3 1 2 b7 b11 b14 1 0 0) [(.int 1)]) (fun t k => XS.goto X366.here hx rfl (pc0 := 201) (pc' := 205) rfl (hb hby at_201) (by decide) (by decide) k) ?_
              refine GoW.sg (mkF m 207 (Sh9 q1 q2 q3 1 2 b7 b11 b14 1 0 0) []) (fun t k => XS.istore X366.here hx rfl (hb hby at_205) rfl (l' := (Sh9 q1 q2 q3 1 2 b7 b11 b14 1 0 0)) rfl k) ?_
              refine GoW.sg (mkF m 209 (Sh9 q1 q2 q3 1 2 b7 b11 b14 1 0 0) [(.int 1)]) (fun t k => XS.iload X366.here hx rfl (hb hby at_207) rfl k) ?_
              refine GoW.sg (mkF m 212 (Sh9 q1 q2 q3 1 2 b7 b11 b14 1 0 0) []) (fun t k => XS.ifNo X366.here hx rfl (hb hby at_209) rfl (by decide) k) ?_
              refine GoW.sg (mkF m 214 (Sh9 q1 q2 q3 1 2 b7 b11 b14 1 0 0) [(.ref b14)]) (fun t k => XS.aload X366.here hx rfl (hb hby at_212) rfl rfl k) ?_
              refine GoW.sg (mkF m 215 (Sh9 q1 q2 q3 1 2 b7 b11 b14 1 0 0) [(.long 0), (.ref b14)]) (fun t k => XS.lconst X366.here hx rfl (hb hby at_214) k) ?_
              obtain ⟨cq369, kq369, q369a, q369b, q369c⟩ := isOf hZ rfl p366_0
              obtain ⟨_, _, ⟨T369, L369, k369, n369⟩, -, X369, ⟨Lc369, hQ369, l369, y369, z369⟩, st369⟩ := X366.virtualBack hx (y := (⟨"com/example/spindle/spindle/SpinRule", "timesWait", "(J)Z"⟩ : MethodName)) (z := (⟨"com/example/spindle/spindle/SpinRule", "timesWait", "(J)Z"⟩ : MethodName)) hown (mvT hZ (ww hw 22 rfl)) (mvT hZ (ww hw 23 rfl)) (notFace_of_selects (args := #[]) (mvT hZ (ww hw 25 rfl))) (mvT hZ (ww hw 25 rfl)) (mvT hZ (ww hw 24 rfl)) (by decide) (backOf (W := 0) (rm4_40 l Z a0 hw [] b14  T366.heap n0  p366_0 p366_1 p366_2 p366_3    ) hZ (ww hw 26 rfl) (ww hw 2 rfl) (by decide) (by decide)) q369a q369c (g := (mkF m 215 (Sh9 q1 q2 q3 1 2 b7 b11 b14 1 0 0) [(.long 0), (.ref b14)])) rfl (by rw [hml]; rfl) (Steps.refl _) (argsL := [(.long (0 : Int64))]) (rest := []) (lenOf pd_28J29Z rfl) rfl (by show 2 * 0 + _ ≤ _; exact Nat.le_of_eq rfl) (hb hby at_215) (fun _ _ => ⟨rfl, rfl, (by decide : 1 + 0 ≤ _), (by decide : 3 + 0 ≤ _)⟩)
              dsimp only [Pt.U, Pt.locs, Pt.cells, Pt.slots] at X369 l369 y369 z369 st369 hQ369
              subst l369 y369 z369
              obtain ⟨rfl, N369q, e369⟩ := hQ369
              have N369 := Fr.app N366 N369q
              refine GoW.sg (mkF m 218 (Sh9 q1 q2 q3 1 2 b7 b11 b14 1 0 0) [(.int 1)]) (fun t k => st369.trans k) ?_
              refine GoW.sg (mkF m 220 (Sh9 q1 q2 q3 1 2 b7 b11 b14 1 0 0) [(.int 1), (.int 1)]) (fun t k => XS.iload X369.here hx rfl (hb hby at_218) rfl k) ?_
              refine GoW.sg (mkF m 223 (Sh9 q1 q2 q3 1 2 b7 b11 b14 1 0 0) []) (fun t k => XS.icmpNo X369.here hx rfl (hb hby at_220) rfl (by decide) k) ?_
              refine GoW.sg (mkF m 224 (Sh9 q1 q2 q3 1 2 b7 b11 b14 1 0 0) [(.int 1)]) (fun t k => XS.iconst X369.here hx rfl (hb hby at_223) k) ?_
              refine GoW.sg (mkF m 228 (Sh9 q1 q2 q3 1 2 b7 b11 b14 1 0 0) [(.int 1)]) (fun t k => XS.goto X369.here hx rfl (pc0 := 224) (pc' := 228) rfl (hb hby at_224) (by decide) (by decide) k) ?_
              refine GoW.sg (mkF m 230 (Sh9 q1 q2 q3 1 2 b7 b11 b14 1 0 0) []) (fun t k => XS.istore X369.here hx rfl (hb hby at_228) rfl (l' := (Sh9 q1 q2 q3 1 2 b7 b11 b14 1 0 0)) rfl k) ?_
              by_cases c370 : (20000 : Int64) < q2
              · show GoW p e below s (ValQ (.int (1 : Int32)) n0) room_1.cells room_1.slots (T369.setTop (mkF m 230 (Sh9 q1 q2 q3 1 2 b7 b11 b14 1 0 0) []))
                refine GoW.sg (mkF m 232 (Sh9 q1 q2 q3 1 2 b7 b11 b14 1 0 0) [(.ref b14)]) (fun t k => XS.aload X369.here hx rfl (hb hby at_230) rfl rfl k) ?_
                refine GoW.sg (mkF m 233 (Sh9 q1 q2 q3 1 2 b7 b11 b14 1 0 0) [(.long q2), (.ref b14)]) (fun t k => XS.lloadN X369.here hx rfl (hb hby at_232) rfl k) ?_
                obtain ⟨cq371, kq371, q371a, q371b, q371c⟩ := isOf hZ e369 p366_0
                obtain ⟨_, _, ⟨T371, L371, k371, n371⟩, -, X371, ⟨Lc371, hQ371, l371, y371, z371⟩, st371⟩ := X369.virtualBack hx (y := (⟨"com/example/spindle/spindle/SpinRule", "spinNanos", "(J)J"⟩ : MethodName)) (z := (⟨"com/example/spindle/spindle/SpinRule", "spinNanos", "(J)J"⟩ : MethodName)) hown (mvT hZ (ww hw 11 rfl)) (mvT hZ (ww hw 12 rfl)) (notFace_of_selects (args := #[]) (mvT hZ (ww hw 14 rfl))) (mvT hZ (ww hw 14 rfl)) (mvT hZ (ww hw 13 rfl)) (by decide) (backOf (W := 0) (rm3_33 l Z a0 hw [] b14 q2  T366.heap n0  p366_0 p366_1 p366_2 p366_3 g_b14  c370 ) hZ (ww hw 15 rfl) (ww hw 2 rfl) (by decide) (by decide)) q371a q371c (g := (mkF m 233 (Sh9 q1 q2 q3 1 2 b7 b11 b14 1 0 0) [(.long q2), (.ref b14)])) rfl (by rw [hml]; rfl) (Steps.refl _) (argsL := [(.long q2)]) (rest := []) (lenOf pd_28J29J rfl) rfl (by show 2 * 0 + _ ≤ _; exact Nat.le_of_eq rfl) (hb hby at_233) (fun _ _ => ⟨rfl, e369, (by decide : 1 + 0 ≤ _), (by decide : 3 + 0 ≤ _)⟩)
                dsimp only [Pt.U, Pt.locs, Pt.cells, Pt.slots] at X371 l371 y371 z371 st371 hQ371
                subst l371 y371 z371
                obtain ⟨rfl, N371q, K371, p371_0, p371_1, p371_2, p371_3⟩ := hQ371
                have N371 := Fr.app N369 N371q
                have Zs_371 : n0 ≤ T371.heap.size := Nat.le_trans Zs_366 K371.1
                refine GoW.sg (mkF m 236 (Sh9 q1 q2 q3 1 2 b7 b11 b14 1 0 0) [(.long 0)]) (fun t k => st371.trans k) ?_
                refine GoW.sg (mkF m 238 (Sh10 q1 q2 q3 1 2 b7 b11 b14 1 0 0 0) []) (fun t k => XS.lstore X371.here hx rfl (hb hby at_236) rfl (l' := (Sh10 q1 q2 q3 1 2 b7 b11 b14 1 0 0 0)) rfl k) ?_
                refine GoW.sg (mkF m 239 (Sh10 q1 q2 q3 1 2 b7 b11 b14 1 0 0 0) [(.long q2)]) (fun t k => XS.lloadN X371.here hx rfl (hb hby at_238) rfl k) ?_
                refine GoW.sg (mkF m 242 (Sh10 q1 q2 q3 1 2 b7 b11 b14 1 0 0 0) [(.long 20000), (.long q2)]) (fun t k => X371.ldc2Long hx hown (mvT hZ (ww hw 21 rfl)) (g := (mkF m 239 (Sh10 q1 q2 q3 1 2 b7 b11 b14 1 0 0 0) [(.long q2)])) rfl (hb hby at_239) t k) ?_
                refine GoW.sg (mkF m 243 (Sh10 q1 q2 q3 1 2 b7 b11 b14 1 0 0 0) [(.int (lcmpW q2 (20000 : Int64)))]) (fun t k => XS.lcmp X371.here hx rfl (hb hby at_242) rfl k) ?_
                refine GoW.sg (mkF m 250 (Sh10 q1 q2 q3 1 2 b7 b11 b14 1 0 0 0) []) (fun t k => XS.ifYes X371.here hx rfl (pc0 := 243) (pc' := 250) rfl (hb hby at_243) rfl ((if0 _ _).trans (tlt ((lw_gt _ _).mpr c370)).2.2.1) (by decide) (by decide) k) ?_
                refine GoW.sg (mkF m 251 (Sh10 q1 q2 q3 1 2 b7 b11 b14 1 0 0 0) [(.long 0)]) (fun t k => XS.lconst X371.here hx rfl (hb hby at_250) k) ?_
                refine GoW.sg (mkF m 253 (Sh11 q1 q2 q3 1 2 b7 b11 b14 1 0 0 0 0) []) (fun t k => XS.lstore X371.here hx rfl (hb hby at_251) rfl (l' := (Sh11 q1 q2 q3 1 2 b7 b11 b14 1 0 0 0 0)) rfl k) ?_
                refine GoW.sg (mkF m 255 (Sh11 q1 q2 q3 1 2 b7 b11 b14 1 0 0 0 0) [(.int 1)]) (fun t k => XS.iload X371.here hx rfl (hb hby at_253) rfl k) ?_
                refine GoW.sg (mkF m 258 (Sh11 q1 q2 q3 1 2 b7 b11 b14 1 0 0 0 0) []) (fun t k => XS.ifNo X371.here hx rfl (hb hby at_255) rfl (by decide) k) ?_
                refine GoW.sg (mkF m 260 (Sh11 q1 q2 q3 1 2 b7 b11 b14 1 0 0 0 0) [(.long 0)]) (fun t k => XS.lload X371.here hx rfl (hb hby at_258) rfl k) ?_
                refine GoW.sg (mkF m 262 (Sh11 q1 q2 q3 1 2 b7 b11 b14 1 0 0 0 0) [(.long 0), (.long 0)]) (fun t k => XS.lload X371.here hx rfl (hb hby at_260) rfl k) ?_
                refine GoW.sg (mkF m 263 (Sh11 q1 q2 q3 1 2 b7 b11 b14 1 0 0 0 0) [(.int (lcmpW (0 : Int64) (0 : Int64)))]) (fun t k => XS.lcmp X371.here hx rfl (hb hby at_262) rfl k) ?_
                refine GoW.sg (mkF m 266 (Sh11 q1 q2 q3 1 2 b7 b11 b14 1 0 0 0 0) []) (fun t k => XS.ifNo X371.here hx rfl (hb hby at_263) rfl (by decide) k) ?_
                refine GoW.sg (mkF m 267 (Sh11 q1 q2 q3 1 2 b7 b11 b14 1 0 0 0 0) [(.int 1)]) (fun t k => XS.iconst X371.here hx rfl (hb hby at_266) k) ?_
                refine GoW.sg (mkF m 271 (Sh11 q1 q2 q3 1 2 b7 b11 b14 1 0 0 0 0) [(.int 1)]) (fun t k => XS.goto X371.here hx rfl (pc0 := 267) (pc' := 271) rfl (hb hby at_267) (by decide) (by decide) k) ?_
                refine GoW.sg (mkF m 273 (Sh11 q1 q2 q3 1 2 b7 b11 b14 1 0 0 0 0) []) (fun t k => XS.istore X371.here hx rfl (hb hby at_271) rfl (l' := (Sh11 q1 q2 q3 1 2 b7 b11 b14 1 0 0 0 0)) rfl k) ?_
                refine GoW.sg (mkF m 275 (Sh11 q1 q2 q3 1 2 b7 b11 b14 1 0 0 0 0) [(.int 1)]) (fun t k => XS.iload X371.here hx rfl (hb hby at_273) rfl k) ?_
                refine GoW.sg (mkF m 278 (Sh11 q1 q2 q3 1 2 b7 b11 b14 1 0 0 0 0) []) (fun t k => XS.ifNo X371.here hx rfl (hb hby at_275) rfl (by decide) k) ?_
                refine GoW.sg (mkF m 280 (Sh11 q1 q2 q3 1 2 b7 b11 b14 1 0 0 0 0) [(.ref b14)]) (fun t k => XS.aload X371.here hx rfl (hb hby at_278) rfl rfl k) ?_
                refine GoW.sg (mkF m 281 (Sh11 q1 q2 q3 1 2 b7 b11 b14 1 0 0 0 0) [(.long 0), (.ref b14)]) (fun t k => XS.lconst X371.here hx rfl (hb hby at_280) k) ?_
                obtain ⟨cq372, kq372, q372a, q372b, q372c⟩ := isOf hZ rfl p371_0
                obtain ⟨_, _, ⟨T372, L372, k372, n372⟩, -, X372, ⟨Lc372, hQ372, l372, y372, z372⟩, st372⟩ := X371.virtualBack hx (y := (⟨"com/example/spindle/spindle/SpinRule", "timesWait", "(J)Z"⟩ : MethodName)) (z := (⟨"com/example/spindle/spindle/SpinRule", "timesWait", "(J)Z"⟩ : MethodName)) hown (mvT hZ (ww hw 22 rfl)) (mvT hZ (ww hw 23 rfl)) (notFace_of_selects (args := #[]) (mvT hZ (ww hw 25 rfl))) (mvT hZ (ww hw 25 rfl)) (mvT hZ (ww hw 24 rfl)) (by decide) (backOf (W := 0) (rm4_34 l Z a0 hw [] b14  T371.heap n0  p371_0 p371_1 p371_2 p371_3    ) hZ (ww hw 26 rfl) (ww hw 2 rfl) (by decide) (by decide)) q372a q372c (g := (mkF m 281 (Sh11 q1 q2 q3 1 2 b7 b11 b14 1 0 0 0 0) [(.long 0), (.ref b14)])) rfl (by rw [hml]; rfl) (Steps.refl _) (argsL := [(.long (0 : Int64))]) (rest := []) (lenOf pd_28J29Z rfl) rfl (by show 2 * 0 + _ ≤ _; exact Nat.le_of_eq rfl) (hb hby at_281) (fun _ _ => ⟨rfl, rfl, (by decide : 1 + 0 ≤ _), (by decide : 3 + 0 ≤ _)⟩)
                dsimp only [Pt.U, Pt.locs, Pt.cells, Pt.slots] at X372 l372 y372 z372 st372 hQ372
                subst l372 y372 z372
                obtain ⟨rfl, N372q, e372⟩ := hQ372
                have N372 := Fr.app N371 N372q
                refine GoW.sg (mkF m 284 (Sh11 q1 q2 q3 1 2 b7 b11 b14 1 0 0 0 0) [(.int 0)]) (fun t k => st372.trans k) ?_
                refine GoW.sg (mkF m 287 (Sh11 q1 q2 q3 1 2 b7 b11 b14 1 0 0 0 0) []) (fun t k => XS.ifNo X372.here hx rfl (hb hby at_284) rfl (by decide) k) ?_
                refine GoW.sg (mkF m 288 (Sh11 q1 q2 q3 1 2 b7 b11 b14 1 0 0 0 0) [(.int 1)]) (fun t k => XS.iconst X372.here hx rfl (hb hby at_287) k) ?_
                refine GoW.sg (mkF m 292 (Sh11 q1 q2 q3 1 2 b7 b11 b14 1 0 0 0 0) [(.int 1)]) (fun t k => XS.goto X372.here hx rfl (pc0 := 288) (pc' := 292) rfl (hb hby at_288) (by decide) (by decide) k) ?_
                refine GoW.sg (mkF m 294 (Sh11 q1 q2 q3 1 2 b7 b11 b14 1 0 0 0 0) []) (fun t k => XS.istore X372.here hx rfl (hb hby at_292) rfl (l' := (Sh11 q1 q2 q3 1 2 b7 b11 b14 1 0 0 0 0)) rfl k) ?_
                refine GoW.sg (mkF m 296 (Sh11 q1 q2 q3 1 2 b7 b11 b14 1 0 0 0 0) [(.int 1)]) (fun t k => XS.iload X372.here hx rfl (hb hby at_294) rfl k) ?_
                refine GoW.retN X372 hx (t := .boolean) Bd.returns (by simp) (hb hby at_296) Bd.notSynchronized ?_ (by decide) (by decide)
                exact ⟨rfl, N372⟩
              · show GoW p e below s (ValQ (.int (1 : Int32)) n0) room_1.cells room_1.slots (T369.setTop (mkF m 230 (Sh9 q1 q2 q3 1 2 b7 b11 b14 1 0 0) []))
                refine GoW.sg (mkF m 232 (Sh9 q1 q2 q3 1 2 b7 b11 b14 1 0 0) [(.ref b14)]) (fun t k => XS.aload X369.here hx rfl (hb hby at_230) rfl rfl k) ?_
                refine GoW.sg (mkF m 233 (Sh9 q1 q2 q3 1 2 b7 b11 b14 1 0 0) [(.long q2), (.ref b14)]) (fun t k => XS.lloadN X369.here hx rfl (hb hby at_232) rfl k) ?_
                obtain ⟨cq373, kq373, q373a, q373b, q373c⟩ := isOf hZ e369 p366_0
                obtain ⟨_, _, ⟨T373, L373, k373, n373⟩, -, X373, ⟨Lc373, hQ373, l373, y373, z373⟩, st373⟩ := X369.virtualBack hx (y := (⟨"com/example/spindle/spindle/SpinRule", "spinNanos", "(J)J"⟩ : MethodName)) (z := (⟨"com/example/spindle/spindle/SpinRule", "spinNanos", "(J)J"⟩ : MethodName)) hown (mvT hZ (ww hw 11 rfl)) (mvT hZ (ww hw 12 rfl)) (notFace_of_selects (args := #[]) (mvT hZ (ww hw 14 rfl))) (mvT hZ (ww hw 14 rfl)) (mvT hZ (ww hw 13 rfl)) (by decide) (backOf (W := 0) (rm3_37 l Z a0 hw [] b14 q2  T366.heap n0  p366_0 p366_1 p366_2 p366_3 g_b14  c370 ) hZ (ww hw 15 rfl) (ww hw 2 rfl) (by decide) (by decide)) q373a q373c (g := (mkF m 233 (Sh9 q1 q2 q3 1 2 b7 b11 b14 1 0 0) [(.long q2), (.ref b14)])) rfl (by rw [hml]; rfl) (Steps.refl _) (argsL := [(.long q2)]) (rest := []) (lenOf pd_28J29J rfl) rfl (by show 2 * 0 + _ ≤ _; exact Nat.le_of_eq rfl) (hb hby at_233) (fun _ _ => ⟨rfl, e369, (by decide : 1 + 0 ≤ _), (by decide : 3 + 0 ≤ _)⟩)
                dsimp only [Pt.U, Pt.locs, Pt.cells, Pt.slots] at X373 l373 y373 z373 st373 hQ373
                subst l373 y373 z373
                obtain ⟨rfl, N373q, K373, p373_0, p373_1, p373_2, p373_3⟩ := hQ373
                have N373 := Fr.app N369 N373q
                have Zs_373 : n0 ≤ T373.heap.size := Nat.le_trans Zs_366 K373.1
                refine GoW.sg (mkF m 236 (Sh9 q1 q2 q3 1 2 b7 b11 b14 1 0 0) [(.long q2)]) (fun t k => st373.trans k) ?_
                refine GoW.sg (mkF m 238 (Sh10 q1 q2 q3 1 2 b7 b11 b14 1 0 0 q2) []) (fun t k => XS.lstore X373.here hx rfl (hb hby at_236) rfl (l' := (Sh10 q1 q2 q3 1 2 b7 b11 b14 1 0 0 q2)) rfl k) ?_
                refine GoW.sg (mkF m 239 (Sh10 q1 q2 q3 1 2 b7 b11 b14 1 0 0 q2) [(.long q2)]) (fun t k => XS.lloadN X373.here hx rfl (hb hby at_238) rfl k) ?_
                refine GoW.sg (mkF m 242 (Sh10 q1 q2 q3 1 2 b7 b11 b14 1 0 0 q2) [(.long 20000), (.long q2)]) (fun t k => X373.ldc2Long hx hown (mvT hZ (ww hw 21 rfl)) (g := (mkF m 239 (Sh10 q1 q2 q3 1 2 b7 b11 b14 1 0 0 q2) [(.long q2)])) rfl (hb hby at_239) t k) ?_
                refine GoW.sg (mkF m 243 (Sh10 q1 q2 q3 1 2 b7 b11 b14 1 0 0 q2) [(.int (lcmpW q2 (20000 : Int64)))]) (fun t k => XS.lcmp X373.here hx rfl (hb hby at_242) rfl k) ?_
                refine GoW.sg (mkF m 246 (Sh10 q1 q2 q3 1 2 b7 b11 b14 1 0 0 q2) []) (fun t k => XS.ifNo X373.here hx rfl (hb hby at_243) rfl ((if0 _ _).trans (flt (mt (lw_gt _ _).mp c370)).2.2.1) k) ?_
                refine GoW.sg (mkF m 247 (Sh10 q1 q2 q3 1 2 b7 b11 b14 1 0 0 q2) [(.long q2)]) (fun t k => XS.lloadN X373.here hx rfl (hb hby at_246) rfl k) ?_
                refine GoW.sg (mkF m 251 (Sh10 q1 q2 q3 1 2 b7 b11 b14 1 0 0 q2) [(.long q2)]) (fun t k => XS.goto X373.here hx rfl (pc0 := 247) (pc' := 251) rfl (hb hby at_247) (by decide) (by decide) k) ?_
                refine GoW.sg (mkF m 253 (Sh11 q1 q2 q3 1 2 b7 b11 b14 1 0 0 q2 q2) []) (fun t k => XS.lstore X373.here hx rfl (hb hby at_251) rfl (l' := (Sh11 q1 q2 q3 1 2 b7 b11 b14 1 0 0 q2 q2)) rfl k) ?_
                refine GoW.sg (mkF m 255 (Sh11 q1 q2 q3 1 2 b7 b11 b14 1 0 0 q2 q2) [(.int 1)]) (fun t k => XS.iload X373.here hx rfl (hb hby at_253) rfl k) ?_
                refine GoW.sg (mkF m 258 (Sh11 q1 q2 q3 1 2 b7 b11 b14 1 0 0 q2 q2) []) (fun t k => XS.ifNo X373.here hx rfl (hb hby at_255) rfl (by decide) k) ?_
                refine GoW.sg (mkF m 260 (Sh11 q1 q2 q3 1 2 b7 b11 b14 1 0 0 q2 q2) [(.long q2)]) (fun t k => XS.lload X373.here hx rfl (hb hby at_258) rfl k) ?_
                refine GoW.sg (mkF m 262 (Sh11 q1 q2 q3 1 2 b7 b11 b14 1 0 0 q2 q2) [(.long q2), (.long q2)]) (fun t k => XS.lload X373.here hx rfl (hb hby at_260) rfl k) ?_
                refine GoW.sg (mkF m 263 (Sh11 q1 q2 q3 1 2 b7 b11 b14 1 0 0 q2 q2) [(.int (lcmpW q2 q2))]) (fun t k => XS.lcmp X373.here hx rfl (hb hby at_262) rfl k) ?_
                refine GoW.sg (mkF m 266 (Sh11 q1 q2 q3 1 2 b7 b11 b14 1 0 0 q2 q2) []) (fun t k => XS.ifNo X373.here hx rfl (hb hby at_263) rfl ((if0 _ _).trans (teq ((lw_eq _ _).mpr rfl)).2) k) ?_
                refine GoW.sg (mkF m 267 (Sh11 q1 q2 q3 1 2 b7 b11 b14 1 0 0 q2 q2) [(.int 1)]) (fun t k => XS.iconst X373.here hx rfl (hb hby at_266) k) ?_
                refine GoW.sg (mkF m 271 (Sh11 q1 q2 q3 1 2 b7 b11 b14 1 0 0 q2 q2) [(.int 1)]) (fun t k => XS.goto X373.here hx rfl (pc0 := 267) (pc' := 271) rfl (hb hby at_267) (by decide) (by decide) k) ?_
                refine GoW.sg (mkF m 273 (Sh11 q1 q2 q3 1 2 b7 b11 b14 1 0 0 q2 q2) []) (fun t k => XS.istore X373.here hx rfl (hb hby at_271) rfl (l' := (Sh11 q1 q2 q3 1 2 b7 b11 b14 1 0 0 q2 q2)) rfl k) ?_
                refine GoW.sg (mkF m 275 (Sh11 q1 q2 q3 1 2 b7 b11 b14 1 0 0 q2 q2) [(.int 1)]) (fun t k => XS.iload X373.here hx rfl (hb hby at_273) rfl k) ?_
                refine GoW.sg (mkF m 278 (Sh11 q1 q2 q3 1 2 b7 b11 b14 1 0 0 q2 q2) []) (fun t k => XS.ifNo X373.here hx rfl (hb hby at_275) rfl (by decide) k) ?_
                refine GoW.sg (mkF m 280 (Sh11 q1 q2 q3 1 2 b7 b11 b14 1 0 0 q2 q2) [(.ref b14)]) (fun t k => XS.aload X373.here hx rfl (hb hby at_278) rfl rfl k) ?_
                refine GoW.sg (mkF m 281 (Sh11 q1 q2 q3 1 2 b7 b11 b14 1 0 0 q2 q2) [(.long 0), (.ref b14)]) (fun t k => XS.lconst X373.here hx rfl (hb hby at_280) k) ?_
                obtain ⟨cq374, kq374, q374a, q374b, q374c⟩ := isOf hZ rfl p373_0
                obtain ⟨_, _, ⟨T374, L374, k374, n374⟩, -, X374, ⟨Lc374, hQ374, l374, y374, z374⟩, st374⟩ := X373.virtualBack hx (y := (⟨"com/example/spindle/spindle/SpinRule", "timesWait", "(J)Z"⟩ : MethodName)) (z := (⟨"com/example/spindle/spindle/SpinRule", "timesWait", "(J)Z"⟩ : MethodName)) hown (mvT hZ (ww hw 22 rfl)) (mvT hZ (ww hw 23 rfl)) (notFace_of_selects (args := #[]) (mvT hZ (ww hw 25 rfl))) (mvT hZ (ww hw 25 rfl)) (mvT hZ (ww hw 24 rfl)) (by decide) (backOf (W := 0) (rm4_34 l Z a0 hw [] b14  T373.heap n0  p373_0 p373_1 p373_2 p373_3    ) hZ (ww hw 26 rfl) (ww hw 2 rfl) (by decide) (by decide)) q374a q374c (g := (mkF m 281 (Sh11 q1 q2 q3 1 2 b7 b11 b14 1 0 0 q2 q2) [(.long 0), (.ref b14)])) rfl (by rw [hml]; rfl) (Steps.refl _) (argsL := [(.long (0 : Int64))]) (rest := []) (lenOf pd_28J29Z rfl) rfl (by show 2 * 0 + _ ≤ _; exact Nat.le_of_eq rfl) (hb hby at_281) (fun _ _ => ⟨rfl, rfl, (by decide : 1 + 0 ≤ _), (by decide : 3 + 0 ≤ _)⟩)
                dsimp only [Pt.U, Pt.locs, Pt.cells, Pt.slots] at X374 l374 y374 z374 st374 hQ374
                subst l374 y374 z374
                obtain ⟨rfl, N374q, e374⟩ := hQ374
                have N374 := Fr.app N373 N374q
                refine GoW.sg (mkF m 284 (Sh11 q1 q2 q3 1 2 b7 b11 b14 1 0 0 q2 q2) [(.int 0)]) (fun t k => st374.trans k) ?_
                refine GoW.sg (mkF m 287 (Sh11 q1 q2 q3 1 2 b7 b11 b14 1 0 0 q2 q2) []) (fun t k => XS.ifNo X374.here hx rfl (hb hby at_284) rfl (by decide) k) ?_
                refine GoW.sg (mkF m 288 (Sh11 q1 q2 q3 1 2 b7 b11 b14 1 0 0 q2 q2) [(.int 1)]) (fun t k => XS.iconst X374.here hx rfl (hb hby at_287) k) ?_
                refine GoW.sg (mkF m 292 (Sh11 q1 q2 q3 1 2 b7 b11 b14 1 0 0 q2 q2) [(.int 1)]) (fun t k => XS.goto X374.here hx rfl (pc0 := 288) (pc' := 292) rfl (hb hby at_288) (by decide) (by decide) k) ?_
                refine GoW.sg (mkF m 294 (Sh11 q1 q2 q3 1 2 b7 b11 b14 1 0 0 q2 q2) []) (fun t k => XS.istore X374.here hx rfl (hb hby at_292) rfl (l' := (Sh11 q1 q2 q3 1 2 b7 b11 b14 1 0 0 q2 q2)) rfl k) ?_
                refine GoW.sg (mkF m 296 (Sh11 q1 q2 q3 1 2 b7 b11 b14 1 0 0 q2 q2) [(.int 1)]) (fun t k => XS.iload X374.here hx rfl (hb hby at_294) rfl k) ?_
                refine GoW.retN X374 hx (t := .boolean) Bd.returns (by simp) (hb hby at_296) Bd.notSynchronized ?_ (by decide) (by decide)
                exact ⟨rfl, N374⟩
            · show GoW p e below s (ValQ (.int (1 : Int32)) n0) room_1.cells room_1.slots (T354.setTop (mkF m 140 (Sh8 q1 q2 q3 1 2 b7 b11 b14 1 20000) []))
              refine GoW.sg (mkF m 142 (Sh8 q1 q2 q3 1 2 b7 b11 b14 1 20000) [(.ref b14)]) (fun t k => XS.aload X354.here hx rfl (hb hby at_140) rfl rfl k) ?_
              refine GoW.sg (mkF m 144 (Sh8 q1 q2 q3 1 2 b7 b11 b14 1 20000) [(.long b11), (.ref b14)]) (fun t k => XS.lload X354.here hx rfl (hb hby at_142) rfl k) ?_
              obtain ⟨cq381, kq381, q381a, q381b, q381c⟩ := isOf hZ rfl p354_0
              obtain ⟨_, _, ⟨T381, L381, k381, n381⟩, -, X381, ⟨Lc381, hQ381, l381, y381, z381⟩, st381⟩ := X354.virtualBack hx (y := (⟨"com/example/spindle/spindle/SpinRule", "spinNanos", "(J)J"⟩ : MethodName)) (z := (⟨"com/example/spindle/spindle/SpinRule", "spinNanos", "(J)J"⟩ : MethodName)) hown (mvT hZ (ww hw 11 rfl)) (mvT hZ (ww hw 12 rfl)) (notFace_of_selects (args := #[]) (mvT hZ (ww hw 14 rfl))) (mvT hZ (ww hw 14 rfl)) (mvT hZ (ww hw 13 rfl)) (by decide) (backOf (W := 0) (rm3_41 l Z a0 hw [] b14 b11  T354.heap n0  p354_0 p354_1 p354_2 p354_3 g_b14  c355 ) hZ (ww hw 15 rfl) (ww hw 2 rfl) (by decide) (by decide)) q381a q381c (g := (mkF m 144 (Sh8 q1 q2 q3 1 2 b7 b11 b14 1 20000) [(.long b11), (.ref b14)])) rfl (by rw [hml]; rfl) (Steps.refl _) (argsL := [(.long b11)]) (rest := []) (lenOf pd_28J29J rfl) rfl (by show 2 * 0 + _ ≤ _; exact Nat.le_of_eq rfl) (hb hby at_144) (fun _ _ => ⟨rfl, rfl, (by decide : 1 + 0 ≤ _), (by decide : 3 + 0 ≤ _)⟩)
              dsimp only [Pt.U, Pt.locs, Pt.cells, Pt.slots] at X381 l381 y381 z381 st381 hQ381
              subst l381 y381 z381
              obtain ⟨rfl, N381q, K381, p381_0, p381_1, p381_2, p381_3⟩ := hQ381
              have N381 := Fr.app N354 N381q
              have Zs_381 : n0 ≤ T381.heap.size := Nat.le_trans Zs_354 K381.1
              refine GoW.sg (mkF m 147 (Sh8 q1 q2 q3 1 2 b7 b11 b14 1 20000) [(.long b11)]) (fun t k => st381.trans k) ?_
              refine GoW.sg (mkF m 149 (Sh8 q1 q2 q3 1 2 b7 b11 b14 1 b11) []) (fun t k => XS.lstore X381.here hx rfl (hb hby at_147) rfl (l' := (Sh8 q1 q2 q3 1 2 b7 b11 b14 1 b11)) rfl k) ?_
              refine GoW.sg (mkF m 151 (Sh8 q1 q2 q3 1 2 b7 b11 b14 1 b11) [(.long b11)]) (fun t k => XS.lload X381.here hx rfl (hb hby at_149) rfl k) ?_
              refine GoW.sg (mkF m 154 (Sh8 q1 q2 q3 1 2 b7 b11 b14 1 b11) [(.long 20000), (.long b11)]) (fun t k => X381.ldc2Long hx hown (mvT hZ (ww hw 21 rfl)) (g := (mkF m 151 (Sh8 q1 q2 q3 1 2 b7 b11 b14 1 b11) [(.long b11)])) rfl (hb hby at_151) t k) ?_
              refine GoW.sg (mkF m 155 (Sh8 q1 q2 q3 1 2 b7 b11 b14 1 b11) [(.int (lcmpW b11 (20000 : Int64)))]) (fun t k => XS.lcmp X381.here hx rfl (hb hby at_154) rfl k) ?_
              refine GoW.sg (mkF m 158 (Sh8 q1 q2 q3 1 2 b7 b11 b14 1 b11) []) (fun t k => XS.ifNo X381.here hx rfl (hb hby at_155) rfl ((if0 _ _).trans (flt (mt (lw_gt _ _).mp c355)).2.2.1) k) ?_
              refine GoW.sg (mkF m 160 (Sh8 q1 q2 q3 1 2 b7 b11 b14 1 b11) [(.long b11)]) (fun t k => XS.lload X381.here hx rfl (hb hby at_158) rfl k) ?_
              refine GoW.sg (mkF m 162 (Sh9 q1 q2 q3 1 2 b7 b11 b14 1 b11 b11) []) (fun t k => XS.lstore X381.here hx rfl (hb hby at_160) rfl (l' := (Sh9 q1 q2 q3 1 2 b7 b11 b14 1 b11 b11)) rfl k) ?_
              refine GoW.sg (mkF m 187 (Sh9 q1 q2 q3 1 2 b7 b11 b14 1 b11 b11) []) (fun t k => XS.goto X381.here hx rfl (pc0 := 162) (pc' := 187) rfl (hb hby at_162) (by decide) (by decide) k) ?_
              refine GoW.sg (mkF m 189 (Sh9 q1 q2 q3 1 2 b7 b11 b14 1 b11 b11) [(.int 1)]) (fun t k => XS.iload X381.here hx rfl (hb hby at_187) rfl k) ?_
              refine GoW.sg (mkF m 192 (Sh9 q1 q2 q3 1 2 b7 b11 b14 1 b11 b11) []) (fun t k => XS.ifNo X381.here hx rfl (hb hby at_189) rfl (by decide) k) ?_
              refine GoW.sg (mkF m 194 (Sh9 q1 q2 q3 1 2 b7 b11 b14 1 b11 b11) [(.long b11)]) (fun t k => XS.lload X381.here hx rfl (hb hby at_192) rfl k) ?_
              refine GoW.sg (mkF m 196 (Sh9 q1 q2 q3 1 2 b7 b11 b14 1 b11 b11) [(.long b11), (.long b11)]) (fun t k => XS.lload X381.here hx rfl (hb hby at_194) rfl k) ?_
              refine GoW.sg (mkF m 197 (Sh9 q1 q2 q3 1 2 b7 b11 b14 1 b11 b11) [(.int (lcmpW b11 b11))]) (fun t k => XS.lcmp X381.here hx rfl (hb hby at_196) rfl k) ?_
              refine GoW.sg (mkF m 200 (Sh9 q1 q2 q3 1 2 b7 b11 b14 1 b11 b11) []) (fun t k => XS.ifNo X381.here hx rfl (hb hby at_197) rfl ((if0 _ _).trans (teq ((lw_eq _ _).mpr rfl)).2) k) ?_
              refine GoW.sg (mkF m 201 (Sh9 q1 q2 q3 1 2 b7 b11 b14 1 b11 b11) [(.int 1)]) (fun t k => XS.iconst X381.here hx rfl (hb hby at_200) k) ?_
              refine GoW.sg (mkF m 205 (Sh9 q1 q2 q3 1 2 b7 b11 b14 1 b11 b11) [(.int 1)]) (fun t k => XS.goto X381.here hx rfl (pc0 := 201) (pc' := 205) rfl (hb hby at_201) (by decide) (by decide) k) ?_
              refine GoW.sg (mkF m 207 (Sh9 q1 q2 q3 1 2 b7 b11 b14 1 b11 b11) []) (fun t k => XS.istore X381.here hx rfl (hb hby at_205) rfl (l' := (Sh9 q1 q2 q3 1 2 b7 b11 b14 1 b11 b11)) rfl k) ?_
              refine GoW.sg (mkF m 209 (Sh9 q1 q2 q3 1 2 b7 b11 b14 1 b11 b11) [(.int 1)]) (fun t k => XS.iload X381.here hx rfl (hb hby at_207) rfl k) ?_
              refine GoW.sg (mkF m 212 (Sh9 q1 q2 q3 1 2 b7 b11 b14 1 b11 b11) []) (fun t k => XS.ifNo X381.here hx rfl (hb hby at_209) rfl (by decide) k) ?_
              refine GoW.sg (mkF m 214 (Sh9 q1 q2 q3 1 2 b7 b11 b14 1 b11 b11) [(.ref b14)]) (fun t k => XS.aload X381.here hx rfl (hb hby at_212) rfl rfl k) ?_
              refine GoW.sg (mkF m 215 (Sh9 q1 q2 q3 1 2 b7 b11 b14 1 b11 b11) [(.long 0), (.ref b14)]) (fun t k => XS.lconst X381.here hx rfl (hb hby at_214) k) ?_
              obtain ⟨cq382, kq382, q382a, q382b, q382c⟩ := isOf hZ rfl p381_0
              obtain ⟨_, _, ⟨T382, L382, k382, n382⟩, -, X382, ⟨Lc382, hQ382, l382, y382, z382⟩, st382⟩ := X381.virtualBack hx (y := (⟨"com/example/spindle/spindle/SpinRule", "timesWait", "(J)Z"⟩ : MethodName)) (z := (⟨"com/example/spindle/spindle/SpinRule", "timesWait", "(J)Z"⟩ : MethodName)) hown (mvT hZ (ww hw 22 rfl)) (mvT hZ (ww hw 23 rfl)) (notFace_of_selects (args := #[]) (mvT hZ (ww hw 25 rfl))) (mvT hZ (ww hw 25 rfl)) (mvT hZ (ww hw 24 rfl)) (by decide) (backOf (W := 0) (rm4_40 l Z a0 hw [] b14  T381.heap n0  p381_0 p381_1 p381_2 p381_3    ) hZ (ww hw 26 rfl) (ww hw 2 rfl) (by decide) (by decide)) q382a q382c (g := (mkF m 215 (Sh9 q1 q2 q3 1 2 b7 b11 b14 1 b11 b11) [(.long 0), (.ref b14)])) rfl (by rw [hml]; rfl) (Steps.refl _) (argsL := [(.long (0 : Int64))]) (rest := []) (lenOf pd_28J29Z rfl) rfl (by show 2 * 0 + _ ≤ _; exact Nat.le_of_eq rfl) (hb hby at_215) (fun _ _ => ⟨rfl, rfl, (by decide : 1 + 0 ≤ _), (by decide : 3 + 0 ≤ _)⟩)
              dsimp only [Pt.U, Pt.locs, Pt.cells, Pt.slots] at X382 l382 y382 z382 st382 hQ382
              subst l382 y382 z382
              obtain ⟨rfl, N382q, e382⟩ := hQ382
              have N382 := Fr.app N381 N382q
              refine GoW.sg (mkF m 218 (Sh9 q1 q2 q3 1 2 b7 b11 b14 1 b11 b11) [(.int 1)]) (fun t k => st382.trans k) ?_
              refine GoW.sg (mkF m 220 (Sh9 q1 q2 q3 1 2 b7 b11 b14 1 b11 b11) [(.int 1), (.int 1)]) (fun t k => XS.iload X382.here hx rfl (hb hby at_218) rfl k) ?_
              refine GoW.sg (mkF m 223 (Sh9 q1 q2 q3 1 2 b7 b11 b14 1 b11 b11) []) (fun t k => XS.icmpNo X382.here hx rfl (hb hby at_220) rfl (by decide) k) ?_
              refine GoW.sg (mkF m 224 (Sh9 q1 q2 q3 1 2 b7 b11 b14 1 b11 b11) [(.int 1)]) (fun t k => XS.iconst X382.here hx rfl (hb hby at_223) k) ?_
              refine GoW.sg (mkF m 228 (Sh9 q1 q2 q3 1 2 b7 b11 b14 1 b11 b11) [(.int 1)]) (fun t k => XS.goto X382.here hx rfl (pc0 := 224) (pc' := 228) rfl (hb hby at_224) (by decide) (by decide) k) ?_
              refine GoW.sg (mkF m 230 (Sh9 q1 q2 q3 1 2 b7 b11 b14 1 b11 b11) []) (fun t k => XS.istore X382.here hx rfl (hb hby at_228) rfl (l' := (Sh9 q1 q2 q3 1 2 b7 b11 b14 1 b11 b11)) rfl k) ?_
              by_cases c383 : (20000 : Int64) < q2
              · show GoW p e below s (ValQ (.int (1 : Int32)) n0) room_1.cells room_1.slots (T382.setTop (mkF m 230 (Sh9 q1 q2 q3 1 2 b7 b11 b14 1 b11 b11) []))
                refine GoW.sg (mkF m 232 (Sh9 q1 q2 q3 1 2 b7 b11 b14 1 b11 b11) [(.ref b14)]) (fun t k => XS.aload X382.here hx rfl (hb hby at_230) rfl rfl k) ?_
                refine GoW.sg (mkF m 233 (Sh9 q1 q2 q3 1 2 b7 b11 b14 1 b11 b11) [(.long q2), (.ref b14)]) (fun t k => XS.lloadN X382.here hx rfl (hb hby at_232) rfl k) ?_
                obtain ⟨cq384, kq384, q384a, q384b, q384c⟩ := isOf hZ e382 p381_0
                obtain ⟨_, _, ⟨T384, L384, k384, n384⟩, -, X384, ⟨Lc384, hQ384, l384, y384, z384⟩, st384⟩ := X382.virtualBack hx (y := (⟨"com/example/spindle/spindle/SpinRule", "spinNanos", "(J)J"⟩ : MethodName)) (z := (⟨"com/example/spindle/spindle/SpinRule", "spinNanos", "(J)J"⟩ : MethodName)) hown (mvT hZ (ww hw 11 rfl)) (mvT hZ (ww hw 12 rfl)) (notFace_of_selects (args := #[]) (mvT hZ (ww hw 14 rfl))) (mvT hZ (ww hw 14 rfl)) (mvT hZ (ww hw 13 rfl)) (by decide) (backOf (W := 0) (rm3_33 l Z a0 hw [] b14 q2  T381.heap n0  p381_0 p381_1 p381_2 p381_3 g_b14  c383 ) hZ (ww hw 15 rfl) (ww hw 2 rfl) (by decide) (by decide)) q384a q384c (g := (mkF m 233 (Sh9 q1 q2 q3 1 2 b7 b11 b14 1 b11 b11) [(.long q2), (.ref b14)])) rfl (by rw [hml]; rfl) (Steps.refl _) (argsL := [(.long q2)]) (rest := []) (lenOf pd_28J29J rfl) rfl (by show 2 * 0 + _ ≤ _; exact Nat.le_of_eq rfl) (hb hby at_233) (fun _ _ => ⟨rfl, e382, (by decide : 1 + 0 ≤ _), (by decide : 3 + 0 ≤ _)⟩)
                dsimp only [Pt.U, Pt.locs, Pt.cells, Pt.slots] at X384 l384 y384 z384 st384 hQ384
                subst l384 y384 z384
                obtain ⟨rfl, N384q, K384, p384_0, p384_1, p384_2, p384_3⟩ := hQ384
                have N384 := Fr.app N382 N384q
                have Zs_384 : n0 ≤ T384.heap.size := Nat.le_trans Zs_381 K384.1
                refine GoW.sg (mkF m 236 (Sh9 q1 q2 q3 1 2 b7 b11 b14 1 b11 b11) [(.long 0)]) (fun t k => st384.trans k) ?_
                refine GoW.sg (mkF m 238 (Sh10 q1 q2 q3 1 2 b7 b11 b14 1 b11 b11 0) []) (fun t k => XS.lstore X384.here hx rfl (hb hby at_236) rfl (l' := (Sh10 q1 q2 q3 1 2 b7 b11 b14 1 b11 b11 0)) rfl k) ?_
                refine GoW.sg (mkF m 239 (Sh10 q1 q2 q3 1 2 b7 b11 b14 1 b11 b11 0) [(.long q2)]) (fun t k => XS.lloadN X384.here hx rfl (hb hby at_238) rfl k) ?_
                refine GoW.sg (mkF m 242 (Sh10 q1 q2 q3 1 2 b7 b11 b14 1 b11 b11 0) [(.long 20000), (.long q2)]) (fun t k => X384.ldc2Long hx hown (mvT hZ (ww hw 21 rfl)) (g := (mkF m 239 (Sh10 q1 q2 q3 1 2 b7 b11 b14 1 b11 b11 0) [(.long q2)])) rfl (hb hby at_239) t k) ?_
                refine GoW.sg (mkF m 243 (Sh10 q1 q2 q3 1 2 b7 b11 b14 1 b11 b11 0) [(.int (lcmpW q2 (20000 : Int64)))]) (fun t k => XS.lcmp X384.here hx rfl (hb hby at_242) rfl k) ?_
                refine GoW.sg (mkF m 250 (Sh10 q1 q2 q3 1 2 b7 b11 b14 1 b11 b11 0) []) (fun t k => XS.ifYes X384.here hx rfl (pc0 := 243) (pc' := 250) rfl (hb hby at_243) rfl ((if0 _ _).trans (tlt ((lw_gt _ _).mpr c383)).2.2.1) (by decide) (by decide) k) ?_
                refine GoW.sg (mkF m 251 (Sh10 q1 q2 q3 1 2 b7 b11 b14 1 b11 b11 0) [(.long 0)]) (fun t k => XS.lconst X384.here hx rfl (hb hby at_250) k) ?_
                refine GoW.sg (mkF m 253 (Sh11 q1 q2 q3 1 2 b7 b11 b14 1 b11 b11 0 0) []) (fun t k => XS.lstore X384.here hx rfl (hb hby at_251) rfl (l' := (Sh11 q1 q2 q3 1 2 b7 b11 b14 1 b11 b11 0 0)) rfl k) ?_
                refine GoW.sg (mkF m 255 (Sh11 q1 q2 q3 1 2 b7 b11 b14 1 b11 b11 0 0) [(.int 1)]) (fun t k => XS.iload X384.here hx rfl (hb hby at_253) rfl k) ?_
                refine GoW.sg (mkF m 258 (Sh11 q1 q2 q3 1 2 b7 b11 b14 1 b11 b11 0 0) []) (fun t k => XS.ifNo X384.here hx rfl (hb hby at_255) rfl (by decide) k) ?_
                refine GoW.sg (mkF m 260 (Sh11 q1 q2 q3 1 2 b7 b11 b14 1 b11 b11 0 0) [(.long 0)]) (fun t k => XS.lload X384.here hx rfl (hb hby at_258) rfl k) ?_
                refine GoW.sg (mkF m 262 (Sh11 q1 q2 q3 1 2 b7 b11 b14 1 b11 b11 0 0) [(.long 0), (.long 0)]) (fun t k => XS.lload X384.here hx rfl (hb hby at_260) rfl k) ?_
                refine GoW.sg (mkF m 263 (Sh11 q1 q2 q3 1 2 b7 b11 b14 1 b11 b11 0 0) [(.int (lcmpW (0 : Int64) (0 : Int64)))]) (fun t k => XS.lcmp X384.here hx rfl (hb hby at_262) rfl k) ?_
                refine GoW.sg (mkF m 266 (Sh11 q1 q2 q3 1 2 b7 b11 b14 1 b11 b11 0 0) []) (fun t k => XS.ifNo X384.here hx rfl (hb hby at_263) rfl (by decide) k) ?_
                refine GoW.sg (mkF m 267 (Sh11 q1 q2 q3 1 2 b7 b11 b14 1 b11 b11 0 0) [(.int 1)]) (fun t k => XS.iconst X384.here hx rfl (hb hby at_266) k) ?_
                refine GoW.sg (mkF m 271 (Sh11 q1 q2 q3 1 2 b7 b11 b14 1 b11 b11 0 0) [(.int 1)]) (fun t k => XS.goto X384.here hx rfl (pc0 := 267) (pc' := 271) rfl (hb hby at_267) (by decide) (by decide) k) ?_
                refine GoW.sg (mkF m 273 (Sh11 q1 q2 q3 1 2 b7 b11 b14 1 b11 b11 0 0) []) (fun t k => XS.istore X384.here hx rfl (hb hby at_271) rfl (l' := (Sh11 q1 q2 q3 1 2 b7 b11 b14 1 b11 b11 0 0)) rfl k) ?_
                refine GoW.sg (mkF m 275 (Sh11 q1 q2 q3 1 2 b7 b11 b14 1 b11 b11 0 0) [(.int 1)]) (fun t k => XS.iload X384.here hx rfl (hb hby at_273) rfl k) ?_
                refine GoW.sg (mkF m 278 (Sh11 q1 q2 q3 1 2 b7 b11 b14 1 b11 b11 0 0) []) (fun t k => XS.ifNo X384.here hx rfl (hb hby at_275) rfl (by decide) k) ?_
                refine GoW.sg (mkF m 280 (Sh11 q1 q2 q3 1 2 b7 b11 b14 1 b11 b11 0 0) [(.ref b14)]) (fun t k => XS.aload X384.here hx rfl (hb hby at_278) rfl rfl k) ?_
                refine GoW.sg (mkF m 281 (Sh11 q1 q2 q3 1 2 b7 b11 b14 1 b11 b11 0 0) [(.long 0), (.ref b14)]) (fun t k => XS.lconst X384.here hx rfl (hb hby at_280) k) ?_
                obtain ⟨cq385, kq385, q385a, q385b, q385c⟩ := isOf hZ rfl p384_0
                obtain ⟨_, _, ⟨T385, L385, k385, n385⟩, -, X385, ⟨Lc385, hQ385, l385, y385, z385⟩, st385⟩ := X384.virtualBack hx (y := (⟨"com/example/spindle/spindle/SpinRule", "timesWait", "(J)Z"⟩ : MethodName)) (z := (⟨"com/example/spindle/spindle/SpinRule", "timesWait", "(J)Z"⟩ : MethodName)) hown (mvT hZ (ww hw 22 rfl)) (mvT hZ (ww hw 23 rfl)) (notFace_of_selects (args := #[]) (mvT hZ (ww hw 25 rfl))) (mvT hZ (ww hw 25 rfl)) (mvT hZ (ww hw 24 rfl)) (by decide) (backOf (W := 0) (rm4_34 l Z a0 hw [] b14  T384.heap n0  p384_0 p384_1 p384_2 p384_3    ) hZ (ww hw 26 rfl) (ww hw 2 rfl) (by decide) (by decide)) q385a q385c (g := (mkF m 281 (Sh11 q1 q2 q3 1 2 b7 b11 b14 1 b11 b11 0 0) [(.long 0), (.ref b14)])) rfl (by rw [hml]; rfl) (Steps.refl _) (argsL := [(.long (0 : Int64))]) (rest := []) (lenOf pd_28J29Z rfl) rfl (by show 2 * 0 + _ ≤ _; exact Nat.le_of_eq rfl) (hb hby at_281) (fun _ _ => ⟨rfl, rfl, (by decide : 1 + 0 ≤ _), (by decide : 3 + 0 ≤ _)⟩)
                dsimp only [Pt.U, Pt.locs, Pt.cells, Pt.slots] at X385 l385 y385 z385 st385 hQ385
                subst l385 y385 z385
                obtain ⟨rfl, N385q, e385⟩ := hQ385
                have N385 := Fr.app N384 N385q
                refine GoW.sg (mkF m 284 (Sh11 q1 q2 q3 1 2 b7 b11 b14 1 b11 b11 0 0) [(.int 0)]) (fun t k => st385.trans k) ?_
                refine GoW.sg (mkF m 287 (Sh11 q1 q2 q3 1 2 b7 b11 b14 1 b11 b11 0 0) []) (fun t k => XS.ifNo X385.here hx rfl (hb hby at_284) rfl (by decide) k) ?_
                refine GoW.sg (mkF m 288 (Sh11 q1 q2 q3 1 2 b7 b11 b14 1 b11 b11 0 0) [(.int 1)]) (fun t k => XS.iconst X385.here hx rfl (hb hby at_287) k) ?_
                refine GoW.sg (mkF m 292 (Sh11 q1 q2 q3 1 2 b7 b11 b14 1 b11 b11 0 0) [(.int 1)]) (fun t k => XS.goto X385.here hx rfl (pc0 := 288) (pc' := 292) rfl (hb hby at_288) (by decide) (by decide) k) ?_
                refine GoW.sg (mkF m 294 (Sh11 q1 q2 q3 1 2 b7 b11 b14 1 b11 b11 0 0) []) (fun t k => XS.istore X385.here hx rfl (hb hby at_292) rfl (l' := (Sh11 q1 q2 q3 1 2 b7 b11 b14 1 b11 b11 0 0)) rfl k) ?_
                refine GoW.sg (mkF m 296 (Sh11 q1 q2 q3 1 2 b7 b11 b14 1 b11 b11 0 0) [(.int 1)]) (fun t k => XS.iload X385.here hx rfl (hb hby at_294) rfl k) ?_
                refine GoW.retN X385 hx (t := .boolean) Bd.returns (by simp) (hb hby at_296) Bd.notSynchronized ?_ (by decide) (by decide)
                exact ⟨rfl, N385⟩
              · show GoW p e below s (ValQ (.int (1 : Int32)) n0) room_1.cells room_1.slots (T382.setTop (mkF m 230 (Sh9 q1 q2 q3 1 2 b7 b11 b14 1 b11 b11) []))
                refine GoW.sg (mkF m 232 (Sh9 q1 q2 q3 1 2 b7 b11 b14 1 b11 b11) [(.ref b14)]) (fun t k => XS.aload X382.here hx rfl (hb hby at_230) rfl rfl k) ?_
                refine GoW.sg (mkF m 233 (Sh9 q1 q2 q3 1 2 b7 b11 b14 1 b11 b11) [(.long q2), (.ref b14)]) (fun t k => XS.lloadN X382.here hx rfl (hb hby at_232) rfl k) ?_
                obtain ⟨cq386, kq386, q386a, q386b, q386c⟩ := isOf hZ e382 p381_0
                obtain ⟨_, _, ⟨T386, L386, k386, n386⟩, -, X386, ⟨Lc386, hQ386, l386, y386, z386⟩, st386⟩ := X382.virtualBack hx (y := (⟨"com/example/spindle/spindle/SpinRule", "spinNanos", "(J)J"⟩ : MethodName)) (z := (⟨"com/example/spindle/spindle/SpinRule", "spinNanos", "(J)J"⟩ : MethodName)) hown (mvT hZ (ww hw 11 rfl)) (mvT hZ (ww hw 12 rfl)) (notFace_of_selects (args := #[]) (mvT hZ (ww hw 14 rfl))) (mvT hZ (ww hw 14 rfl)) (mvT hZ (ww hw 13 rfl)) (by decide) (backOf (W := 0) (rm3_37 l Z a0 hw [] b14 q2  T381.heap n0  p381_0 p381_1 p381_2 p381_3 g_b14  c383 ) hZ (ww hw 15 rfl) (ww hw 2 rfl) (by decide) (by decide)) q386a q386c (g := (mkF m 233 (Sh9 q1 q2 q3 1 2 b7 b11 b14 1 b11 b11) [(.long q2), (.ref b14)])) rfl (by rw [hml]; rfl) (Steps.refl _) (argsL := [(.long q2)]) (rest := []) (lenOf pd_28J29J rfl) rfl (by show 2 * 0 + _ ≤ _; exact Nat.le_of_eq rfl) (hb hby at_233) (fun _ _ => ⟨rfl, e382, (by decide : 1 + 0 ≤ _), (by decide : 3 + 0 ≤ _)⟩)
                dsimp only [Pt.U, Pt.locs, Pt.cells, Pt.slots] at X386 l386 y386 z386 st386 hQ386
                subst l386 y386 z386
                obtain ⟨rfl, N386q, K386, p386_0, p386_1, p386_2, p386_3⟩ := hQ386
                have N386 := Fr.app N382 N386q
                have Zs_386 : n0 ≤ T386.heap.size := Nat.le_trans Zs_381 K386.1
                refine GoW.sg (mkF m 236 (Sh9 q1 q2 q3 1 2 b7 b11 b14 1 b11 b11) [(.long q2)]) (fun t k => st386.trans k) ?_
                refine GoW.sg (mkF m 238 (Sh10 q1 q2 q3 1 2 b7 b11 b14 1 b11 b11 q2) []) (fun t k => XS.lstore X386.here hx rfl (hb hby at_236) rfl (l' := (Sh10 q1 q2 q3 1 2 b7 b11 b14 1 b11 b11 q2)) rfl k) ?_
                refine GoW.sg (mkF m 239 (Sh10 q1 q2 q3 1 2 b7 b11 b14 1 b11 b11 q2) [(.long q2)]) (fun t k => XS.lloadN X386.here hx rfl (hb hby at_238) rfl k) ?_
                refine GoW.sg (mkF m 242 (Sh10 q1 q2 q3 1 2 b7 b11 b14 1 b11 b11 q2) [(.long 20000), (.long q2)]) (fun t k => X386.ldc2Long hx hown (mvT hZ (ww hw 21 rfl)) (g := (mkF m 239 (Sh10 q1 q2 q3 1 2 b7 b11 b14 1 b11 b11 q2) [(.long q2)])) rfl (hb hby at_239) t k) ?_
                refine GoW.sg (mkF m 243 (Sh10 q1 q2 q3 1 2 b7 b11 b14 1 b11 b11 q2) [(.int (lcmpW q2 (20000 : Int64)))]) (fun t k => XS.lcmp X386.here hx rfl (hb hby at_242) rfl k) ?_
                refine GoW.sg (mkF m 246 (Sh10 q1 q2 q3 1 2 b7 b11 b14 1 b11 b11 q2) []) (fun t k => XS.ifNo X386.here hx rfl (hb hby at_243) rfl ((if0 _ _).trans (flt (mt (lw_gt _ _).mp c383)).2.2.1) k) ?_
                refine GoW.sg (mkF m 247 (Sh10 q1 q2 q3 1 2 b7 b11 b14 1 b11 b11 q2) [(.long q2)]) (fun t k => XS.lloadN X386.here hx rfl (hb hby at_246) rfl k) ?_
                refine GoW.sg (mkF m 251 (Sh10 q1 q2 q3 1 2 b7 b11 b14 1 b11 b11 q2) [(.long q2)]) (fun t k => XS.goto X386.here hx rfl (pc0 := 247) (pc' := 251) rfl (hb hby at_247) (by decide) (by decide) k) ?_
                refine GoW.sg (mkF m 253 (Sh11 q1 q2 q3 1 2 b7 b11 b14 1 b11 b11 q2 q2) []) (fun t k => XS.lstore X386.here hx rfl (hb hby at_251) rfl (l' := (Sh11 q1 q2 q3 1 2 b7 b11 b14 1 b11 b11 q2 q2)) rfl k) ?_
                refine GoW.sg (mkF m 255 (Sh11 q1 q2 q3 1 2 b7 b11 b14 1 b11 b11 q2 q2) [(.int 1)]) (fun t k => XS.iload X386.here hx rfl (hb hby at_253) rfl k) ?_
                refine GoW.sg (mkF m 258 (Sh11 q1 q2 q3 1 2 b7 b11 b14 1 b11 b11 q2 q2) []) (fun t k => XS.ifNo X386.here hx rfl (hb hby at_255) rfl (by decide) k) ?_
                refine GoW.sg (mkF m 260 (Sh11 q1 q2 q3 1 2 b7 b11 b14 1 b11 b11 q2 q2) [(.long q2)]) (fun t k => XS.lload X386.here hx rfl (hb hby at_258) rfl k) ?_
                refine GoW.sg (mkF m 262 (Sh11 q1 q2 q3 1 2 b7 b11 b14 1 b11 b11 q2 q2) [(.long q2), (.long q2)]) (fun t k => XS.lload X386.here hx rfl (hb hby at_260) rfl k) ?_
                refine GoW.sg (mkF m 263 (Sh11 q1 q2 q3 1 2 b7 b11 b14 1 b11 b11 q2 q2) [(.int (lcmpW q2 q2))]) (fun t k => XS.lcmp X386.here hx rfl (hb hby at_262) rfl k) ?_
                refine GoW.sg (mkF m 266 (Sh11 q1 q2 q3 1 2 b7 b11 b14 1 b11 b11 q2 q2) []) (fun t k => XS.ifNo X386.here hx rfl (hb hby at_263) rfl ((if0 _ _).trans (teq ((lw_eq _ _).mpr rfl)).2) k) ?_
                refine GoW.sg (mkF m 267 (Sh11 q1 q2 q3 1 2 b7 b11 b14 1 b11 b11 q2 q2) [(.int 1)]) (fun t k => XS.iconst X386.here hx rfl (hb hby at_266) k) ?_
                refine GoW.sg (mkF m 271 (Sh11 q1 q2 q3 1 2 b7 b11 b14 1 b11 b11 q2 q2) [(.int 1)]) (fun t k => XS.goto X386.here hx rfl (pc0 := 267) (pc' := 271) rfl (hb hby at_267) (by decide) (by decide) k) ?_
                refine GoW.sg (mkF m 273 (Sh11 q1 q2 q3 1 2 b7 b11 b14 1 b11 b11 q2 q2) []) (fun t k => XS.istore X386.here hx rfl (hb hby at_271) rfl (l' := (Sh11 q1 q2 q3 1 2 b7 b11 b14 1 b11 b11 q2 q2)) rfl k) ?_
                refine GoW.sg (mkF m 275 (Sh11 q1 q2 q3 1 2 b7 b11 b14 1 b11 b11 q2 q2) [(.int 1)]) (fun t k => XS.iload X386.here hx rfl (hb hby at_273) rfl k) ?_
                refine GoW.sg (mkF m 278 (Sh11 q1 q2 q3 1 2 b7 b11 b14 1 b11 b11 q2 q2) []) (fun t k => XS.ifNo X386.here hx rfl (hb hby at_275) rfl (by decide) k) ?_
                refine GoW.sg (mkF m 280 (Sh11 q1 q2 q3 1 2 b7 b11 b14 1 b11 b11 q2 q2) [(.ref b14)]) (fun t k => XS.aload X386.here hx rfl (hb hby at_278) rfl rfl k) ?_
                refine GoW.sg (mkF m 281 (Sh11 q1 q2 q3 1 2 b7 b11 b14 1 b11 b11 q2 q2) [(.long 0), (.ref b14)]) (fun t k => XS.lconst X386.here hx rfl (hb hby at_280) k) ?_
                obtain ⟨cq387, kq387, q387a, q387b, q387c⟩ := isOf hZ rfl p386_0
                obtain ⟨_, _, ⟨T387, L387, k387, n387⟩, -, X387, ⟨Lc387, hQ387, l387, y387, z387⟩, st387⟩ := X386.virtualBack hx (y := (⟨"com/example/spindle/spindle/SpinRule", "timesWait", "(J)Z"⟩ : MethodName)) (z := (⟨"com/example/spindle/spindle/SpinRule", "timesWait", "(J)Z"⟩ : MethodName)) hown (mvT hZ (ww hw 22 rfl)) (mvT hZ (ww hw 23 rfl)) (notFace_of_selects (args := #[]) (mvT hZ (ww hw 25 rfl))) (mvT hZ (ww hw 25 rfl)) (mvT hZ (ww hw 24 rfl)) (by decide) (backOf (W := 0) (rm4_34 l Z a0 hw [] b14  T386.heap n0  p386_0 p386_1 p386_2 p386_3    ) hZ (ww hw 26 rfl) (ww hw 2 rfl) (by decide) (by decide)) q387a q387c (g := (mkF m 281 (Sh11 q1 q2 q3 1 2 b7 b11 b14 1 b11 b11 q2 q2) [(.long 0), (.ref b14)])) rfl (by rw [hml]; rfl) (Steps.refl _) (argsL := [(.long (0 : Int64))]) (rest := []) (lenOf pd_28J29Z rfl) rfl (by show 2 * 0 + _ ≤ _; exact Nat.le_of_eq rfl) (hb hby at_281) (fun _ _ => ⟨rfl, rfl, (by decide : 1 + 0 ≤ _), (by decide : 3 + 0 ≤ _)⟩)
                dsimp only [Pt.U, Pt.locs, Pt.cells, Pt.slots] at X387 l387 y387 z387 st387 hQ387
                subst l387 y387 z387
                obtain ⟨rfl, N387q, e387⟩ := hQ387
                have N387 := Fr.app N386 N387q
                refine GoW.sg (mkF m 284 (Sh11 q1 q2 q3 1 2 b7 b11 b14 1 b11 b11 q2 q2) [(.int 0)]) (fun t k => st387.trans k) ?_
                refine GoW.sg (mkF m 287 (Sh11 q1 q2 q3 1 2 b7 b11 b14 1 b11 b11 q2 q2) []) (fun t k => XS.ifNo X387.here hx rfl (hb hby at_284) rfl (by decide) k) ?_
                refine GoW.sg (mkF m 288 (Sh11 q1 q2 q3 1 2 b7 b11 b14 1 b11 b11 q2 q2) [(.int 1)]) (fun t k => XS.iconst X387.here hx rfl (hb hby at_287) k) ?_
                refine GoW.sg (mkF m 292 (Sh11 q1 q2 q3 1 2 b7 b11 b14 1 b11 b11 q2 q2) [(.int 1)]) (fun t k => XS.goto X387.here hx rfl (pc0 := 288) (pc' := 292) rfl (hb hby at_288) (by decide) (by decide) k) ?_
                refine GoW.sg (mkF m 294 (Sh11 q1 q2 q3 1 2 b7 b11 b14 1 b11 b11 q2 q2) []) (fun t k => XS.istore X387.here hx rfl (hb hby at_292) rfl (l' := (Sh11 q1 q2 q3 1 2 b7 b11 b14 1 b11 b11 q2 q2)) rfl k) ?_
                refine GoW.sg (mkF m 296 (Sh11 q1 q2 q3 1 2 b7 b11 b14 1 b11 b11 q2 q2) [(.int 1)]) (fun t k => XS.iload X387.here hx rfl (hb hby at_294) rfl k) ?_
                refine GoW.retN X387 hx (t := .boolean) Bd.returns (by simp) (hb hby at_296) Bd.notSynchronized ?_ (by decide) (by decide)
                exact ⟨rfl, N387⟩
        · subst cc
          show GoW p e below s (ValQ (.int (1 : Int32)) n0) room_1.cells room_1.slots (T19.setTop (mkF m 69 (Sh6 q1 q2 q3 b2 3 b7 b11 b14 1) []))
          refine GoW.sg (mkF m 71 (Sh6 q1 q2 q3 b2 3 b7 b11 b14 1) [(.int 3)]) (fun t k => XS.iload X19.here hx rfl (hb hby at_69) rfl k) ?_
          refine GoW.sg (mkF m 72 (Sh6 q1 q2 q3 b2 3 b7 b11 b14 1) [(.int 1), (.int 3)]) (fun t k => XS.iconst X19.here hx rfl (hb hby at_71) k) ?_
          refine GoW.sg (mkF m 75 (Sh6 q1 q2 q3 b2 3 b7 b11 b14 1) []) (fun t k => XS.icmpNo X19.here hx rfl (hb hby at_72) rfl (by decide) k) ?_
          refine GoW.sg (mkF m 77 (Sh6 q1 q2 q3 b2 3 b7 b11 b14 1) [(.ref b14)]) (fun t k => XS.aload X19.here hx rfl (hb hby at_75) rfl rfl k) ?_
          obtain ⟨cq388, kq388, q388a, q388b, q388c⟩ := isOf hZ rfl p19_0
          obtain ⟨_, _, ⟨T388, L388, k388, n388⟩, -, X388, ⟨Lc388, hQ388, l388, y388, z388⟩, st388⟩ := X19.virtualBack hx (y := (⟨"com/example/spindle/spindle/SpinRule", "handedOn", "()V"⟩ : MethodName)) (z := (⟨"com/example/spindle/spindle/SpinRule", "handedOn", "()V"⟩ : MethodName)) hown (mvT hZ (ww hw 27 rfl)) (mvT hZ (ww hw 28 rfl)) (notFace_of_selects (args := #[]) (mvT hZ (ww hw 30 rfl))) (mvT hZ (ww hw 30 rfl)) (mvT hZ (ww hw 29 rfl)) (by decide) (backOf (W := 0) (rm5_5 l Z a0 hw [] b14  T19.heap n0  p19_0 p19_1 p19_2 p19_3 g_b14   ) hZ (ww hw 31 rfl) (ww hw 2 rfl) (by decide) (by decide)) q388a q388c (g := (mkF m 77 (Sh6 q1 q2 q3 b2 3 b7 b11 b14 1) [(.ref b14)])) rfl (by rw [hml]; rfl) (Steps.refl _) (argsL := []) (rest := []) (lenOf pd_2829V rfl) rfl (by show 2 * 0 + _ ≤ _; exact Nat.le_of_eq rfl) (hb hby at_77) (fun _ _ => ⟨rfl, rfl, (by decide : 1 + 0 ≤ _), (by decide : 3 + 0 ≤ _)⟩)
          dsimp only [Pt.U, Pt.locs, Pt.cells, Pt.slots] at X388 l388 y388 z388 st388 hQ388
          subst l388 y388 z388
          obtain ⟨rfl, N388q, K388, p388_0, p388_1, p388_2, p388_3⟩ := hQ388
          have N388 := Fr.app N19 N388q
          have Zs_388 : n0 ≤ T388.heap.size := Nat.le_trans Zs_19 K388.1
          refine GoW.sg (mkF m 80 (Sh6 q1 q2 q3 b2 3 b7 b11 b14 1) []) (fun t k => st388.trans k) ?_
          refine GoW.sg (mkF m 82 (Sh6 q1 q2 q3 b2 3 b7 b11 b14 1) [(.ref b14)]) (fun t k => XS.aload X388.here hx rfl (hb hby at_80) rfl rfl k) ?_
          refine GoW.sg (mkF m 85 (Sh6 q1 q2 q3 b2 3 b7 b11 b14 1) [(.long 9223372036854775807), (.ref b14)]) (fun t k => X388.ldc2Long hx hown (mvT hZ (ww hw 32 rfl)) (g := (mkF m 82 (Sh6 q1 q2 q3 b2 3 b7 b11 b14 1) [(.ref b14)])) rfl (hb hby at_82) t k) ?_
          obtain ⟨cq389, kq389, q389a, q389b, q389c⟩ := isOf hZ rfl p388_0
          obtain ⟨_, _, ⟨T389, L389, k389, n389⟩, -, X389, ⟨Lc389, hQ389, l389, y389, z389⟩, st389⟩ := X388.virtualBack hx (y := (⟨"com/example/spindle/spindle/SpinRule", "spinNanos", "(J)J"⟩ : MethodName)) (z := (⟨"com/example/spindle/spindle/SpinRule", "spinNanos", "(J)J"⟩ : MethodName)) hown (mvT hZ (ww hw 11 rfl)) (mvT hZ (ww hw 12 rfl)) (notFace_of_selects (args := #[]) (mvT hZ (ww hw 14 rfl))) (mvT hZ (ww hw 14 rfl)) (mvT hZ (ww hw 13 rfl)) (by decide) (backOf (W := 0) (rm3_11 l Z a0 hw [] b14  T388.heap n0  p388_0 p388_1 p388_2 p388_3 g_b14   ) hZ (ww hw 15 rfl) (ww hw 2 rfl) (by decide) (by decide)) q389a q389c (g := (mkF m 85 (Sh6 q1 q2 q3 b2 3 b7 b11 b14 1) [(.long 9223372036854775807), (.ref b14)])) rfl (by rw [hml]; rfl) (Steps.refl _) (argsL := [(.long (9223372036854775807 : Int64))]) (rest := []) (lenOf pd_28J29J rfl) rfl (by show 2 * 0 + _ ≤ _; exact Nat.le_of_eq rfl) (hb hby at_85) (fun _ _ => ⟨rfl, rfl, (by decide : 1 + 0 ≤ _), (by decide : 3 + 0 ≤ _)⟩)
          dsimp only [Pt.U, Pt.locs, Pt.cells, Pt.slots] at X389 l389 y389 z389 st389 hQ389
          subst l389 y389 z389
          obtain ⟨rfl, N389q, K389, p389_0, p389_1, p389_2, p389_3⟩ := hQ389
          have N389 := Fr.app N388 N389q
          have Zs_389 : n0 ≤ T389.heap.size := Nat.le_trans Zs_388 K389.1
          refine GoW.sg (mkF m 88 (Sh6 q1 q2 q3 b2 3 b7 b11 b14 1) [(.long 20000)]) (fun t k => st389.trans k) ?_
          refine GoW.sg (mkF m 90 (Sh8 q1 q2 q3 b2 3 b7 b11 b14 1 20000) []) (fun t k => XS.lstore X389.here hx rfl (hb hby at_88) rfl (l' := (Sh8 q1 q2 q3 b2 3 b7 b11 b14 1 20000)) rfl k) ?_
          refine GoW.sg (mkF m 92 (Sh8 q1 q2 q3 b2 3 b7 b11 b14 1 20000) [(.int 1)]) (fun t k => XS.iload X389.here hx rfl (hb hby at_90) rfl k) ?_
          refine GoW.sg (mkF m 95 (Sh8 q1 q2 q3 b2 3 b7 b11 b14 1 20000) []) (fun t k => XS.ifNo X389.here hx rfl (hb hby at_92) rfl (by decide) k) ?_
          refine GoW.sg (mkF m 97 (Sh8 q1 q2 q3 b2 3 b7 b11 b14 1 20000) [(.long 20000)]) (fun t k => XS.lload X389.here hx rfl (hb hby at_95) rfl k) ?_
          refine GoW.sg (mkF m 100 (Sh8 q1 q2 q3 b2 3 b7 b11 b14 1 20000) [(.long 20000), (.long 20000)]) (fun t k => X389.ldc2Long hx hown (mvT hZ (ww hw 21 rfl)) (g := (mkF m 97 (Sh8 q1 q2 q3 b2 3 b7 b11 b14 1 20000) [(.long 20000)])) rfl (hb hby at_97) t k) ?_
          refine GoW.sg (mkF m 101 (Sh8 q1 q2 q3 b2 3 b7 b11 b14 1 20000) [(.int (lcmpW (20000 : Int64) (20000 : Int64)))]) (fun t k => XS.lcmp X389.here hx rfl (hb hby at_100) rfl k) ?_
          refine GoW.sg (mkF m 104 (Sh8 q1 q2 q3 b2 3 b7 b11 b14 1 20000) []) (fun t k => XS.ifNo X389.here hx rfl (hb hby at_101) rfl (by decide) k) ?_
          refine GoW.sg (mkF m 105 (Sh8 q1 q2 q3 b2 3 b7 b11 b14 1 20000) [(.int 1)]) (fun t k => XS.iconst X389.here hx rfl (hb hby at_104) k) ?_
          refine GoW.sg (mkF m 109 (Sh8 q1 q2 q3 b2 3 b7 b11 b14 1 20000) [(.int 1)]) (fun t k => XS.goto X389.here hx rfl (pc0 := 105) (pc' := 109) rfl (hb hby at_105) (by decide) (by decide) k) ?_
          refine GoW.sg (mkF m 111 (Sh8 q1 q2 q3 b2 3 b7 b11 b14 1 20000) []) (fun t k => XS.istore X389.here hx rfl (hb hby at_109) rfl (l' := (Sh8 q1 q2 q3 b2 3 b7 b11 b14 1 20000)) rfl k) ?_
          refine GoW.sg (mkF m 113 (Sh8 q1 q2 q3 b2 3 b7 b11 b14 1 20000) [(.ref b14)]) (fun t k => XS.aload X389.here hx rfl (hb hby at_111) rfl rfl k) ?_
          obtain ⟨_, _, ⟨T390, L390, k390, n390⟩, -, X390, ⟨Lc390, hQ390, l390, y390, z390⟩, st390⟩ := Jvm.LawKit.callS X389 hx (y := (⟨"com/example/spindle/spindle/SpinRuleSpinNanosPinLaw", "tenMisses", "(Lcom/example/spindle/spindle/SpinRule;)V"⟩ : MethodName)) hown (mvT hZ (ww hw 34 rfl)) (mvT hZ (ww hw 35 rfl)) (mvT hZ (ww hw 36 rfl)) (mvT hZ (ww hw 37 rfl)) (by decide) (backOf (W := 0) (rm6_22 l Z a0 hw [] b14  T389.heap n0  p389_0 p389_1 p389_2 p389_3 g_b14   ) hZ (ww hw 37 rfl) (ww hw 36 rfl) (by decide) (by decide)) (g := (mkF m 113 (Sh8 q1 q2 q3 b2 3 b7 b11 b14 1 20000) [(.ref b14)])) rfl (by rw [hml]; rfl) (argsL := [(.ref b14)]) (rest := []) (lenOf pd_28Lcom2fexample2fspindle2fspindle2fSpinRule3b29V rfl) rfl (by show 2 * 0 + _ ≤ _; exact Nat.le_of_eq rfl) (hb hby at_113) (fun _ _ => ⟨rfl, rfl, (by decide : 1 + 0 ≤ _), (by decide : 3 + 0 ≤ _)⟩)
          dsimp only [Pt.U, Pt.locs, Pt.cells, Pt.slots] at X390 l390 y390 z390 st390 hQ390
          subst l390 y390 z390
          obtain ⟨rfl, N390q, K390, p390_0, p390_1, p390_2, p390_3⟩ := hQ390
          have N390 := Fr.app N389 N390q
          have Zs_390 : n0 ≤ T390.heap.size := Nat.le_trans Zs_389 K390.1
          refine GoW.sg (mkF m 116 (Sh8 q1 q2 q3 b2 3 b7 b11 b14 1 20000) []) (fun t k => st390 t k) ?_
          refine GoW.sg (mkF m 118 (Sh8 q1 q2 q3 b2 3 b7 b11 b14 1 20000) [(.int 3)]) (fun t k => XS.iload X390.here hx rfl (hb hby at_116) rfl k) ?_
          refine GoW.sg (mkF m 119 (Sh8 q1 q2 q3 b2 3 b7 b11 b14 1 20000) [(.int 2), (.int 3)]) (fun t k => XS.iconst X390.here hx rfl (hb hby at_118) k) ?_
          refine GoW.sg (mkF m 122 (Sh8 q1 q2 q3 b2 3 b7 b11 b14 1 20000) []) (fun t k => XS.icmpNo X390.here hx rfl (hb hby at_119) rfl (by decide) k) ?_
          refine GoW.sg (mkF m 124 (Sh8 q1 q2 q3 b2 3 b7 b11 b14 1 20000) [(.ref b14)]) (fun t k => XS.aload X390.here hx rfl (hb hby at_122) rfl rfl k) ?_
          refine GoW.sg (mkF m 125 (Sh8 q1 q2 q3 b2 3 b7 b11 b14 1 20000) [(.int 1), (.ref b14)]) (fun t k => XS.iconst X390.here hx rfl (hb hby at_124) k) ?_
          refine GoW.sg (mkF m 126 (Sh8 q1 q2 q3 b2 3 b7 b11 b14 1 20000) [(.int 0), (.int 1), (.ref b14)]) (fun t k => XS.iconst X390.here hx rfl (hb hby at_125) k) ?_
          refine GoW.sg (mkF m 127 (Sh8 q1 q2 q3 b2 3 b7 b11 b14 1 20000) [(.long 0), (.int 0), (.int 1), (.ref b14)]) (fun t k => XS.lconst X390.here hx rfl (hb hby at_126) k) ?_
          obtain ⟨cq391, kq391, q391a, q391b, q391c⟩ := isOf hZ rfl p390_0
          obtain ⟨_, _, ⟨T391, L391, k391, n391⟩, -, X391, ⟨Lc391, hQ391, l391, y391, z391⟩, st391⟩ := X390.virtualBack hx (y := (⟨"com/example/spindle/spindle/SpinRule", "countWait", "(ZZJ)V"⟩ : MethodName)) (z := (⟨"com/example/spindle/spindle/SpinRule", "countWait", "(ZZJ)V"⟩ : MethodName)) hown (mvT hZ (ww hw 38 rfl)) (mvT hZ (ww hw 39 rfl)) (notFace_of_selects (args := #[]) (mvT hZ (ww hw 41 rfl))) (mvT hZ (ww hw 41 rfl)) (mvT hZ (ww hw 40 rfl)) (by decide) (backOf (W := 0) (rm7_32 l Z a0 hw [] b14  T390.heap n0  p390_0 p390_1 p390_2 p390_3 g_b14   ) hZ (ww hw 42 rfl) (ww hw 2 rfl) (by decide) (by decide)) q391a q391c (g := (mkF m 127 (Sh8 q1 q2 q3 b2 3 b7 b11 b14 1 20000) [(.long 0), (.int 0), (.int 1), (.ref b14)])) rfl (by rw [hml]; rfl) (Steps.refl _) (argsL := [(.int (1 : Int32)), (.int (0 : Int32)), (.long (0 : Int64))]) (rest := []) (lenOf pd_28ZZJ29V rfl) rfl (by show 2 * 0 + _ ≤ _; exact Nat.le_of_eq rfl) (hb hby at_127) (fun _ _ => ⟨rfl, rfl, (by decide : 1 + 0 ≤ _), (by decide : 3 + 0 ≤ _)⟩)
          dsimp only [Pt.U, Pt.locs, Pt.cells, Pt.slots] at X391 l391 y391 z391 st391 hQ391
          subst l391 y391 z391
          obtain ⟨rfl, N391q, K391, p391_0, p391_1, p391_2, p391_3⟩ := hQ391
          have N391 := Fr.app N390 N391q
          have Zs_391 : n0 ≤ T391.heap.size := Nat.le_trans Zs_390 K391.1
          refine GoW.sg (mkF m 130 (Sh8 q1 q2 q3 b2 3 b7 b11 b14 1 20000) []) (fun t k => st391.trans k) ?_
          rcases own_01 hb2 with cc | cc
          · subst cc
            show GoW p e below s (ValQ (.int (1 : Int32)) n0) room_1.cells room_1.slots (T391.setTop (mkF m 130 (Sh8 q1 q2 q3 0 3 b7 b11 b14 1 20000) []))
            refine GoW.sg (mkF m 132 (Sh8 q1 q2 q3 0 3 b7 b11 b14 1 20000) [(.int 0)]) (fun t k => XS.iload X391.here hx rfl (hb hby at_130) rfl k) ?_
            refine GoW.sg (mkF m 140 (Sh8 q1 q2 q3 0 3 b7 b11 b14 1 20000) []) (fun t k => XS.ifYes X391.here hx rfl (pc0 := 132) (pc' := 140) rfl (hb hby at_132) rfl (by decide) (by decide) (by decide) k) ?_
            by_cases c392 : (20000 : Int64) < b11
            · show GoW p e below s (ValQ (.int (1 : Int32)) n0) room_1.cells room_1.slots (T391.setTop (mkF m 140 (Sh8 q1 q2 q3 0 3 b7 b11 b14 1 20000) []))
              refine GoW.sg (mkF m 142 (Sh8 q1 q2 q3 0 3 b7 b11 b14 1 20000) [(.ref b14)]) (fun t k => XS.aload X391.here hx rfl (hb hby at_140) rfl rfl k) ?_
              refine GoW.sg (mkF m 144 (Sh8 q1 q2 q3 0 3 b7 b11 b14 1 20000) [(.long b11), (.ref b14)]) (fun t k => XS.lload X391.here hx rfl (hb hby at_142) rfl k) ?_
              obtain ⟨cq393, kq393, q393a, q393b, q393c⟩ := isOf hZ rfl p391_0
              obtain ⟨_, _, ⟨T393, L393, k393, n393⟩, -, X393, ⟨Lc393, hQ393, l393, y393, z393⟩, st393⟩ := X391.virtualBack hx (y := (⟨"com/example/spindle/spindle/SpinRule", "spinNanos", "(J)J"⟩ : MethodName)) (z := (⟨"com/example/spindle/spindle/SpinRule", "spinNanos", "(J)J"⟩ : MethodName)) hown (mvT hZ (ww hw 11 rfl)) (mvT hZ (ww hw 12 rfl)) (notFace_of_selects (args := #[]) (mvT hZ (ww hw 14 rfl))) (mvT hZ (ww hw 14 rfl)) (mvT hZ (ww hw 13 rfl)) (by decide) (backOf (W := 0) (rm3_33 l Z a0 hw [] b14 b11  T391.heap n0  p391_0 p391_1 p391_2 p391_3 g_b14  c392 ) hZ (ww hw 15 rfl) (ww hw 2 rfl) (by decide) (by decide)) q393a q393c (g := (mkF m 144 (Sh8 q1 q2 q3 0 3 b7 b11 b14 1 20000) [(.long b11), (.ref b14)])) rfl (by rw [hml]; rfl) (Steps.refl _) (argsL := [(.long b11)]) (rest := []) (lenOf pd_28J29J rfl) rfl (by show 2 * 0 + _ ≤ _; exact Nat.le_of_eq rfl) (hb hby at_144) (fun _ _ => ⟨rfl, rfl, (by decide : 1 + 0 ≤ _), (by decide : 3 + 0 ≤ _)⟩)
              dsimp only [Pt.U, Pt.locs, Pt.cells, Pt.slots] at X393 l393 y393 z393 st393 hQ393
              subst l393 y393 z393
              obtain ⟨rfl, N393q, K393, p393_0, p393_1, p393_2, p393_3⟩ := hQ393
              have N393 := Fr.app N391 N393q
              have Zs_393 : n0 ≤ T393.heap.size := Nat.le_trans Zs_391 K393.1
              refine GoW.sg (mkF m 147 (Sh8 q1 q2 q3 0 3 b7 b11 b14 1 20000) [(.long 0)]) (fun t k => st393.trans k) ?_
              refine GoW.sg (mkF m 149 (Sh8 q1 q2 q3 0 3 b7 b11 b14 1 0) []) (fun t k => XS.lstore X393.here hx rfl (hb hby at_147) rfl (l' := (Sh8 q1 q2 q3 0 3 b7 b11 b14 1 0)) rfl k) ?_
              refine GoW.sg (mkF m 151 (Sh8 q1 q2 q3 0 3 b7 b11 b14 1 0) [(.long b11)]) (fun t k => XS.lload X393.here hx rfl (hb hby at_149) rfl k) ?_
              refine GoW.sg (mkF m 154 (Sh8 q1 q2 q3 0 3 b7 b11 b14 1 0) [(.long 20000), (.long b11)]) (fun t k => X393.ldc2Long hx hown (mvT hZ (ww hw 21 rfl)) (g := (mkF m 151 (Sh8 q1 q2 q3 0 3 b7 b11 b14 1 0) [(.long b11)])) rfl (hb hby at_151) t k) ?_
              refine GoW.sg (mkF m 155 (Sh8 q1 q2 q3 0 3 b7 b11 b14 1 0) [(.int (lcmpW b11 (20000 : Int64)))]) (fun t k => XS.lcmp X393.here hx rfl (hb hby at_154) rfl k) ?_
              refine GoW.sg (mkF m 165 (Sh8 q1 q2 q3 0 3 b7 b11 b14 1 0) []) (fun t k => XS.ifYes X393.here hx rfl (pc0 := 155) (pc' := 165) rfl (hb hby at_155) rfl ((if0 _ _).trans (tlt ((lw_gt _ _).mpr c392)).2.2.1) (by decide) (by decide) k) ?_
              refine GoW.sg (mkF m 167 (Sh8 q1 q2 q3 0 3 b7 b11 b14 1 0) [(.int 0)]) (fun t k => XS.iload X393.here hx rfl (hb hby at_165) rfl k) ?_
              refine GoW.sg (mkF m 184 (Sh8 q1 q2 q3 0 3 b7 b11 b14 1 0) []) (fun t k => XS.ifYes X393.here hx rfl (pc0 := 167) (pc' := 184) rfl (hb hby at_167) rfl (by decide) (by decide) (by decide) k) ?_
              refine GoW.sg (mkF m 185 (Sh8 q1 q2 q3 0 3 b7 b11 b14 1 0) [(.long 0)]) (fun t k => XS.lconst X393.here hx rfl (hb hby at_184) k) ?_
              refine GoW.sg (mkF m 187 (Sh9 q1 q2 q3 0 3 b7 b11 b14 1 0 0) []) (fun t k => XS.lstore X393.here hx rfl (hb hby at_185) rfl (l' := (Sh9 q1 q2 q3 0 3 b7 b11 b14 1 0 0)) rfl k) ?_
              refine GoW.sg (mkF m 189 (Sh9 q1 q2 q3 0 3 b7 b11 b14 1 0 0) [(.int 1)]) (fun t k => XS.iload X393.here hx rfl (hb hby at_187) rfl k) ?_
              refine GoW.sg (mkF m 192 (Sh9 q1 q2 q3 0 3 b7 b11 b14 1 0 0) []) (fun t k => XS.ifNo X393.here hx rfl (hb hby at_189) rfl (by decide) k) ?_
              refine GoW.sg (mkF m 194 (Sh9 q1 q2 q3 0 3 b7 b11 b14 1 0 0) [(.long 0)]) (fun t k => XS.lload X393.here hx rfl (hb hby at_192) rfl k) ?_
              refine GoW.sg (mkF m 196 (Sh9 q1 q2 q3 0 3 b7 b11 b14 1 0 0) [(.long 0), (.long 0)]) (fun t k => XS.lload X393.here hx rfl (hb hby at_194) rfl k) ?_
              refine GoW.sg (mkF m 197 (Sh9 q1 q2 q3 0 3 b7 b11 b14 1 0 0) [(.int (lcmpW (0 : Int64) (0 : Int64)))]) (fun t k => XS.lcmp X393.here hx rfl (hb hby at_196) rfl k) ?_
              refine GoW.sg (mkF m 200 (Sh9 q1 q2 q3 0 3 b7 b11 b14 1 0 0) []) (fun t k => XS.ifNo X393.here hx rfl (hb hby at_197) rfl (by decide) k) ?_
              refine GoW.sg (mkF m 201 (Sh9 q1 q2 q3 0 3 b7 b11 b14 1 0 0) [(.int 1)]) (fun t k => XS.iconst X393.here hx rfl (hb hby at_200) k) ?_
              refine GoW.sg (mkF m 205 (Sh9 q1 q2 q3 0 3 b7 b11 b14 1 0 0) [(.int 1)]) (fun t k => XS.goto X393.here hx rfl (pc0 := 201) (pc' := 205) rfl (hb hby at_201) (by decide) (by decide) k) ?_
              refine GoW.sg (mkF m 207 (Sh9 q1 q2 q3 0 3 b7 b11 b14 1 0 0) []) (fun t k => XS.istore X393.here hx rfl (hb hby at_205) rfl (l' := (Sh9 q1 q2 q3 0 3 b7 b11 b14 1 0 0)) rfl k) ?_
              refine GoW.sg (mkF m 209 (Sh9 q1 q2 q3 0 3 b7 b11 b14 1 0 0) [(.int 1)]) (fun t k => XS.iload X393.here hx rfl (hb hby at_207) rfl k) ?_
              refine GoW.sg (mkF m 212 (Sh9 q1 q2 q3 0 3 b7 b11 b14 1 0 0) []) (fun t k => XS.ifNo X393.here hx rfl (hb hby at_209) rfl (by decide) k) ?_
              refine GoW.sg (mkF m 214 (Sh9 q1 q2 q3 0 3 b7 b11 b14 1 0 0) [(.ref b14)]) (fun t k => XS.aload X393.here hx rfl (hb hby at_212) rfl rfl k) ?_
              refine GoW.sg (mkF m 215 (Sh9 q1 q2 q3 0 3 b7 b11 b14 1 0 0) [(.long 0), (.ref b14)]) (fun t k => XS.lconst X393.here hx rfl (hb hby at_214) k) ?_
              obtain ⟨cq394, kq394, q394a, q394b, q394c⟩ := isOf hZ rfl p393_0
              obtain ⟨_, _, ⟨T394, L394, k394, n394⟩, -, X394, ⟨Lc394, hQ394, l394, y394, z394⟩, st394⟩ := X393.virtualBack hx (y := (⟨"com/example/spindle/spindle/SpinRule", "timesWait", "(J)Z"⟩ : MethodName)) (z := (⟨"com/example/spindle/spindle/SpinRule", "timesWait", "(J)Z"⟩ : MethodName)) hown (mvT hZ (ww hw 22 rfl)) (mvT hZ (ww hw 23 rfl)) (notFace_of_selects (args := #[]) (mvT hZ (ww hw 25 rfl))) (mvT hZ (ww hw 25 rfl)) (mvT hZ (ww hw 24 rfl)) (by decide) (backOf (W := 0) (rm4_34 l Z a0 hw [] b14  T393.heap n0  p393_0 p393_1 p393_2 p393_3    ) hZ (ww hw 26 rfl) (ww hw 2 rfl) (by decide) (by decide)) q394a q394c (g := (mkF m 215 (Sh9 q1 q2 q3 0 3 b7 b11 b14 1 0 0) [(.long 0), (.ref b14)])) rfl (by rw [hml]; rfl) (Steps.refl _) (argsL := [(.long (0 : Int64))]) (rest := []) (lenOf pd_28J29Z rfl) rfl (by show 2 * 0 + _ ≤ _; exact Nat.le_of_eq rfl) (hb hby at_215) (fun _ _ => ⟨rfl, rfl, (by decide : 1 + 0 ≤ _), (by decide : 3 + 0 ≤ _)⟩)
              dsimp only [Pt.U, Pt.locs, Pt.cells, Pt.slots] at X394 l394 y394 z394 st394 hQ394
              subst l394 y394 z394
              obtain ⟨rfl, N394q, e394⟩ := hQ394
              have N394 := Fr.app N393 N394q
              refine GoW.sg (mkF m 218 (Sh9 q1 q2 q3 0 3 b7 b11 b14 1 0 0) [(.int 0)]) (fun t k => st394.trans k) ?_
              refine GoW.sg (mkF m 220 (Sh9 q1 q2 q3 0 3 b7 b11 b14 1 0 0) [(.int 0), (.int 0)]) (fun t k => XS.iload X394.here hx rfl (hb hby at_218) rfl k) ?_
              refine GoW.sg (mkF m 223 (Sh9 q1 q2 q3 0 3 b7 b11 b14 1 0 0) []) (fun t k => XS.icmpNo X394.here hx rfl (hb hby at_220) rfl (by decide) k) ?_
              refine GoW.sg (mkF m 224 (Sh9 q1 q2 q3 0 3 b7 b11 b14 1 0 0) [(.int 1)]) (fun t k => XS.iconst X394.here hx rfl (hb hby at_223) k) ?_
              refine GoW.sg (mkF m 228 (Sh9 q1 q2 q3 0 3 b7 b11 b14 1 0 0) [(.int 1)]) (fun t k => XS.goto X394.here hx rfl (pc0 := 224) (pc' := 228) rfl (hb hby at_224) (by decide) (by decide) k) ?_
              refine GoW.sg (mkF m 230 (Sh9 q1 q2 q3 0 3 b7 b11 b14 1 0 0) []) (fun t k => XS.istore X394.here hx rfl (hb hby at_228) rfl (l' := (Sh9 q1 q2 q3 0 3 b7 b11 b14 1 0 0)) rfl k) ?_
              by_cases c395 : (20000 : Int64) < q2
              · show GoW p e below s (ValQ (.int (1 : Int32)) n0) room_1.cells room_1.slots (T394.setTop (mkF m 230 (Sh9 q1 q2 q3 0 3 b7 b11 b14 1 0 0) []))
                refine GoW.sg (mkF m 232 (Sh9 q1 q2 q3 0 3 b7 b11 b14 1 0 0) [(.ref b14)]) (fun t k => XS.aload X394.here hx rfl (hb hby at_230) rfl rfl k) ?_
                refine GoW.sg (mkF m 233 (Sh9 q1 q2 q3 0 3 b7 b11 b14 1 0 0) [(.long q2), (.ref b14)]) (fun t k => XS.lloadN X394.here hx rfl (hb hby at_232) rfl k) ?_
                obtain ⟨cq396, kq396, q396a, q396b, q396c⟩ := isOf hZ e394 p393_0
                obtain ⟨_, _, ⟨T396, L396, k396, n396⟩, -, X396, ⟨Lc396, hQ396, l396, y396, z396⟩, st396⟩ := X394.virtualBack hx (y := (⟨"com/example/spindle/spindle/SpinRule", "spinNanos", "(J)J"⟩ : MethodName)) (z := (⟨"com/example/spindle/spindle/SpinRule", "spinNanos", "(J)J"⟩ : MethodName)) hown (mvT hZ (ww hw 11 rfl)) (mvT hZ (ww hw 12 rfl)) (notFace_of_selects (args := #[]) (mvT hZ (ww hw 14 rfl))) (mvT hZ (ww hw 14 rfl)) (mvT hZ (ww hw 13 rfl)) (by decide) (backOf (W := 0) (rm3_35 l Z a0 hw [] b14 q2  T393.heap n0  p393_0 p393_1 p393_2 p393_3 g_b14  c395 ) hZ (ww hw 15 rfl) (ww hw 2 rfl) (by decide) (by decide)) q396a q396c (g := (mkF m 233 (Sh9 q1 q2 q3 0 3 b7 b11 b14 1 0 0) [(.long q2), (.ref b14)])) rfl (by rw [hml]; rfl) (Steps.refl _) (argsL := [(.long q2)]) (rest := []) (lenOf pd_28J29J rfl) rfl (by show 2 * 0 + _ ≤ _; exact Nat.le_of_eq rfl) (hb hby at_233) (fun _ _ => ⟨rfl, e394, (by decide : 1 + 0 ≤ _), (by decide : 3 + 0 ≤ _)⟩)
                dsimp only [Pt.U, Pt.locs, Pt.cells, Pt.slots] at X396 l396 y396 z396 st396 hQ396
                subst l396 y396 z396
                obtain ⟨rfl, N396q, K396, p396_0, p396_1, p396_2, p396_3⟩ := hQ396
                have N396 := Fr.app N394 N396q
                have Zs_396 : n0 ≤ T396.heap.size := Nat.le_trans Zs_393 K396.1
                refine GoW.sg (mkF m 236 (Sh9 q1 q2 q3 0 3 b7 b11 b14 1 0 0) [(.long 0)]) (fun t k => st396.trans k) ?_
                refine GoW.sg (mkF m 238 (Sh10 q1 q2 q3 0 3 b7 b11 b14 1 0 0 0) []) (fun t k => XS.lstore X396.here hx rfl (hb hby at_236) rfl (l' := (Sh10 q1 q2 q3 0 3 b7 b11 b14 1 0 0 0)) rfl k) ?_
                refine GoW.sg (mkF m 239 (Sh10 q1 q2 q3 0 3 b7 b11 b14 1 0 0 0) [(.long q2)]) (fun t k => XS.lloadN X396.here hx rfl (hb hby at_238) rfl k) ?_
                refine GoW.sg (mkF m 242 (Sh10 q1 q2 q3 0 3 b7 b11 b14 1 0 0 0) [(.long 20000), (.long q2)]) (fun t k => X396.ldc2Long hx hown (mvT hZ (ww hw 21 rfl)) (g := (mkF m 239 (Sh10 q1 q2 q3 0 3 b7 b11 b14 1 0 0 0) [(.long q2)])) rfl (hb hby at_239) t k) ?_
                refine GoW.sg (mkF m 243 (Sh10 q1 q2 q3 0 3 b7 b11 b14 1 0 0 0) [(.int (lcmpW q2 (20000 : Int64)))]) (fun t k => XS.lcmp X396.here hx rfl (hb hby at_242) rfl k) ?_
                refine GoW.sg (mkF m 250 (Sh10 q1 q2 q3 0 3 b7 b11 b14 1 0 0 0) []) (fun t k => XS.ifYes X396.here hx rfl (pc0 := 243) (pc' := 250) rfl (hb hby at_243) rfl ((if0 _ _).trans (tlt ((lw_gt _ _).mpr c395)).2.2.1) (by decide) (by decide) k) ?_
                refine GoW.sg (mkF m 251 (Sh10 q1 q2 q3 0 3 b7 b11 b14 1 0 0 0) [(.long 0)]) (fun t k => XS.lconst X396.here hx rfl (hb hby at_250) k) ?_
                refine GoW.sg (mkF m 253 (Sh11 q1 q2 q3 0 3 b7 b11 b14 1 0 0 0 0) []) (fun t k => XS.lstore X396.here hx rfl (hb hby at_251) rfl (l' := (Sh11 q1 q2 q3 0 3 b7 b11 b14 1 0 0 0 0)) rfl k) ?_
                refine GoW.sg (mkF m 255 (Sh11 q1 q2 q3 0 3 b7 b11 b14 1 0 0 0 0) [(.int 1)]) (fun t k => XS.iload X396.here hx rfl (hb hby at_253) rfl k) ?_
                refine GoW.sg (mkF m 258 (Sh11 q1 q2 q3 0 3 b7 b11 b14 1 0 0 0 0) []) (fun t k => XS.ifNo X396.here hx rfl (hb hby at_255) rfl (by decide) k) ?_
                refine GoW.sg (mkF m 260 (Sh11 q1 q2 q3 0 3 b7 b11 b14 1 0 0 0 0) [(.long 0)]) (fun t k => XS.lload X396.here hx rfl (hb hby at_258) rfl k) ?_
                refine GoW.sg (mkF m 262 (Sh11 q1 q2 q3 0 3 b7 b11 b14 1 0 0 0 0) [(.long 0), (.long 0)]) (fun t k => XS.lload X396.here hx rfl (hb hby at_260) rfl k) ?_
                refine GoW.sg (mkF m 263 (Sh11 q1 q2 q3 0 3 b7 b11 b14 1 0 0 0 0) [(.int (lcmpW (0 : Int64) (0 : Int64)))]) (fun t k => XS.lcmp X396.here hx rfl (hb hby at_262) rfl k) ?_
                refine GoW.sg (mkF m 266 (Sh11 q1 q2 q3 0 3 b7 b11 b14 1 0 0 0 0) []) (fun t k => XS.ifNo X396.here hx rfl (hb hby at_263) rfl (by decide) k) ?_
                refine GoW.sg (mkF m 267 (Sh11 q1 q2 q3 0 3 b7 b11 b14 1 0 0 0 0) [(.int 1)]) (fun t k => XS.iconst X396.here hx rfl (hb hby at_266) k) ?_
                refine GoW.sg (mkF m 271 (Sh11 q1 q2 q3 0 3 b7 b11 b14 1 0 0 0 0) [(.int 1)]) (fun t k => XS.goto X396.here hx rfl (pc0 := 267) (pc' := 271) rfl (hb hby at_267) (by decide) (by decide) k) ?_
                refine GoW.sg (mkF m 273 (Sh11 q1 q2 q3 0 3 b7 b11 b14 1 0 0 0 0) []) (fun t k => XS.istore X396.here hx rfl (hb hby at_271) rfl (l' := (Sh11 q1 q2 q3 0 3 b7 b11 b14 1 0 0 0 0)) rfl k) ?_
                refine GoW.sg (mkF m 275 (Sh11 q1 q2 q3 0 3 b7 b11 b14 1 0 0 0 0) [(.int 1)]) (fun t k => XS.iload X396.here hx rfl (hb hby at_273) rfl k) ?_
                refine GoW.sg (mkF m 278 (Sh11 q1 q2 q3 0 3 b7 b11 b14 1 0 0 0 0) []) (fun t k => XS.ifNo X396.here hx rfl (hb hby at_275) rfl (by decide) k) ?_
                refine GoW.sg (mkF m 280 (Sh11 q1 q2 q3 0 3 b7 b11 b14 1 0 0 0 0) [(.ref b14)]) (fun t k => XS.aload X396.here hx rfl (hb hby at_278) rfl rfl k) ?_
                refine GoW.sg (mkF m 281 (Sh11 q1 q2 q3 0 3 b7 b11 b14 1 0 0 0 0) [(.long 0), (.ref b14)]) (fun t k => XS.lconst X396.here hx rfl (hb hby at_280) k) ?_
                obtain ⟨cq397, kq397, q397a, q397b, q397c⟩ := isOf hZ rfl p396_0
                obtain ⟨_, _, ⟨T397, L397, k397, n397⟩, -, X397, ⟨Lc397, hQ397, l397, y397, z397⟩, st397⟩ := X396.virtualBack hx (y := (⟨"com/example/spindle/spindle/SpinRule", "timesWait", "(J)Z"⟩ : MethodName)) (z := (⟨"com/example/spindle/spindle/SpinRule", "timesWait", "(J)Z"⟩ : MethodName)) hown (mvT hZ (ww hw 22 rfl)) (mvT hZ (ww hw 23 rfl)) (notFace_of_selects (args := #[]) (mvT hZ (ww hw 25 rfl))) (mvT hZ (ww hw 25 rfl)) (mvT hZ (ww hw 24 rfl)) (by decide) (backOf (W := 0) (rm4_34 l Z a0 hw [] b14  T396.heap n0  p396_0 p396_1 p396_2 p396_3    ) hZ (ww hw 26 rfl) (ww hw 2 rfl) (by decide) (by decide)) q397a q397c (g := (mkF m 281 (Sh11 q1 q2 q3 0 3 b7 b11 b14 1 0 0 0 0) [(.long 0), (.ref b14)])) rfl (by rw [hml]; rfl) (Steps.refl _) (argsL := [(.long (0 : Int64))]) (rest := []) (lenOf pd_28J29Z rfl) rfl (by show 2 * 0 + _ ≤ _; exact Nat.le_of_eq rfl) (hb hby at_281) (fun _ _ => ⟨rfl, rfl, (by decide : 1 + 0 ≤ _), (by decide : 3 + 0 ≤ _)⟩)
                dsimp only [Pt.U, Pt.locs, Pt.cells, Pt.slots] at X397 l397 y397 z397 st397 hQ397
                subst l397 y397 z397
                obtain ⟨rfl, N397q, e397⟩ := hQ397
                have N397 := Fr.app N396 N397q
                refine GoW.sg (mkF m 284 (Sh11 q1 q2 q3 0 3 b7 b11 b14 1 0 0 0 0) [(.int 0)]) (fun t k => st397.trans k) ?_
                refine GoW.sg (mkF m 287 (Sh11 q1 q2 q3 0 3 b7 b11 b14 1 0 0 0 0) []) (fun t k => XS.ifNo X397.here hx rfl (hb hby at_284) rfl (by decide) k) ?_
                refine GoW.sg (mkF m 288 (Sh11 q1 q2 q3 0 3 b7 b11 b14 1 0 0 0 0) [(.int 1)]) (fun t k => XS.iconst X397.here hx rfl (hb hby at_287) k) ?_
                refine GoW.sg (mkF m 292 (Sh11 q1 q2 q3 0 3 b7 b11 b14 1 0 0 0 0) [(.int 1)]) (fun t k => XS.goto X397.here hx rfl (pc0 := 288) (pc' := 292) rfl (hb hby at_288) (by decide) (by decide) k) ?_
                refine GoW.sg (mkF m 294 (Sh11 q1 q2 q3 0 3 b7 b11 b14 1 0 0 0 0) []) (fun t k => XS.istore X397.here hx rfl (hb hby at_292) rfl (l' := (Sh11 q1 q2 q3 0 3 b7 b11 b14 1 0 0 0 0)) rfl k) ?_
                refine GoW.sg (mkF m 296 (Sh11 q1 q2 q3 0 3 b7 b11 b14 1 0 0 0 0) [(.int 1)]) (fun t k => XS.iload X397.here hx rfl (hb hby at_294) rfl k) ?_
                refine GoW.retN X397 hx (t := .boolean) Bd.returns (by simp) (hb hby at_296) Bd.notSynchronized ?_ (by decide) (by decide)
                exact ⟨rfl, N397⟩
              · show GoW p e below s (ValQ (.int (1 : Int32)) n0) room_1.cells room_1.slots (T394.setTop (mkF m 230 (Sh9 q1 q2 q3 0 3 b7 b11 b14 1 0 0) []))
                refine GoW.sg (mkF m 232 (Sh9 q1 q2 q3 0 3 b7 b11 b14 1 0 0) [(.ref b14)]) (fun t k => XS.aload X394.here hx rfl (hb hby at_230) rfl rfl k) ?_
                refine GoW.sg (mkF m 233 (Sh9 q1 q2 q3 0 3 b7 b11 b14 1 0 0) [(.long q2), (.ref b14)]) (fun t k => XS.lloadN X394.here hx rfl (hb hby at_232) rfl k) ?_
                obtain ⟨cq398, kq398, q398a, q398b, q398c⟩ := isOf hZ e394 p393_0
                obtain ⟨_, _, ⟨T398, L398, k398, n398⟩, -, X398, ⟨Lc398, hQ398, l398, y398, z398⟩, st398⟩ := X394.virtualBack hx (y := (⟨"com/example/spindle/spindle/SpinRule", "spinNanos", "(J)J"⟩ : MethodName)) (z := (⟨"com/example/spindle/spindle/SpinRule", "spinNanos", "(J)J"⟩ : MethodName)) hown (mvT hZ (ww hw 11 rfl)) (mvT hZ (ww hw 12 rfl)) (notFace_of_selects (args := #[]) (mvT hZ (ww hw 14 rfl))) (mvT hZ (ww hw 14 rfl)) (mvT hZ (ww hw 13 rfl)) (by decide) (backOf (W := 0) (rm3_36 l Z a0 hw [] b14 q2  T393.heap n0  p393_0 p393_1 p393_2 p393_3 g_b14  c395 ) hZ (ww hw 15 rfl) (ww hw 2 rfl) (by decide) (by decide)) q398a q398c (g := (mkF m 233 (Sh9 q1 q2 q3 0 3 b7 b11 b14 1 0 0) [(.long q2), (.ref b14)])) rfl (by rw [hml]; rfl) (Steps.refl _) (argsL := [(.long q2)]) (rest := []) (lenOf pd_28J29J rfl) rfl (by show 2 * 0 + _ ≤ _; exact Nat.le_of_eq rfl) (hb hby at_233) (fun _ _ => ⟨rfl, e394, (by decide : 1 + 0 ≤ _), (by decide : 3 + 0 ≤ _)⟩)
                dsimp only [Pt.U, Pt.locs, Pt.cells, Pt.slots] at X398 l398 y398 z398 st398 hQ398
                subst l398 y398 z398
                obtain ⟨rfl, N398q, K398, p398_0, p398_1, p398_2, p398_3⟩ := hQ398
                have N398 := Fr.app N394 N398q
                have Zs_398 : n0 ≤ T398.heap.size := Nat.le_trans Zs_393 K398.1
                refine GoW.sg (mkF m 236 (Sh9 q1 q2 q3 0 3 b7 b11 b14 1 0 0) [(.long q2)]) (fun t k => st398.trans k) ?_
                refine GoW.sg (mkF m 238 (Sh10 q1 q2 q3 0 3 b7 b11 b14 1 0 0 q2) []) (fun t k => XS.lstore X398.here hx rfl (hb hby at_236) rfl (l' := (Sh10 q1 q2 q3 0 3 b7 b11 b14 1 0 0 q2)) rfl k) ?_
                refine GoW.sg (mkF m 239 (Sh10 q1 q2 q3 0 3 b7 b11 b14 1 0 0 q2) [(.long q2)]) (fun t k => XS.lloadN X398.here hx rfl (hb hby at_238) rfl k) ?_
                refine GoW.sg (mkF m 242 (Sh10 q1 q2 q3 0 3 b7 b11 b14 1 0 0 q2) [(.long 20000), (.long q2)]) (fun t k => X398.ldc2Long hx hown (mvT hZ (ww hw 21 rfl)) (g := (mkF m 239 (Sh10 q1 q2 q3 0 3 b7 b11 b14 1 0 0 q2) [(.long q2)])) rfl (hb hby at_239) t k) ?_
                refine GoW.sg (mkF m 243 (Sh10 q1 q2 q3 0 3 b7 b11 b14 1 0 0 q2) [(.int (lcmpW q2 (20000 : Int64)))]) (fun t k => XS.lcmp X398.here hx rfl (hb hby at_242) rfl k) ?_
                refine GoW.sg (mkF m 246 (Sh10 q1 q2 q3 0 3 b7 b11 b14 1 0 0 q2) []) (fun t k => XS.ifNo X398.here hx rfl (hb hby at_243) rfl ((if0 _ _).trans (flt (mt (lw_gt _ _).mp c395)).2.2.1) k) ?_
                refine GoW.sg (mkF m 247 (Sh10 q1 q2 q3 0 3 b7 b11 b14 1 0 0 q2) [(.long q2)]) (fun t k => XS.lloadN X398.here hx rfl (hb hby at_246) rfl k) ?_
                refine GoW.sg (mkF m 251 (Sh10 q1 q2 q3 0 3 b7 b11 b14 1 0 0 q2) [(.long q2)]) (fun t k => XS.goto X398.here hx rfl (pc0 := 247) (pc' := 251) rfl (hb hby at_247) (by decide) (by decide) k) ?_
                refine GoW.sg (mkF m 253 (Sh11 q1 q2 q3 0 3 b7 b11 b14 1 0 0 q2 q2) []) (fun t k => XS.lstore X398.here hx rfl (hb hby at_251) rfl (l' := (Sh11 q1 q2 q3 0 3 b7 b11 b14 1 0 0 q2 q2)) rfl k) ?_
                refine GoW.sg (mkF m 255 (Sh11 q1 q2 q3 0 3 b7 b11 b14 1 0 0 q2 q2) [(.int 1)]) (fun t k => XS.iload X398.here hx rfl (hb hby at_253) rfl k) ?_
                refine GoW.sg (mkF m 258 (Sh11 q1 q2 q3 0 3 b7 b11 b14 1 0 0 q2 q2) []) (fun t k => XS.ifNo X398.here hx rfl (hb hby at_255) rfl (by decide) k) ?_
                refine GoW.sg (mkF m 260 (Sh11 q1 q2 q3 0 3 b7 b11 b14 1 0 0 q2 q2) [(.long q2)]) (fun t k => XS.lload X398.here hx rfl (hb hby at_258) rfl k) ?_
                refine GoW.sg (mkF m 262 (Sh11 q1 q2 q3 0 3 b7 b11 b14 1 0 0 q2 q2) [(.long q2), (.long q2)]) (fun t k => XS.lload X398.here hx rfl (hb hby at_260) rfl k) ?_
                refine GoW.sg (mkF m 263 (Sh11 q1 q2 q3 0 3 b7 b11 b14 1 0 0 q2 q2) [(.int (lcmpW q2 q2))]) (fun t k => XS.lcmp X398.here hx rfl (hb hby at_262) rfl k) ?_
                refine GoW.sg (mkF m 266 (Sh11 q1 q2 q3 0 3 b7 b11 b14 1 0 0 q2 q2) []) (fun t k => XS.ifNo X398.here hx rfl (hb hby at_263) rfl ((if0 _ _).trans (teq ((lw_eq _ _).mpr rfl)).2) k) ?_
                refine GoW.sg (mkF m 267 (Sh11 q1 q2 q3 0 3 b7 b11 b14 1 0 0 q2 q2) [(.int 1)]) (fun t k => XS.iconst X398.here hx rfl (hb hby at_266) k) ?_
                refine GoW.sg (mkF m 271 (Sh11 q1 q2 q3 0 3 b7 b11 b14 1 0 0 q2 q2) [(.int 1)]) (fun t k => XS.goto X398.here hx rfl (pc0 := 267) (pc' := 271) rfl (hb hby at_267) (by decide) (by decide) k) ?_
                refine GoW.sg (mkF m 273 (Sh11 q1 q2 q3 0 3 b7 b11 b14 1 0 0 q2 q2) []) (fun t k => XS.istore X398.here hx rfl (hb hby at_271) rfl (l' := (Sh11 q1 q2 q3 0 3 b7 b11 b14 1 0 0 q2 q2)) rfl k) ?_
                refine GoW.sg (mkF m 275 (Sh11 q1 q2 q3 0 3 b7 b11 b14 1 0 0 q2 q2) [(.int 1)]) (fun t k => XS.iload X398.here hx rfl (hb hby at_273) rfl k) ?_
                refine GoW.sg (mkF m 278 (Sh11 q1 q2 q3 0 3 b7 b11 b14 1 0 0 q2 q2) []) (fun t k => XS.ifNo X398.here hx rfl (hb hby at_275) rfl (by decide) k) ?_
                refine GoW.sg (mkF m 280 (Sh11 q1 q2 q3 0 3 b7 b11 b14 1 0 0 q2 q2) [(.ref b14)]) (fun t k => XS.aload X398.here hx rfl (hb hby at_278) rfl rfl k) ?_
                refine GoW.sg (mkF m 281 (Sh11 q1 q2 q3 0 3 b7 b11 b14 1 0 0 q2 q2) [(.long 0), (.ref b14)]) (fun t k => XS.lconst X398.here hx rfl (hb hby at_280) k) ?_
                obtain ⟨cq399, kq399, q399a, q399b, q399c⟩ := isOf hZ rfl p398_0
                obtain ⟨_, _, ⟨T399, L399, k399, n399⟩, -, X399, ⟨Lc399, hQ399, l399, y399, z399⟩, st399⟩ := X398.virtualBack hx (y := (⟨"com/example/spindle/spindle/SpinRule", "timesWait", "(J)Z"⟩ : MethodName)) (z := (⟨"com/example/spindle/spindle/SpinRule", "timesWait", "(J)Z"⟩ : MethodName)) hown (mvT hZ (ww hw 22 rfl)) (mvT hZ (ww hw 23 rfl)) (notFace_of_selects (args := #[]) (mvT hZ (ww hw 25 rfl))) (mvT hZ (ww hw 25 rfl)) (mvT hZ (ww hw 24 rfl)) (by decide) (backOf (W := 0) (rm4_34 l Z a0 hw [] b14  T398.heap n0  p398_0 p398_1 p398_2 p398_3    ) hZ (ww hw 26 rfl) (ww hw 2 rfl) (by decide) (by decide)) q399a q399c (g := (mkF m 281 (Sh11 q1 q2 q3 0 3 b7 b11 b14 1 0 0 q2 q2) [(.long 0), (.ref b14)])) rfl (by rw [hml]; rfl) (Steps.refl _) (argsL := [(.long (0 : Int64))]) (rest := []) (lenOf pd_28J29Z rfl) rfl (by show 2 * 0 + _ ≤ _; exact Nat.le_of_eq rfl) (hb hby at_281) (fun _ _ => ⟨rfl, rfl, (by decide : 1 + 0 ≤ _), (by decide : 3 + 0 ≤ _)⟩)
                dsimp only [Pt.U, Pt.locs, Pt.cells, Pt.slots] at X399 l399 y399 z399 st399 hQ399
                subst l399 y399 z399
                obtain ⟨rfl, N399q, e399⟩ := hQ399
                have N399 := Fr.app N398 N399q
                refine GoW.sg (mkF m 284 (Sh11 q1 q2 q3 0 3 b7 b11 b14 1 0 0 q2 q2) [(.int 0)]) (fun t k => st399.trans k) ?_
                refine GoW.sg (mkF m 287 (Sh11 q1 q2 q3 0 3 b7 b11 b14 1 0 0 q2 q2) []) (fun t k => XS.ifNo X399.here hx rfl (hb hby at_284) rfl (by decide) k) ?_
                refine GoW.sg (mkF m 288 (Sh11 q1 q2 q3 0 3 b7 b11 b14 1 0 0 q2 q2) [(.int 1)]) (fun t k => XS.iconst X399.here hx rfl (hb hby at_287) k) ?_
                refine GoW.sg (mkF m 292 (Sh11 q1 q2 q3 0 3 b7 b11 b14 1 0 0 q2 q2) [(.int 1)]) (fun t k => XS.goto X399.here hx rfl (pc0 := 288) (pc' := 292) rfl (hb hby at_288) (by decide) (by decide) k) ?_
                refine GoW.sg (mkF m 294 (Sh11 q1 q2 q3 0 3 b7 b11 b14 1 0 0 q2 q2) []) (fun t k => XS.istore X399.here hx rfl (hb hby at_292) rfl (l' := (Sh11 q1 q2 q3 0 3 b7 b11 b14 1 0 0 q2 q2)) rfl k) ?_
                refine GoW.sg (mkF m 296 (Sh11 q1 q2 q3 0 3 b7 b11 b14 1 0 0 q2 q2) [(.int 1)]) (fun t k => XS.iload X399.here hx rfl (hb hby at_294) rfl k) ?_
                refine GoW.retN X399 hx (t := .boolean) Bd.returns (by simp) (hb hby at_296) Bd.notSynchronized ?_ (by decide) (by decide)
                exact ⟨rfl, N399⟩
            · show GoW p e below s (ValQ (.int (1 : Int32)) n0) room_1.cells room_1.slots (T391.setTop (mkF m 140 (Sh8 q1 q2 q3 0 3 b7 b11 b14 1 20000) []))
              refine GoW.sg (mkF m 142 (Sh8 q1 q2 q3 0 3 b7 b11 b14 1 20000) [(.ref b14)]) (fun t k => XS.aload X391.here hx rfl (hb hby at_140) rfl rfl k) ?_
              refine GoW.sg (mkF m 144 (Sh8 q1 q2 q3 0 3 b7 b11 b14 1 20000) [(.long b11), (.ref b14)]) (fun t k => XS.lload X391.here hx rfl (hb hby at_142) rfl k) ?_
              obtain ⟨cq400, kq400, q400a, q400b, q400c⟩ := isOf hZ rfl p391_0
              obtain ⟨_, _, ⟨T400, L400, k400, n400⟩, -, X400, ⟨Lc400, hQ400, l400, y400, z400⟩, st400⟩ := X391.virtualBack hx (y := (⟨"com/example/spindle/spindle/SpinRule", "spinNanos", "(J)J"⟩ : MethodName)) (z := (⟨"com/example/spindle/spindle/SpinRule", "spinNanos", "(J)J"⟩ : MethodName)) hown (mvT hZ (ww hw 11 rfl)) (mvT hZ (ww hw 12 rfl)) (notFace_of_selects (args := #[]) (mvT hZ (ww hw 14 rfl))) (mvT hZ (ww hw 14 rfl)) (mvT hZ (ww hw 13 rfl)) (by decide) (backOf (W := 0) (rm3_37 l Z a0 hw [] b14 b11  T391.heap n0  p391_0 p391_1 p391_2 p391_3 g_b14  c392 ) hZ (ww hw 15 rfl) (ww hw 2 rfl) (by decide) (by decide)) q400a q400c (g := (mkF m 144 (Sh8 q1 q2 q3 0 3 b7 b11 b14 1 20000) [(.long b11), (.ref b14)])) rfl (by rw [hml]; rfl) (Steps.refl _) (argsL := [(.long b11)]) (rest := []) (lenOf pd_28J29J rfl) rfl (by show 2 * 0 + _ ≤ _; exact Nat.le_of_eq rfl) (hb hby at_144) (fun _ _ => ⟨rfl, rfl, (by decide : 1 + 0 ≤ _), (by decide : 3 + 0 ≤ _)⟩)
              dsimp only [Pt.U, Pt.locs, Pt.cells, Pt.slots] at X400 l400 y400 z400 st400 hQ400
              subst l400 y400 z400
              obtain ⟨rfl, N400q, K400, p400_0, p400_1, p400_2, p400_3⟩ := hQ400
              have N400 := Fr.app N391 N400q
              have Zs_400 : n0 ≤ T400.heap.size := Nat.le_trans Zs_391 K400.1
              refine GoW.sg (mkF m 147 (Sh8 q1 q2 q3 0 3 b7 b11 b14 1 20000) [(.long b11)]) (fun t k => st400.trans k) ?_
              refine GoW.sg (mkF m 149 (Sh8 q1 q2 q3 0 3 b7 b11 b14 1 b11) []) (fun t k => XS.lstore X400.here hx rfl (hb hby at_147) rfl (l' := (Sh8 q1 q2 q3 0 3 b7 b11 b14 1 b11)) rfl k) ?_
              refine GoW.sg (mkF m 151 (Sh8 q1 q2 q3 0 3 b7 b11 b14 1 b11) [(.long b11)]) (fun t k => XS.lload X400.here hx rfl (hb hby at_149) rfl k) ?_
              refine GoW.sg (mkF m 154 (Sh8 q1 q2 q3 0 3 b7 b11 b14 1 b11) [(.long 20000), (.long b11)]) (fun t k => X400.ldc2Long hx hown (mvT hZ (ww hw 21 rfl)) (g := (mkF m 151 (Sh8 q1 q2 q3 0 3 b7 b11 b14 1 b11) [(.long b11)])) rfl (hb hby at_151) t k) ?_
              refine GoW.sg (mkF m 155 (Sh8 q1 q2 q3 0 3 b7 b11 b14 1 b11) [(.int (lcmpW b11 (20000 : Int64)))]) (fun t k => XS.lcmp X400.here hx rfl (hb hby at_154) rfl k) ?_
              refine GoW.sg (mkF m 158 (Sh8 q1 q2 q3 0 3 b7 b11 b14 1 b11) []) (fun t k => XS.ifNo X400.here hx rfl (hb hby at_155) rfl ((if0 _ _).trans (flt (mt (lw_gt _ _).mp c392)).2.2.1) k) ?_
              refine GoW.sg (mkF m 160 (Sh8 q1 q2 q3 0 3 b7 b11 b14 1 b11) [(.long b11)]) (fun t k => XS.lload X400.here hx rfl (hb hby at_158) rfl k) ?_
              refine GoW.sg (mkF m 162 (Sh9 q1 q2 q3 0 3 b7 b11 b14 1 b11 b11) []) (fun t k => XS.lstore X400.here hx rfl (hb hby at_160) rfl (l' := (Sh9 q1 q2 q3 0 3 b7 b11 b14 1 b11 b11)) rfl k) ?_
              refine GoW.sg (mkF m 187 (Sh9 q1 q2 q3 0 3 b7 b11 b14 1 b11 b11) []) (fun t k => XS.goto X400.here hx rfl (pc0 := 162) (pc' := 187) rfl (hb hby at_162) (by decide) (by decide) k) ?_
              refine GoW.sg (mkF m 189 (Sh9 q1 q2 q3 0 3 b7 b11 b14 1 b11 b11) [(.int 1)]) (fun t k => XS.iload X400.here hx rfl (hb hby at_187) rfl k) ?_
              refine GoW.sg (mkF m 192 (Sh9 q1 q2 q3 0 3 b7 b11 b14 1 b11 b11) []) (fun t k => XS.ifNo X400.here hx rfl (hb hby at_189) rfl (by decide) k) ?_
              refine GoW.sg (mkF m 194 (Sh9 q1 q2 q3 0 3 b7 b11 b14 1 b11 b11) [(.long b11)]) (fun t k => XS.lload X400.here hx rfl (hb hby at_192) rfl k) ?_
              refine GoW.sg (mkF m 196 (Sh9 q1 q2 q3 0 3 b7 b11 b14 1 b11 b11) [(.long b11), (.long b11)]) (fun t k => XS.lload X400.here hx rfl (hb hby at_194) rfl k) ?_
              refine GoW.sg (mkF m 197 (Sh9 q1 q2 q3 0 3 b7 b11 b14 1 b11 b11) [(.int (lcmpW b11 b11))]) (fun t k => XS.lcmp X400.here hx rfl (hb hby at_196) rfl k) ?_
              refine GoW.sg (mkF m 200 (Sh9 q1 q2 q3 0 3 b7 b11 b14 1 b11 b11) []) (fun t k => XS.ifNo X400.here hx rfl (hb hby at_197) rfl ((if0 _ _).trans (teq ((lw_eq _ _).mpr rfl)).2) k) ?_
              refine GoW.sg (mkF m 201 (Sh9 q1 q2 q3 0 3 b7 b11 b14 1 b11 b11) [(.int 1)]) (fun t k => XS.iconst X400.here hx rfl (hb hby at_200) k) ?_
              refine GoW.sg (mkF m 205 (Sh9 q1 q2 q3 0 3 b7 b11 b14 1 b11 b11) [(.int 1)]) (fun t k => XS.goto X400.here hx rfl (pc0 := 201) (pc' := 205) rfl (hb hby at_201) (by decide) (by decide) k) ?_
              refine GoW.sg (mkF m 207 (Sh9 q1 q2 q3 0 3 b7 b11 b14 1 b11 b11) []) (fun t k => XS.istore X400.here hx rfl (hb hby at_205) rfl (l' := (Sh9 q1 q2 q3 0 3 b7 b11 b14 1 b11 b11)) rfl k) ?_
              refine GoW.sg (mkF m 209 (Sh9 q1 q2 q3 0 3 b7 b11 b14 1 b11 b11) [(.int 1)]) (fun t k => XS.iload X400.here hx rfl (hb hby at_207) rfl k) ?_
              refine GoW.sg (mkF m 212 (Sh9 q1 q2 q3 0 3 b7 b11 b14 1 b11 b11) []) (fun t k => XS.ifNo X400.here hx rfl (hb hby at_209) rfl (by decide) k) ?_
              refine GoW.sg (mkF m 214 (Sh9 q1 q2 q3 0 3 b7 b11 b14 1 b11 b11) [(.ref b14)]) (fun t k => XS.aload X400.here hx rfl (hb hby at_212) rfl rfl k) ?_
              refine GoW.sg (mkF m 215 (Sh9 q1 q2 q3 0 3 b7 b11 b14 1 b11 b11) [(.long 0), (.ref b14)]) (fun t k => XS.lconst X400.here hx rfl (hb hby at_214) k) ?_
              obtain ⟨cq401, kq401, q401a, q401b, q401c⟩ := isOf hZ rfl p400_0
              obtain ⟨_, _, ⟨T401, L401, k401, n401⟩, -, X401, ⟨Lc401, hQ401, l401, y401, z401⟩, st401⟩ := X400.virtualBack hx (y := (⟨"com/example/spindle/spindle/SpinRule", "timesWait", "(J)Z"⟩ : MethodName)) (z := (⟨"com/example/spindle/spindle/SpinRule", "timesWait", "(J)Z"⟩ : MethodName)) hown (mvT hZ (ww hw 22 rfl)) (mvT hZ (ww hw 23 rfl)) (notFace_of_selects (args := #[]) (mvT hZ (ww hw 25 rfl))) (mvT hZ (ww hw 25 rfl)) (mvT hZ (ww hw 24 rfl)) (by decide) (backOf (W := 0) (rm4_34 l Z a0 hw [] b14  T400.heap n0  p400_0 p400_1 p400_2 p400_3    ) hZ (ww hw 26 rfl) (ww hw 2 rfl) (by decide) (by decide)) q401a q401c (g := (mkF m 215 (Sh9 q1 q2 q3 0 3 b7 b11 b14 1 b11 b11) [(.long 0), (.ref b14)])) rfl (by rw [hml]; rfl) (Steps.refl _) (argsL := [(.long (0 : Int64))]) (rest := []) (lenOf pd_28J29Z rfl) rfl (by show 2 * 0 + _ ≤ _; exact Nat.le_of_eq rfl) (hb hby at_215) (fun _ _ => ⟨rfl, rfl, (by decide : 1 + 0 ≤ _), (by decide : 3 + 0 ≤ _)⟩)
              dsimp only [Pt.U, Pt.locs, Pt.cells, Pt.slots] at X401 l401 y401 z401 st401 hQ401
              subst l401 y401 z401
              obtain ⟨rfl, N401q, e401⟩ := hQ401
              have N401 := Fr.app N400 N401q
              refine GoW.sg (mkF m 218 (Sh9 q1 q2 q3 0 3 b7 b11 b14 1 b11 b11) [(.int 0)]) (fun t k => st401.trans k) ?_
              refine GoW.sg (mkF m 220 (Sh9 q1 q2 q3 0 3 b7 b11 b14 1 b11 b11) [(.int 0), (.int 0)]) (fun t k => XS.iload X401.here hx rfl (hb hby at_218) rfl k) ?_
              refine GoW.sg (mkF m 223 (Sh9 q1 q2 q3 0 3 b7 b11 b14 1 b11 b11) []) (fun t k => XS.icmpNo X401.here hx rfl (hb hby at_220) rfl (by decide) k) ?_
              refine GoW.sg (mkF m 224 (Sh9 q1 q2 q3 0 3 b7 b11 b14 1 b11 b11) [(.int 1)]) (fun t k => XS.iconst X401.here hx rfl (hb hby at_223) k) ?_
              refine GoW.sg (mkF m 228 (Sh9 q1 q2 q3 0 3 b7 b11 b14 1 b11 b11) [(.int 1)]) (fun t k => XS.goto X401.here hx rfl (pc0 := 224) (pc' := 228) rfl (hb hby at_224) (by decide) (by decide) k) ?_
              refine GoW.sg (mkF m 230 (Sh9 q1 q2 q3 0 3 b7 b11 b14 1 b11 b11) []) (fun t k => XS.istore X401.here hx rfl (hb hby at_228) rfl (l' := (Sh9 q1 q2 q3 0 3 b7 b11 b14 1 b11 b11)) rfl k) ?_
              by_cases c402 : (20000 : Int64) < q2
              · show GoW p e below s (ValQ (.int (1 : Int32)) n0) room_1.cells room_1.slots (T401.setTop (mkF m 230 (Sh9 q1 q2 q3 0 3 b7 b11 b14 1 b11 b11) []))
                refine GoW.sg (mkF m 232 (Sh9 q1 q2 q3 0 3 b7 b11 b14 1 b11 b11) [(.ref b14)]) (fun t k => XS.aload X401.here hx rfl (hb hby at_230) rfl rfl k) ?_
                refine GoW.sg (mkF m 233 (Sh9 q1 q2 q3 0 3 b7 b11 b14 1 b11 b11) [(.long q2), (.ref b14)]) (fun t k => XS.lloadN X401.here hx rfl (hb hby at_232) rfl k) ?_
                obtain ⟨cq403, kq403, q403a, q403b, q403c⟩ := isOf hZ e401 p400_0
                obtain ⟨_, _, ⟨T403, L403, k403, n403⟩, -, X403, ⟨Lc403, hQ403, l403, y403, z403⟩, st403⟩ := X401.virtualBack hx (y := (⟨"com/example/spindle/spindle/SpinRule", "spinNanos", "(J)J"⟩ : MethodName)) (z := (⟨"com/example/spindle/spindle/SpinRule", "spinNanos", "(J)J"⟩ : MethodName)) hown (mvT hZ (ww hw 11 rfl)) (mvT hZ (ww hw 12 rfl)) (notFace_of_selects (args := #[]) (mvT hZ (ww hw 14 rfl))) (mvT hZ (ww hw 14 rfl)) (mvT hZ (ww hw 13 rfl)) (by decide) (backOf (W := 0) (rm3_35 l Z a0 hw [] b14 q2  T400.heap n0  p400_0 p400_1 p400_2 p400_3 g_b14  c402 ) hZ (ww hw 15 rfl) (ww hw 2 rfl) (by decide) (by decide)) q403a q403c (g := (mkF m 233 (Sh9 q1 q2 q3 0 3 b7 b11 b14 1 b11 b11) [(.long q2), (.ref b14)])) rfl (by rw [hml]; rfl) (Steps.refl _) (argsL := [(.long q2)]) (rest := []) (lenOf pd_28J29J rfl) rfl (by show 2 * 0 + _ ≤ _; exact Nat.le_of_eq rfl) (hb hby at_233) (fun _ _ => ⟨rfl, e401, (by decide : 1 + 0 ≤ _), (by decide : 3 + 0 ≤ _)⟩)
                dsimp only [Pt.U, Pt.locs, Pt.cells, Pt.slots] at X403 l403 y403 z403 st403 hQ403
                subst l403 y403 z403
                obtain ⟨rfl, N403q, K403, p403_0, p403_1, p403_2, p403_3⟩ := hQ403
                have N403 := Fr.app N401 N403q
                have Zs_403 : n0 ≤ T403.heap.size := Nat.le_trans Zs_400 K403.1
                refine GoW.sg (mkF m 236 (Sh9 q1 q2 q3 0 3 b7 b11 b14 1 b11 b11) [(.long 0)]) (fun t k => st403.trans k) ?_
                refine GoW.sg (mkF m 238 (Sh10 q1 q2 q3 0 3 b7 b11 b14 1 b11 b11 0) []) (fun t k => XS.lstore X403.here hx rfl (hb hby at_236) rfl (l' := (Sh10 q1 q2 q3 0 3 b7 b11 b14 1 b11 b11 0)) rfl k) ?_
                refine GoW.sg (mkF m 239 (Sh10 q1 q2 q3 0 3 b7 b11 b14 1 b11 b11 0) [(.long q2)]) (fun t k => XS.lloadN X403.here hx rfl (hb hby at_238) rfl k) ?_
                refine GoW.sg (mkF m 242 (Sh10 q1 q2 q3 0 3 b7 b11 b14 1 b11 b11 0) [(.long 20000), (.long q2)]) (fun t k => X403.ldc2Long hx hown (mvT hZ (ww hw 21 rfl)) (g := (mkF m 239 (Sh10 q1 q2 q3 0 3 b7 b11 b14 1 b11 b11 0) [(.long q2)])) rfl (hb hby at_239) t k) ?_
                refine GoW.sg (mkF m 243 (Sh10 q1 q2 q3 0 3 b7 b11 b14 1 b11 b11 0) [(.int (lcmpW q2 (20000 : Int64)))]) (fun t k => XS.lcmp X403.here hx rfl (hb hby at_242) rfl k) ?_
                refine GoW.sg (mkF m 250 (Sh10 q1 q2 q3 0 3 b7 b11 b14 1 b11 b11 0) []) (fun t k => XS.ifYes X403.here hx rfl (pc0 := 243) (pc' := 250) rfl (hb hby at_243) rfl ((if0 _ _).trans (tlt ((lw_gt _ _).mpr c402)).2.2.1) (by decide) (by decide) k) ?_
                refine GoW.sg (mkF m 251 (Sh10 q1 q2 q3 0 3 b7 b11 b14 1 b11 b11 0) [(.long 0)]) (fun t k => XS.lconst X403.here hx rfl (hb hby at_250) k) ?_
                refine GoW.sg (mkF m 253 (Sh11 q1 q2 q3 0 3 b7 b11 b14 1 b11 b11 0 0) []) (fun t k => XS.lstore X403.here hx rfl (hb hby at_251) rfl (l' := (Sh11 q1 q2 q3 0 3 b7 b11 b14 1 b11 b11 0 0)) rfl k) ?_
                refine GoW.sg (mkF m 255 (Sh11 q1 q2 q3 0 3 b7 b11 b14 1 b11 b11 0 0) [(.int 1)]) (fun t k => XS.iload X403.here hx rfl (hb hby at_253) rfl k) ?_
                refine GoW.sg (mkF m 258 (Sh11 q1 q2 q3 0 3 b7 b11 b14 1 b11 b11 0 0) []) (fun t k => XS.ifNo X403.here hx rfl (hb hby at_255) rfl (by decide) k) ?_
                refine GoW.sg (mkF m 260 (Sh11 q1 q2 q3 0 3 b7 b11 b14 1 b11 b11 0 0) [(.long 0)]) (fun t k => XS.lload X403.here hx rfl (hb hby at_258) rfl k) ?_
                refine GoW.sg (mkF m 262 (Sh11 q1 q2 q3 0 3 b7 b11 b14 1 b11 b11 0 0) [(.long 0), (.long 0)]) (fun t k => XS.lload X403.here hx rfl (hb hby at_260) rfl k) ?_
                refine GoW.sg (mkF m 263 (Sh11 q1 q2 q3 0 3 b7 b11 b14 1 b11 b11 0 0) [(.int (lcmpW (0 : Int64) (0 : Int64)))]) (fun t k => XS.lcmp X403.here hx rfl (hb hby at_262) rfl k) ?_
                refine GoW.sg (mkF m 266 (Sh11 q1 q2 q3 0 3 b7 b11 b14 1 b11 b11 0 0) []) (fun t k => XS.ifNo X403.here hx rfl (hb hby at_263) rfl (by decide) k) ?_
                refine GoW.sg (mkF m 267 (Sh11 q1 q2 q3 0 3 b7 b11 b14 1 b11 b11 0 0) [(.int 1)]) (fun t k => XS.iconst X403.here hx rfl (hb hby at_266) k) ?_
                refine GoW.sg (mkF m 271 (Sh11 q1 q2 q3 0 3 b7 b11 b14 1 b11 b11 0 0) [(.int 1)]) (fun t k => XS.goto X403.here hx rfl (pc0 := 267) (pc' := 271) rfl (hb hby at_267) (by decide) (by decide) k) ?_
                refine GoW.sg (mkF m 273 (Sh11 q1 q2 q3 0 3 b7 b11 b14 1 b11 b11 0 0) []) (fun t k => XS.istore X403.here hx rfl (hb hby at_271) rfl (l' := (Sh11 q1 q2 q3 0 3 b7 b11 b14 1 b11 b11 0 0)) rfl k) ?_
                refine GoW.sg (mkF m 275 (Sh11 q1 q2 q3 0 3 b7 b11 b14 1 b11 b11 0 0) [(.int 1)]) (fun t k => XS.iload X403.here hx rfl (hb hby at_273) rfl k) ?_
                refine GoW.sg (mkF m 278 (Sh11 q1 q2 q3 0 3 b7 b11 b14 1 b11 b11 0 0) []) (fun t k => XS.ifNo X403.here hx rfl (hb hby at_275) rfl (by decide) k) ?_
                refine GoW.sg (mkF m 280 (Sh11 q1 q2 q3 0 3 b7 b11 b14 1 b11 b11 0 0) [(.ref b14)]) (fun t k => XS.aload X403.here hx rfl (hb hby at_278) rfl rfl k) ?_
                refine GoW.sg (mkF m 281 (Sh11 q1 q2 q3 0 3 b7 b11 b14 1 b11 b11 0 0) [(.long 0), (.ref b14)]) (fun t k => XS.lconst X403.here hx rfl (hb hby at_280) k) ?_
                obtain ⟨cq404, kq404, q404a, q404b, q404c⟩ := isOf hZ rfl p403_0
                obtain ⟨_, _, ⟨T404, L404, k404, n404⟩, -, X404, ⟨Lc404, hQ404, l404, y404, z404⟩, st404⟩ := X403.virtualBack hx (y := (⟨"com/example/spindle/spindle/SpinRule", "timesWait", "(J)Z"⟩ : MethodName)) (z := (⟨"com/example/spindle/spindle/SpinRule", "timesWait", "(J)Z"⟩ : MethodName)) hown (mvT hZ (ww hw 22 rfl)) (mvT hZ (ww hw 23 rfl)) (notFace_of_selects (args := #[]) (mvT hZ (ww hw 25 rfl))) (mvT hZ (ww hw 25 rfl)) (mvT hZ (ww hw 24 rfl)) (by decide) (backOf (W := 0) (rm4_34 l Z a0 hw [] b14  T403.heap n0  p403_0 p403_1 p403_2 p403_3    ) hZ (ww hw 26 rfl) (ww hw 2 rfl) (by decide) (by decide)) q404a q404c (g := (mkF m 281 (Sh11 q1 q2 q3 0 3 b7 b11 b14 1 b11 b11 0 0) [(.long 0), (.ref b14)])) rfl (by rw [hml]; rfl) (Steps.refl _) (argsL := [(.long (0 : Int64))]) (rest := []) (lenOf pd_28J29Z rfl) rfl (by show 2 * 0 + _ ≤ _; exact Nat.le_of_eq rfl) (hb hby at_281) (fun _ _ => ⟨rfl, rfl, (by decide : 1 + 0 ≤ _), (by decide : 3 + 0 ≤ _)⟩)
                dsimp only [Pt.U, Pt.locs, Pt.cells, Pt.slots] at X404 l404 y404 z404 st404 hQ404
                subst l404 y404 z404
                obtain ⟨rfl, N404q, e404⟩ := hQ404
                have N404 := Fr.app N403 N404q
                refine GoW.sg (mkF m 284 (Sh11 q1 q2 q3 0 3 b7 b11 b14 1 b11 b11 0 0) [(.int 0)]) (fun t k => st404.trans k) ?_
                refine GoW.sg (mkF m 287 (Sh11 q1 q2 q3 0 3 b7 b11 b14 1 b11 b11 0 0) []) (fun t k => XS.ifNo X404.here hx rfl (hb hby at_284) rfl (by decide) k) ?_
                refine GoW.sg (mkF m 288 (Sh11 q1 q2 q3 0 3 b7 b11 b14 1 b11 b11 0 0) [(.int 1)]) (fun t k => XS.iconst X404.here hx rfl (hb hby at_287) k) ?_
                refine GoW.sg (mkF m 292 (Sh11 q1 q2 q3 0 3 b7 b11 b14 1 b11 b11 0 0) [(.int 1)]) (fun t k => XS.goto X404.here hx rfl (pc0 := 288) (pc' := 292) rfl (hb hby at_288) (by decide) (by decide) k) ?_
                refine GoW.sg (mkF m 294 (Sh11 q1 q2 q3 0 3 b7 b11 b14 1 b11 b11 0 0) []) (fun t k => XS.istore X404.here hx rfl (hb hby at_292) rfl (l' := (Sh11 q1 q2 q3 0 3 b7 b11 b14 1 b11 b11 0 0)) rfl k) ?_
                refine GoW.sg (mkF m 296 (Sh11 q1 q2 q3 0 3 b7 b11 b14 1 b11 b11 0 0) [(.int 1)]) (fun t k => XS.iload X404.here hx rfl (hb hby at_294) rfl k) ?_
                refine GoW.retN X404 hx (t := .boolean) Bd.returns (by simp) (hb hby at_296) Bd.notSynchronized ?_ (by decide) (by decide)
                exact ⟨rfl, N404⟩
              · show GoW p e below s (ValQ (.int (1 : Int32)) n0) room_1.cells room_1.slots (T401.setTop (mkF m 230 (Sh9 q1 q2 q3 0 3 b7 b11 b14 1 b11 b11) []))
                refine GoW.sg (mkF m 232 (Sh9 q1 q2 q3 0 3 b7 b11 b14 1 b11 b11) [(.ref b14)]) (fun t k => XS.aload X401.here hx rfl (hb hby at_230) rfl rfl k) ?_
                refine GoW.sg (mkF m 233 (Sh9 q1 q2 q3 0 3 b7 b11 b14 1 b11 b11) [(.long q2), (.ref b14)]) (fun t k => XS.lloadN X401.here hx rfl (hb hby at_232) rfl k) ?_
                obtain ⟨cq405, kq405, q405a, q405b, q405c⟩ := isOf hZ e401 p400_0
                obtain ⟨_, _, ⟨T405, L405, k405, n405⟩, -, X405, ⟨Lc405, hQ405, l405, y405, z405⟩, st405⟩ := X401.virtualBack hx (y := (⟨"com/example/spindle/spindle/SpinRule", "spinNanos", "(J)J"⟩ : MethodName)) (z := (⟨"com/example/spindle/spindle/SpinRule", "spinNanos", "(J)J"⟩ : MethodName)) hown (mvT hZ (ww hw 11 rfl)) (mvT hZ (ww hw 12 rfl)) (notFace_of_selects (args := #[]) (mvT hZ (ww hw 14 rfl))) (mvT hZ (ww hw 14 rfl)) (mvT hZ (ww hw 13 rfl)) (by decide) (backOf (W := 0) (rm3_36 l Z a0 hw [] b14 q2  T400.heap n0  p400_0 p400_1 p400_2 p400_3 g_b14  c402 ) hZ (ww hw 15 rfl) (ww hw 2 rfl) (by decide) (by decide)) q405a q405c (g := (mkF m 233 (Sh9 q1 q2 q3 0 3 b7 b11 b14 1 b11 b11) [(.long q2), (.ref b14)])) rfl (by rw [hml]; rfl) (Steps.refl _) (argsL := [(.long q2)]) (rest := []) (lenOf pd_28J29J rfl) rfl (by show 2 * 0 + _ ≤ _; exact Nat.le_of_eq rfl) (hb hby at_233) (fun _ _ => ⟨rfl, e401, (by decide : 1 + 0 ≤ _), (by decide : 3 + 0 ≤ _)⟩)
                dsimp only [Pt.U, Pt.locs, Pt.cells, Pt.slots] at X405 l405 y405 z405 st405 hQ405
                subst l405 y405 z405
                obtain ⟨rfl, N405q, K405, p405_0, p405_1, p405_2, p405_3⟩ := hQ405
                have N405 := Fr.app N401 N405q
                have Zs_405 : n0 ≤ T405.heap.size := Nat.le_trans Zs_400 K405.1
                refine GoW.sg (mkF m 236 (Sh9 q1 q2 q3 0 3 b7 b11 b14 1 b11 b11) [(.long q2)]) (fun t k => st405.trans k) ?_
                refine GoW.sg (mkF m 238 (Sh10 q1 q2 q3 0 3 b7 b11 b14 1 b11 b11 q2) []) (fun t k => XS.lstore X405.here hx rfl (hb hby at_236) rfl (l' := (Sh10 q1 q2 q3 0 3 b7 b11 b14 1 b11 b11 q2)) rfl k) ?_
                refine GoW.sg (mkF m 239 (Sh10 q1 q2 q3 0 3 b7 b11 b14 1 b11 b11 q2) [(.long q2)]) (fun t k => XS.lloadN X405.here hx rfl (hb hby at_238) rfl k) ?_
                refine GoW.sg (mkF m 242 (Sh10 q1 q2 q3 0 3 b7 b11 b14 1 b11 b11 q2) [(.long 20000), (.long q2)]) (fun t k => X405.ldc2Long hx hown (mvT hZ (ww hw 21 rfl)) (g := (mkF m 239 (Sh10 q1 q2 q3 0 3 b7 b11 b14 1 b11 b11 q2) [(.long q2)])) rfl (hb hby at_239) t k) ?_
                refine GoW.sg (mkF m 243 (Sh10 q1 q2 q3 0 3 b7 b11 b14 1 b11 b11 q2) [(.int (lcmpW q2 (20000 : Int64)))]) (fun t k => XS.lcmp X405.here hx rfl (hb hby at_242) rfl k) ?_
                refine GoW.sg (mkF m 246 (Sh10 q1 q2 q3 0 3 b7 b11 b14 1 b11 b11 q2) []) (fun t k => XS.ifNo X405.here hx rfl (hb hby at_243) rfl ((if0 _ _).trans (flt (mt (lw_gt _ _).mp c402)).2.2.1) k) ?_
                refine GoW.sg (mkF m 247 (Sh10 q1 q2 q3 0 3 b7 b11 b14 1 b11 b11 q2) [(.long q2)]) (fun t k => XS.lloadN X405.here hx rfl (hb hby at_246) rfl k) ?_
                refine GoW.sg (mkF m 251 (Sh10 q1 q2 q3 0 3 b7 b11 b14 1 b11 b11 q2) [(.long q2)]) (fun t k => XS.goto X405.here hx rfl (pc0 := 247) (pc' := 251) rfl (hb hby at_247) (by decide) (by decide) k) ?_
                refine GoW.sg (mkF m 253 (Sh11 q1 q2 q3 0 3 b7 b11 b14 1 b11 b11 q2 q2) []) (fun t k => XS.lstore X405.here hx rfl (hb hby at_251) rfl (l' := (Sh11 q1 q2 q3 0 3 b7 b11 b14 1 b11 b11 q2 q2)) rfl k) ?_
                refine GoW.sg (mkF m 255 (Sh11 q1 q2 q3 0 3 b7 b11 b14 1 b11 b11 q2 q2) [(.int 1)]) (fun t k => XS.iload X405.here hx rfl (hb hby at_253) rfl k) ?_
                refine GoW.sg (mkF m 258 (Sh11 q1 q2 q3 0 3 b7 b11 b14 1 b11 b11 q2 q2) []) (fun t k => XS.ifNo X405.here hx rfl (hb hby at_255) rfl (by decide) k) ?_
                refine GoW.sg (mkF m 260 (Sh11 q1 q2 q3 0 3 b7 b11 b14 1 b11 b11 q2 q2) [(.long q2)]) (fun t k => XS.lload X405.here hx rfl (hb hby at_258) rfl k) ?_
                refine GoW.sg (mkF m 262 (Sh11 q1 q2 q3 0 3 b7 b11 b14 1 b11 b11 q2 q2) [(.long q2), (.long q2)]) (fun t k => XS.lload X405.here hx rfl (hb hby at_260) rfl k) ?_
                refine GoW.sg (mkF m 263 (Sh11 q1 q2 q3 0 3 b7 b11 b14 1 b11 b11 q2 q2) [(.int (lcmpW q2 q2))]) (fun t k => XS.lcmp X405.here hx rfl (hb hby at_262) rfl k) ?_
                refine GoW.sg (mkF m 266 (Sh11 q1 q2 q3 0 3 b7 b11 b14 1 b11 b11 q2 q2) []) (fun t k => XS.ifNo X405.here hx rfl (hb hby at_263) rfl ((if0 _ _).trans (teq ((lw_eq _ _).mpr rfl)).2) k) ?_
                refine GoW.sg (mkF m 267 (Sh11 q1 q2 q3 0 3 b7 b11 b14 1 b11 b11 q2 q2) [(.int 1)]) (fun t k => XS.iconst X405.here hx rfl (hb hby at_266) k) ?_
                refine GoW.sg (mkF m 271 (Sh11 q1 q2 q3 0 3 b7 b11 b14 1 b11 b11 q2 q2) [(.int 1)]) (fun t k => XS.goto X405.here hx rfl (pc0 := 267) (pc' := 271) rfl (hb hby at_267) (by decide) (by decide) k) ?_
                refine GoW.sg (mkF m 273 (Sh11 q1 q2 q3 0 3 b7 b11 b14 1 b11 b11 q2 q2) []) (fun t k => XS.istore X405.here hx rfl (hb hby at_271) rfl (l' := (Sh11 q1 q2 q3 0 3 b7 b11 b14 1 b11 b11 q2 q2)) rfl k) ?_
                refine GoW.sg (mkF m 275 (Sh11 q1 q2 q3 0 3 b7 b11 b14 1 b11 b11 q2 q2) [(.int 1)]) (fun t k => XS.iload X405.here hx rfl (hb hby at_273) rfl k) ?_
                refine GoW.sg (mkF m 278 (Sh11 q1 q2 q3 0 3 b7 b11 b14 1 b11 b11 q2 q2) []) (fun t k => XS.ifNo X405.here hx rfl (hb hby at_275) rfl (by decide) k) ?_
                refine GoW.sg (mkF m 280 (Sh11 q1 q2 q3 0 3 b7 b11 b14 1 b11 b11 q2 q2) [(.ref b14)]) (fun t k => XS.aload X405.here hx rfl (hb hby at_278) rfl rfl k) ?_
                refine GoW.sg (mkF m 281 (Sh11 q1 q2 q3 0 3 b7 b11 b14 1 b11 b11 q2 q2) [(.long 0), (.ref b14)]) (fun t k => XS.lconst X405.here hx rfl (hb hby at_280) k) ?_
                obtain ⟨cq406, kq406, q406a, q406b, q406c⟩ := isOf hZ rfl p405_0
                obtain ⟨_, _, ⟨T406, L406, k406, n406⟩, -, X406, ⟨Lc406, hQ406, l406, y406, z406⟩, st406⟩ := X405.virtualBack hx (y := (⟨"com/example/spindle/spindle/SpinRule", "timesWait", "(J)Z"⟩ : MethodName)) (z := (⟨"com/example/spindle/spindle/SpinRule", "timesWait", "(J)Z"⟩ : MethodName)) hown (mvT hZ (ww hw 22 rfl)) (mvT hZ (ww hw 23 rfl)) (notFace_of_selects (args := #[]) (mvT hZ (ww hw 25 rfl))) (mvT hZ (ww hw 25 rfl)) (mvT hZ (ww hw 24 rfl)) (by decide) (backOf (W := 0) (rm4_34 l Z a0 hw [] b14  T405.heap n0  p405_0 p405_1 p405_2 p405_3    ) hZ (ww hw 26 rfl) (ww hw 2 rfl) (by decide) (by decide)) q406a q406c (g := (mkF m 281 (Sh11 q1 q2 q3 0 3 b7 b11 b14 1 b11 b11 q2 q2) [(.long 0), (.ref b14)])) rfl (by rw [hml]; rfl) (Steps.refl _) (argsL := [(.long (0 : Int64))]) (rest := []) (lenOf pd_28J29Z rfl) rfl (by show 2 * 0 + _ ≤ _; exact Nat.le_of_eq rfl) (hb hby at_281) (fun _ _ => ⟨rfl, rfl, (by decide : 1 + 0 ≤ _), (by decide : 3 + 0 ≤ _)⟩)
                dsimp only [Pt.U, Pt.locs, Pt.cells, Pt.slots] at X406 l406 y406 z406 st406 hQ406
                subst l406 y406 z406
                obtain ⟨rfl, N406q, e406⟩ := hQ406
                have N406 := Fr.app N405 N406q
                refine GoW.sg (mkF m 284 (Sh11 q1 q2 q3 0 3 b7 b11 b14 1 b11 b11 q2 q2) [(.int 0)]) (fun t k => st406.trans k) ?_
                refine GoW.sg (mkF m 287 (Sh11 q1 q2 q3 0 3 b7 b11 b14 1 b11 b11 q2 q2) []) (fun t k => XS.ifNo X406.here hx rfl (hb hby at_284) rfl (by decide) k) ?_
                refine GoW.sg (mkF m 288 (Sh11 q1 q2 q3 0 3 b7 b11 b14 1 b11 b11 q2 q2) [(.int 1)]) (fun t k => XS.iconst X406.here hx rfl (hb hby at_287) k) ?_
                refine GoW.sg (mkF m 292 (Sh11 q1 q2 q3 0 3 b7 b11 b14 1 b11 b11 q2 q2) [(.int 1)]) (fun t k => XS.goto X406.here hx rfl (pc0 := 288) (pc' := 292) rfl (hb hby at_288) (by decide) (by decide) k) ?_
                refine GoW.sg (mkF m 294 (Sh11 q1 q2 q3 0 3 b7 b11 b14 1 b11 b11 q2 q2) []) (fun t k => XS.istore X406.here hx rfl (hb hby at_292) rfl (l' := (Sh11 q1 q2 q3 0 3 b7 b11 b14 1 b11 b11 q2 q2)) rfl k) ?_
                refine GoW.sg (mkF m 296 (Sh11 q1 q2 q3 0 3 b7 b11 b14 1 b11 b11 q2 q2) [(.int 1)]) (fun t k => XS.iload X406.here hx rfl (hb hby at_294) rfl k) ?_
                refine GoW.retN X406 hx (t := .boolean) Bd.returns (by simp) (hb hby at_296) Bd.notSynchronized ?_ (by decide) (by decide)
                exact ⟨rfl, N406⟩
          · subst cc
            show GoW p e below s (ValQ (.int (1 : Int32)) n0) room_1.cells room_1.slots (T391.setTop (mkF m 130 (Sh8 q1 q2 q3 1 3 b7 b11 b14 1 20000) []))
            refine GoW.sg (mkF m 132 (Sh8 q1 q2 q3 1 3 b7 b11 b14 1 20000) [(.int 1)]) (fun t k => XS.iload X391.here hx rfl (hb hby at_130) rfl k) ?_
            refine GoW.sg (mkF m 135 (Sh8 q1 q2 q3 1 3 b7 b11 b14 1 20000) []) (fun t k => XS.ifNo X391.here hx rfl (hb hby at_132) rfl (by decide) k) ?_
            refine GoW.sg (mkF m 137 (Sh8 q1 q2 q3 1 3 b7 b11 b14 1 20000) [(.ref b14)]) (fun t k => XS.aload X391.here hx rfl (hb hby at_135) rfl rfl k) ?_
            obtain ⟨cq407, kq407, q407a, q407b, q407c⟩ := isOf hZ rfl p391_0
            obtain ⟨_, _, ⟨T407, L407, k407, n407⟩, -, X407, ⟨Lc407, hQ407, l407, y407, z407⟩, st407⟩ := X391.virtualBack hx (y := (⟨"com/example/spindle/spindle/SpinRule", "handedOn", "()V"⟩ : MethodName)) (z := (⟨"com/example/spindle/spindle/SpinRule", "handedOn", "()V"⟩ : MethodName)) hown (mvT hZ (ww hw 27 rfl)) (mvT hZ (ww hw 28 rfl)) (notFace_of_selects (args := #[]) (mvT hZ (ww hw 30 rfl))) (mvT hZ (ww hw 30 rfl)) (mvT hZ (ww hw 29 rfl)) (by decide) (backOf (W := 0) (rm5_38 l Z a0 hw [] b14  T391.heap n0  p391_0 p391_1 p391_2 p391_3 g_b14   ) hZ (ww hw 31 rfl) (ww hw 2 rfl) (by decide) (by decide)) q407a q407c (g := (mkF m 137 (Sh8 q1 q2 q3 1 3 b7 b11 b14 1 20000) [(.ref b14)])) rfl (by rw [hml]; rfl) (Steps.refl _) (argsL := []) (rest := []) (lenOf pd_2829V rfl) rfl (by show 2 * 0 + _ ≤ _; exact Nat.le_of_eq rfl) (hb hby at_137) (fun _ _ => ⟨rfl, rfl, (by decide : 1 + 0 ≤ _), (by decide : 3 + 0 ≤ _)⟩)
            dsimp only [Pt.U, Pt.locs, Pt.cells, Pt.slots] at X407 l407 y407 z407 st407 hQ407
            subst l407 y407 z407
            obtain ⟨rfl, N407q, K407, p407_0, p407_1, p407_2, p407_3⟩ := hQ407
            have N407 := Fr.app N391 N407q
            have Zs_407 : n0 ≤ T407.heap.size := Nat.le_trans Zs_391 K407.1
            refine GoW.sg (mkF m 140 (Sh8 q1 q2 q3 1 3 b7 b11 b14 1 20000) []) (fun t k => st407.trans k) ?_
            by_cases c408 : (20000 : Int64) < b11
            · show GoW p e below s (ValQ (.int (1 : Int32)) n0) room_1.cells room_1.slots (T407.setTop (mkF m 140 (Sh8 q1 q2 q3 1 3 b7 b11 b14 1 20000) []))
              refine GoW.sg (mkF m 142 (Sh8 q1 q2 q3 1 3 b7 b11 b14 1 20000) [(.ref b14)]) (fun t k => XS.aload X407.here hx rfl (hb hby at_140) rfl rfl k) ?_
              refine GoW.sg (mkF m 144 (Sh8 q1 q2 q3 1 3 b7 b11 b14 1 20000) [(.long b11), (.ref b14)]) (fun t k => XS.lload X407.here hx rfl (hb hby at_142) rfl k) ?_
              obtain ⟨cq409, kq409, q409a, q409b, q409c⟩ := isOf hZ rfl p407_0
              obtain ⟨_, _, ⟨T409, L409, k409, n409⟩, -, X409, ⟨Lc409, hQ409, l409, y409, z409⟩, st409⟩ := X407.virtualBack hx (y := (⟨"com/example/spindle/spindle/SpinRule", "spinNanos", "(J)J"⟩ : MethodName)) (z := (⟨"com/example/spindle/spindle/SpinRule", "spinNanos", "(J)J"⟩ : MethodName)) hown (mvT hZ (ww hw 11 rfl)) (mvT hZ (ww hw 12 rfl)) (notFace_of_selects (args := #[]) (mvT hZ (ww hw 14 rfl))) (mvT hZ (ww hw 14 rfl)) (mvT hZ (ww hw 13 rfl)) (by decide) (backOf (W := 0) (rm3_39 l Z a0 hw [] b14 b11  T407.heap n0  p407_0 p407_1 p407_2 p407_3 g_b14  c408 ) hZ (ww hw 15 rfl) (ww hw 2 rfl) (by decide) (by decide)) q409a q409c (g := (mkF m 144 (Sh8 q1 q2 q3 1 3 b7 b11 b14 1 20000) [(.long b11), (.ref b14)])) rfl (by rw [hml]; rfl) (Steps.refl _) (argsL := [(.long b11)]) (rest := []) (lenOf pd_28J29J rfl) rfl (by show 2 * 0 + _ ≤ _; exact Nat.le_of_eq rfl) (hb hby at_144) (fun _ _ => ⟨rfl, rfl, (by decide : 1 + 0 ≤ _), (by decide : 3 + 0 ≤ _)⟩)
              dsimp only [Pt.U, Pt.locs, Pt.cells, Pt.slots] at X409 l409 y409 z409 st409 hQ409
              subst l409 y409 z409
              obtain ⟨rfl, N409q, K409, p409_0, p409_1, p409_2, p409_3⟩ := hQ409
              have N409 := Fr.app N407 N409q
              have Zs_409 : n0 ≤ T409.heap.size := Nat.le_trans Zs_407 K409.1
              refine GoW.sg (mkF m 147 (Sh8 q1 q2 q3 1 3 b7 b11 b14 1 20000) [(.long 0)]) (fun t k => st409.trans k) ?_
              refine GoW.sg (mkF m 149 (Sh8 q1 q2 q3 1 3 b7 b11 b14 1 0) []) (fun t k => XS.lstore X409.here hx rfl (hb hby at_147) rfl (l' := (Sh8 q1 q2 q3 1 3 b7 b11 b14 1 0)) rfl k) ?_
              refine GoW.sg (mkF m 151 (Sh8 q1 q2 q3 1 3 b7 b11 b14 1 0) [(.long b11)]) (fun t k => XS.lload X409.here hx rfl (hb hby at_149) rfl k) ?_
              refine GoW.sg (mkF m 154 (Sh8 q1 q2 q3 1 3 b7 b11 b14 1 0) [(.long 20000), (.long b11)]) (fun t k => X409.ldc2Long hx hown (mvT hZ (ww hw 21 rfl)) (g := (mkF m 151 (Sh8 q1 q2 q3 1 3 b7 b11 b14 1 0) [(.long b11)])) rfl (hb hby at_151) t k) ?_
              refine GoW.sg (mkF m 155 (Sh8 q1 q2 q3 1 3 b7 b11 b14 1 0) [(.int (lcmpW b11 (20000 : Int64)))]) (fun t k => XS.lcmp X409.here hx rfl (hb hby at_154) rfl k) ?_
              refine GoW.sg (mkF m 165 (Sh8 q1 q2 q3 1 3 b7 b11 b14 1 0) []) (fun t k => XS.ifYes X409.here hx rfl (pc0 := 155) (pc' := 165) rfl (hb hby at_155) rfl ((if0 _ _).trans (tlt ((lw_gt _ _).mpr c408)).2.2.1) (by decide) (by decide) k) ?_
              refine GoW.sg (mkF m 167 (Sh8 q1 q2 q3 1 3 b7 b11 b14 1 0) [(.int 1)]) (fun t k => XS.iload X409.here hx rfl (hb hby at_165) rfl k) ?_
              refine GoW.sg (mkF m 170 (Sh8 q1 q2 q3 1 3 b7 b11 b14 1 0) []) (fun t k => XS.ifNo X409.here hx rfl (hb hby at_167) rfl (by decide) k) ?_
              refine GoW.sg (mkF m 172 (Sh8 q1 q2 q3 1 3 b7 b11 b14 1 0) [(.int 3)]) (fun t k => XS.iload X409.here hx rfl (hb hby at_170) rfl k) ?_
              refine GoW.sg (mkF m 173 (Sh8 q1 q2 q3 1 3 b7 b11 b14 1 0) [(.int 2), (.int 3)]) (fun t k => XS.iconst X409.here hx rfl (hb hby at_172) k) ?_
              refine GoW.sg (mkF m 184 (Sh8 q1 q2 q3 1 3 b7 b11 b14 1 0) []) (fun t k => XS.icmpYes X409.here hx rfl (pc0 := 173) (pc' := 184) rfl (hb hby at_173) rfl (by decide) (by decide) (by decide) k) ?_
              refine GoW.sg (mkF m 185 (Sh8 q1 q2 q3 1 3 b7 b11 b14 1 0) [(.long 0)]) (fun t k => XS.lconst X409.here hx rfl (hb hby at_184) k) ?_
              refine GoW.sg (mkF m 187 (Sh9 q1 q2 q3 1 3 b7 b11 b14 1 0 0) []) (fun t k => XS.lstore X409.here hx rfl (hb hby at_185) rfl (l' := (Sh9 q1 q2 q3 1 3 b7 b11 b14 1 0 0)) rfl k) ?_
              refine GoW.sg (mkF m 189 (Sh9 q1 q2 q3 1 3 b7 b11 b14 1 0 0) [(.int 1)]) (fun t k => XS.iload X409.here hx rfl (hb hby at_187) rfl k) ?_
              refine GoW.sg (mkF m 192 (Sh9 q1 q2 q3 1 3 b7 b11 b14 1 0 0) []) (fun t k => XS.ifNo X409.here hx rfl (hb hby at_189) rfl (by decide) k) ?_
              refine GoW.sg (mkF m 194 (Sh9 q1 q2 q3 1 3 b7 b11 b14 1 0 0) [(.long 0)]) (fun t k => XS.lload X409.here hx rfl (hb hby at_192) rfl k) ?_
              refine GoW.sg (mkF m 196 (Sh9 q1 q2 q3 1 3 b7 b11 b14 1 0 0) [(.long 0), (.long 0)]) (fun t k => XS.lload X409.here hx rfl (hb hby at_194) rfl k) ?_
              refine GoW.sg (mkF m 197 (Sh9 q1 q2 q3 1 3 b7 b11 b14 1 0 0) [(.int (lcmpW (0 : Int64) (0 : Int64)))]) (fun t k => XS.lcmp X409.here hx rfl (hb hby at_196) rfl k) ?_
              refine GoW.sg (mkF m 200 (Sh9 q1 q2 q3 1 3 b7 b11 b14 1 0 0) []) (fun t k => XS.ifNo X409.here hx rfl (hb hby at_197) rfl (by decide) k) ?_
              refine GoW.sg (mkF m 201 (Sh9 q1 q2 q3 1 3 b7 b11 b14 1 0 0) [(.int 1)]) (fun t k => XS.iconst X409.here hx rfl (hb hby at_200) k) ?_
              refine GoW.sg (mkF m 205 (Sh9 q1 q2 q3 1 3 b7 b11 b14 1 0 0) [(.int 1)]) (fun t k => XS.goto X409.here hx rfl (pc0 := 201) (pc' := 205) rfl (hb hby at_201) (by decide) (by decide) k) ?_
              refine GoW.sg (mkF m 207 (Sh9 q1 q2 q3 1 3 b7 b11 b14 1 0 0) []) (fun t k => XS.istore X409.here hx rfl (hb hby at_205) rfl (l' := (Sh9 q1 q2 q3 1 3 b7 b11 b14 1 0 0)) rfl k) ?_
              refine GoW.sg (mkF m 209 (Sh9 q1 q2 q3 1 3 b7 b11 b14 1 0 0) [(.int 1)]) (fun t k => XS.iload X409.here hx rfl (hb hby at_207) rfl k) ?_
              refine GoW.sg (mkF m 212 (Sh9 q1 q2 q3 1 3 b7 b11 b14 1 0 0) []) (fun t k => XS.ifNo X409.here hx rfl (hb hby at_209) rfl (by decide) k) ?_
              refine GoW.sg (mkF m 214 (Sh9 q1 q2 q3 1 3 b7 b11 b14 1 0 0) [(.ref b14)]) (fun t k => XS.aload X409.here hx rfl (hb hby at_212) rfl rfl k) ?_
              refine GoW.sg (mkF m 215 (Sh9 q1 q2 q3 1 3 b7 b11 b14 1 0 0) [(.long 0), (.ref b14)]) (fun t k => XS.lconst X409.here hx rfl (hb hby at_214) k) ?_
              obtain ⟨cq410, kq410, q410a, q410b, q410c⟩ := isOf hZ rfl p409_0
              obtain ⟨_, _, ⟨T410, L410, k410, n410⟩, -, X410, ⟨Lc410, hQ410, l410, y410, z410⟩, st410⟩ := X409.virtualBack hx (y := (⟨"com/example/spindle/spindle/SpinRule", "timesWait", "(J)Z"⟩ : MethodName)) (z := (⟨"com/example/spindle/spindle/SpinRule", "timesWait", "(J)Z"⟩ : MethodName)) hown (mvT hZ (ww hw 22 rfl)) (mvT hZ (ww hw 23 rfl)) (notFace_of_selects (args := #[]) (mvT hZ (ww hw 25 rfl))) (mvT hZ (ww hw 25 rfl)) (mvT hZ (ww hw 24 rfl)) (by decide) (backOf (W := 0) (rm4_40 l Z a0 hw [] b14  T409.heap n0  p409_0 p409_1 p409_2 p409_3    ) hZ (ww hw 26 rfl) (ww hw 2 rfl) (by decide) (by decide)) q410a q410c (g := (mkF m 215 (Sh9 q1 q2 q3 1 3 b7 b11 b14 1 0 0) [(.long 0), (.ref b14)])) rfl (by rw [hml]; rfl) (Steps.refl _) (argsL := [(.long (0 : Int64))]) (rest := []) (lenOf pd_28J29Z rfl) rfl (by show 2 * 0 + _ ≤ _; exact Nat.le_of_eq rfl) (hb hby at_215) (fun _ _ => ⟨rfl, rfl, (by decide : 1 + 0 ≤ _), (by decide : 3 + 0 ≤ _)⟩)
              dsimp only [Pt.U, Pt.locs, Pt.cells, Pt.slots] at X410 l410 y410 z410 st410 hQ410
              subst l410 y410 z410
              obtain ⟨rfl, N410q, e410⟩ := hQ410
              have N410 := Fr.app N409 N410q
              refine GoW.sg (mkF m 218 (Sh9 q1 q2 q3 1 3 b7 b11 b14 1 0 0) [(.int 1)]) (fun t k => st410.trans k) ?_
              refine GoW.sg (mkF m 220 (Sh9 q1 q2 q3 1 3 b7 b11 b14 1 0 0) [(.int 1), (.int 1)]) (fun t k => XS.iload X410.here hx rfl (hb hby at_218) rfl k) ?_
              refine GoW.sg (mkF m 223 (Sh9 q1 q2 q3 1 3 b7 b11 b14 1 0 0) []) (fun t k => XS.icmpNo X410.here hx rfl (hb hby at_220) rfl (by decide) k) ?_
              refine GoW.sg (mkF m 224 (Sh9 q1 q2 q3 1 3 b7 b11 b14 1 0 0) [(.int 1)]) (fun t k => XS.iconst X410.here hx rfl (hb hby at_223) k) ?_
              refine GoW.sg (mkF m 228 (Sh9 q1 q2 q3 1 3 b7 b11 b14 1 0 0) [(.int 1)]) (fun t k => XS.goto X410.here hx rfl (pc0 := 224) (pc' := 228) rfl (hb hby at_224) (by decide) (by decide) k) ?_
              refine GoW.sg (mkF m 230 (Sh9 q1 q2 q3 1 3 b7 b11 b14 1 0 0) []) (fun t k => XS.istore X410.here hx rfl (hb hby at_228) rfl (l' := (Sh9 q1 q2 q3 1 3 b7 b11 b14 1 0 0)) rfl k) ?_
              by_cases c411 : (20000 : Int64) < q2
              · show GoW p e below s (ValQ (.int (1 : Int32)) n0) room_1.cells room_1.slots (T410.setTop (mkF m 230 (Sh9 q1 q2 q3 1 3 b7 b11 b14 1 0 0) []))
                refine GoW.sg (mkF m 232 (Sh9 q1 q2 q3 1 3 b7 b11 b14 1 0 0) [(.ref b14)]) (fun t k => XS.aload X410.here hx rfl (hb hby at_230) rfl rfl k) ?_
                refine GoW.sg (mkF m 233 (Sh9 q1 q2 q3 1 3 b7 b11 b14 1 0 0) [(.long q2), (.ref b14)]) (fun t k => XS.lloadN X410.here hx rfl (hb hby at_232) rfl k) ?_
                obtain ⟨cq412, kq412, q412a, q412b, q412c⟩ := isOf hZ e410 p409_0
                obtain ⟨_, _, ⟨T412, L412, k412, n412⟩, -, X412, ⟨Lc412, hQ412, l412, y412, z412⟩, st412⟩ := X410.virtualBack hx (y := (⟨"com/example/spindle/spindle/SpinRule", "spinNanos", "(J)J"⟩ : MethodName)) (z := (⟨"com/example/spindle/spindle/SpinRule", "spinNanos", "(J)J"⟩ : MethodName)) hown (mvT hZ (ww hw 11 rfl)) (mvT hZ (ww hw 12 rfl)) (notFace_of_selects (args := #[]) (mvT hZ (ww hw 14 rfl))) (mvT hZ (ww hw 14 rfl)) (mvT hZ (ww hw 13 rfl)) (by decide) (backOf (W := 0) (rm3_33 l Z a0 hw [] b14 q2  T409.heap n0  p409_0 p409_1 p409_2 p409_3 g_b14  c411 ) hZ (ww hw 15 rfl) (ww hw 2 rfl) (by decide) (by decide)) q412a q412c (g := (mkF m 233 (Sh9 q1 q2 q3 1 3 b7 b11 b14 1 0 0) [(.long q2), (.ref b14)])) rfl (by rw [hml]; rfl) (Steps.refl _) (argsL := [(.long q2)]) (rest := []) (lenOf pd_28J29J rfl) rfl (by show 2 * 0 + _ ≤ _; exact Nat.le_of_eq rfl) (hb hby at_233) (fun _ _ => ⟨rfl, e410, (by decide : 1 + 0 ≤ _), (by decide : 3 + 0 ≤ _)⟩)
                dsimp only [Pt.U, Pt.locs, Pt.cells, Pt.slots] at X412 l412 y412 z412 st412 hQ412
                subst l412 y412 z412
                obtain ⟨rfl, N412q, K412, p412_0, p412_1, p412_2, p412_3⟩ := hQ412
                have N412 := Fr.app N410 N412q
                have Zs_412 : n0 ≤ T412.heap.size := Nat.le_trans Zs_409 K412.1
                refine GoW.sg (mkF m 236 (Sh9 q1 q2 q3 1 3 b7 b11 b14 1 0 0) [(.long 0)]) (fun t k => st412.trans k) ?_
                refine GoW.sg (mkF m 238 (Sh10 q1 q2 q3 1 3 b7 b11 b14 1 0 0 0) []) (fun t k => XS.lstore X412.here hx rfl (hb hby at_236) rfl (l' := (Sh10 q1 q2 q3 1 3 b7 b11 b14 1 0 0 0)) rfl k) ?_
                refine GoW.sg (mkF m 239 (Sh10 q1 q2 q3 1 3 b7 b11 b14 1 0 0 0) [(.long q2)]) (fun t k => XS.lloadN X412.here hx rfl (hb hby at_238) rfl k) ?_
                refine GoW.sg (mkF m 242 (Sh10 q1 q2 q3 1 3 b7 b11 b14 1 0 0 0) [(.long 20000), (.long q2)]) (fun t k => X412.ldc2Long hx hown (mvT hZ (ww hw 21 rfl)) (g := (mkF m 239 (Sh10 q1 q2 q3 1 3 b7 b11 b14 1 0 0 0) [(.long q2)])) rfl (hb hby at_239) t k) ?_
                refine GoW.sg (mkF m 243 (Sh10 q1 q2 q3 1 3 b7 b11 b14 1 0 0 0) [(.int (lcmpW q2 (20000 : Int64)))]) (fun t k => XS.lcmp X412.here hx rfl (hb hby at_242) rfl k) ?_
                refine GoW.sg (mkF m 250 (Sh10 q1 q2 q3 1 3 b7 b11 b14 1 0 0 0) []) (fun t k => XS.ifYes X412.here hx rfl (pc0 := 243) (pc' := 250) rfl (hb hby at_243) rfl ((if0 _ _).trans (tlt ((lw_gt _ _).mpr c411)).2.2.1) (by decide) (by decide) k) ?_
                refine GoW.sg (mkF m 251 (Sh10 q1 q2 q3 1 3 b7 b11 b14 1 0 0 0) [(.long 0)]) (fun t k => XS.lconst X412.here hx rfl (hb hby at_250) k) ?_
                refine GoW.sg (mkF m 253 (Sh11 q1 q2 q3 1 3 b7 b11 b14 1 0 0 0 0) []) (fun t k => XS.lstore X412.here hx rfl (hb hby at_251) rfl (l' := (Sh11 q1 q2 q3 1 3 b7 b11 b14 1 0 0 0 0)) rfl k) ?_
                refine GoW.sg (mkF m 255 (Sh11 q1 q2 q3 1 3 b7 b11 b14 1 0 0 0 0) [(.int 1)]) (fun t k => XS.iload X412.here hx rfl (hb hby at_253) rfl k) ?_
                refine GoW.sg (mkF m 258 (Sh11 q1 q2 q3 1 3 b7 b11 b14 1 0 0 0 0) []) (fun t k => XS.ifNo X412.here hx rfl (hb hby at_255) rfl (by decide) k) ?_
                refine GoW.sg (mkF m 260 (Sh11 q1 q2 q3 1 3 b7 b11 b14 1 0 0 0 0) [(.long 0)]) (fun t k => XS.lload X412.here hx rfl (hb hby at_258) rfl k) ?_
                refine GoW.sg (mkF m 262 (Sh11 q1 q2 q3 1 3 b7 b11 b14 1 0 0 0 0) [(.long 0), (.long 0)]) (fun t k => XS.lload X412.here hx rfl (hb hby at_260) rfl k) ?_
                refine GoW.sg (mkF m 263 (Sh11 q1 q2 q3 1 3 b7 b11 b14 1 0 0 0 0) [(.int (lcmpW (0 : Int64) (0 : Int64)))]) (fun t k => XS.lcmp X412.here hx rfl (hb hby at_262) rfl k) ?_
                refine GoW.sg (mkF m 266 (Sh11 q1 q2 q3 1 3 b7 b11 b14 1 0 0 0 0) []) (fun t k => XS.ifNo X412.here hx rfl (hb hby at_263) rfl (by decide) k) ?_
                refine GoW.sg (mkF m 267 (Sh11 q1 q2 q3 1 3 b7 b11 b14 1 0 0 0 0) [(.int 1)]) (fun t k => XS.iconst X412.here hx rfl (hb hby at_266) k) ?_
                refine GoW.sg (mkF m 271 (Sh11 q1 q2 q3 1 3 b7 b11 b14 1 0 0 0 0) [(.int 1)]) (fun t k => XS.goto X412.here hx rfl (pc0 := 267) (pc' := 271) rfl (hb hby at_267) (by decide) (by decide) k) ?_
                refine GoW.sg (mkF m 273 (Sh11 q1 q2 q3 1 3 b7 b11 b14 1 0 0 0 0) []) (fun t k => XS.istore X412.here hx rfl (hb hby at_271) rfl (l' := (Sh11 q1 q2 q3 1 3 b7 b11 b14 1 0 0 0 0)) rfl k) ?_
                refine GoW.sg (mkF m 275 (Sh11 q1 q2 q3 1 3 b7 b11 b14 1 0 0 0 0) [(.int 1)]) (fun t k => XS.iload X412.here hx rfl (hb hby at_273) rfl k) ?_
                refine GoW.sg (mkF m 278 (Sh11 q1 q2 q3 1 3 b7 b11 b14 1 0 0 0 0) []) (fun t k => XS.ifNo X412.here hx rfl (hb hby at_275) rfl (by decide) k) ?_
                refine GoW.sg (mkF m 280 (Sh11 q1 q2 q3 1 3 b7 b11 b14 1 0 0 0 0) [(.ref b14)]) (fun t k => XS.aload X412.here hx rfl (hb hby at_278) rfl rfl k) ?_
                refine GoW.sg (mkF m 281 (Sh11 q1 q2 q3 1 3 b7 b11 b14 1 0 0 0 0) [(.long 0), (.ref b14)]) (fun t k => XS.lconst X412.here hx rfl (hb hby at_280) k) ?_
                obtain ⟨cq413, kq413, q413a, q413b, q413c⟩ := isOf hZ rfl p412_0
                obtain ⟨_, _, ⟨T413, L413, k413, n413⟩, -, X413, ⟨Lc413, hQ413, l413, y413, z413⟩, st413⟩ := X412.virtualBack hx (y := (⟨"com/example/spindle/spindle/SpinRule", "timesWait", "(J)Z"⟩ : MethodName)) (z := (⟨"com/example/spindle/spindle/SpinRule", "timesWait", "(J)Z"⟩ : MethodName)) hown (mvT hZ (ww hw 22 rfl)) (mvT hZ (ww hw 23 rfl)) (notFace_of_selects (args := #[]) (mvT hZ (ww hw 25 rfl))) (mvT hZ (ww hw 25 rfl)) (mvT hZ (ww hw 24 rfl)) (by decide) (backOf (W := 0) (rm4_34 l Z a0 hw [] b14  T412.heap n0  p412_0 p412_1 p412_2 p412_3    ) hZ (ww hw 26 rfl) (ww hw 2 rfl) (by decide) (by decide)) q413a q413c (g := (mkF m 281 (Sh11 q1 q2 q3 1 3 b7 b11 b14 1 0 0 0 0) [(.long 0), (.ref b14)])) rfl (by rw [hml]; rfl) (Steps.refl _) (argsL := [(.long (0 : Int64))]) (rest := []) (lenOf pd_28J29Z rfl) rfl (by show 2 * 0 + _ ≤ _; exact Nat.le_of_eq rfl) (hb hby at_281) (fun _ _ => ⟨rfl, rfl, (by decide : 1 + 0 ≤ _), (by decide : 3 + 0 ≤ _)⟩)
                dsimp only [Pt.U, Pt.locs, Pt.cells, Pt.slots] at X413 l413 y413 z413 st413 hQ413
                subst l413 y413 z413
                obtain ⟨rfl, N413q, e413⟩ := hQ413
                have N413 := Fr.app N412 N413q
                refine GoW.sg (mkF m 284 (Sh11 q1 q2 q3 1 3 b7 b11 b14 1 0 0 0 0) [(.int 0)]) (fun t k => st413.trans k) ?_
                refine GoW.sg (mkF m 287 (Sh11 q1 q2 q3 1 3 b7 b11 b14 1 0 0 0 0) []) (fun t k => XS.ifNo X413.here hx rfl (hb hby at_284) rfl (by decide) k) ?_
                refine GoW.sg (mkF m 288 (Sh11 q1 q2 q3 1 3 b7 b11 b14 1 0 0 0 0) [(.int 1)]) (fun t k => XS.iconst X413.here hx rfl (hb hby at_287) k) ?_
                refine GoW.sg (mkF m 292 (Sh11 q1 q2 q3 1 3 b7 b11 b14 1 0 0 0 0) [(.int 1)]) (fun t k => XS.goto X413.here hx rfl (pc0 := 288) (pc' := 292) rfl (hb hby at_288) (by decide) (by decide) k) ?_
                refine GoW.sg (mkF m 294 (Sh11 q1 q2 q3 1 3 b7 b11 b14 1 0 0 0 0) []) (fun t k => XS.istore X413.here hx rfl (hb hby at_292) rfl (l' := (Sh11 q1 q2 q3 1 3 b7 b11 b14 1 0 0 0 0)) rfl k) ?_
                refine GoW.sg (mkF m 296 (Sh11 q1 q2 q3 1 3 b7 b11 b14 1 0 0 0 0) [(.int 1)]) (fun t k => XS.iload X413.here hx rfl (hb hby at_294) rfl k) ?_
                refine GoW.retN X413 hx (t := .boolean) Bd.returns (by simp) (hb hby at_296) Bd.notSynchronized ?_ (by decide) (by decide)
                exact ⟨rfl, N413⟩
              · show GoW p e below s (ValQ (.int (1 : Int32)) n0) room_1.cells room_1.slots (T410.setTop (mkF m 230 (Sh9 q1 q2 q3 1 3 b7 b11 b14 1 0 0) []))
                refine GoW.sg (mkF m 232 (Sh9 q1 q2 q3 1 3 b7 b11 b14 1 0 0) [(.ref b14)]) (fun t k => XS.aload X410.here hx rfl (hb hby at_230) rfl rfl k) ?_
                refine GoW.sg (mkF m 233 (Sh9 q1 q2 q3 1 3 b7 b11 b14 1 0 0) [(.long q2), (.ref b14)]) (fun t k => XS.lloadN X410.here hx rfl (hb hby at_232) rfl k) ?_
                obtain ⟨cq414, kq414, q414a, q414b, q414c⟩ := isOf hZ e410 p409_0
                obtain ⟨_, _, ⟨T414, L414, k414, n414⟩, -, X414, ⟨Lc414, hQ414, l414, y414, z414⟩, st414⟩ := X410.virtualBack hx (y := (⟨"com/example/spindle/spindle/SpinRule", "spinNanos", "(J)J"⟩ : MethodName)) (z := (⟨"com/example/spindle/spindle/SpinRule", "spinNanos", "(J)J"⟩ : MethodName)) hown (mvT hZ (ww hw 11 rfl)) (mvT hZ (ww hw 12 rfl)) (notFace_of_selects (args := #[]) (mvT hZ (ww hw 14 rfl))) (mvT hZ (ww hw 14 rfl)) (mvT hZ (ww hw 13 rfl)) (by decide) (backOf (W := 0) (rm3_37 l Z a0 hw [] b14 q2  T409.heap n0  p409_0 p409_1 p409_2 p409_3 g_b14  c411 ) hZ (ww hw 15 rfl) (ww hw 2 rfl) (by decide) (by decide)) q414a q414c (g := (mkF m 233 (Sh9 q1 q2 q3 1 3 b7 b11 b14 1 0 0) [(.long q2), (.ref b14)])) rfl (by rw [hml]; rfl) (Steps.refl _) (argsL := [(.long q2)]) (rest := []) (lenOf pd_28J29J rfl) rfl (by show 2 * 0 + _ ≤ _; exact Nat.le_of_eq rfl) (hb hby at_233) (fun _ _ => ⟨rfl, e410, (by decide : 1 + 0 ≤ _), (by decide : 3 + 0 ≤ _)⟩)
                dsimp only [Pt.U, Pt.locs, Pt.cells, Pt.slots] at X414 l414 y414 z414 st414 hQ414
                subst l414 y414 z414
                obtain ⟨rfl, N414q, K414, p414_0, p414_1, p414_2, p414_3⟩ := hQ414
                have N414 := Fr.app N410 N414q
                have Zs_414 : n0 ≤ T414.heap.size := Nat.le_trans Zs_409 K414.1
                refine GoW.sg (mkF m 236 (Sh9 q1 q2 q3 1 3 b7 b11 b14 1 0 0) [(.long q2)]) (fun t k => st414.trans k) ?_
                refine GoW.sg (mkF m 238 (Sh10 q1 q2 q3 1 3 b7 b11 b14 1 0 0 q2) []) (fun t k => XS.lstore X414.here hx rfl (hb hby at_236) rfl (l' := (Sh10 q1 q2 q3 1 3 b7 b11 b14 1 0 0 q2)) rfl k) ?_
                refine GoW.sg (mkF m 239 (Sh10 q1 q2 q3 1 3 b7 b11 b14 1 0 0 q2) [(.long q2)]) (fun t k => XS.lloadN X414.here hx rfl (hb hby at_238) rfl k) ?_
                refine GoW.sg (mkF m 242 (Sh10 q1 q2 q3 1 3 b7 b11 b14 1 0 0 q2) [(.long 20000), (.long q2)]) (fun t k => X414.ldc2Long hx hown (mvT hZ (ww hw 21 rfl)) (g := (mkF m 239 (Sh10 q1 q2 q3 1 3 b7 b11 b14 1 0 0 q2) [(.long q2)])) rfl (hb hby at_239) t k) ?_
                refine GoW.sg (mkF m 243 (Sh10 q1 q2 q3 1 3 b7 b11 b14 1 0 0 q2) [(.int (lcmpW q2 (20000 : Int64)))]) (fun t k => XS.lcmp X414.here hx rfl (hb hby at_242) rfl k) ?_
                refine GoW.sg (mkF m 246 (Sh10 q1 q2 q3 1 3 b7 b11 b14 1 0 0 q2) []) (fun t k => XS.ifNo X414.here hx rfl (hb hby at_243) rfl ((if0 _ _).trans (flt (mt (lw_gt _ _).mp c411)).2.2.1) k) ?_
                refine GoW.sg (mkF m 247 (Sh10 q1 q2 q3 1 3 b7 b11 b14 1 0 0 q2) [(.long q2)]) (fun t k => XS.lloadN X414.here hx rfl (hb hby at_246) rfl k) ?_
                refine GoW.sg (mkF m 251 (Sh10 q1 q2 q3 1 3 b7 b11 b14 1 0 0 q2) [(.long q2)]) (fun t k => XS.goto X414.here hx rfl (pc0 := 247) (pc' := 251) rfl (hb hby at_247) (by decide) (by decide) k) ?_
                refine GoW.sg (mkF m 253 (Sh11 q1 q2 q3 1 3 b7 b11 b14 1 0 0 q2 q2) []) (fun t k => XS.lstore X414.here hx rfl (hb hby at_251) rfl (l' := (Sh11 q1 q2 q3 1 3 b7 b11 b14 1 0 0 q2 q2)) rfl k) ?_
                refine GoW.sg (mkF m 255 (Sh11 q1 q2 q3 1 3 b7 b11 b14 1 0 0 q2 q2) [(.int 1)]) (fun t k => XS.iload X414.here hx rfl (hb hby at_253) rfl k) ?_
                refine GoW.sg (mkF m 258 (Sh11 q1 q2 q3 1 3 b7 b11 b14 1 0 0 q2 q2) []) (fun t k => XS.ifNo X414.here hx rfl (hb hby at_255) rfl (by decide) k) ?_
                refine GoW.sg (mkF m 260 (Sh11 q1 q2 q3 1 3 b7 b11 b14 1 0 0 q2 q2) [(.long q2)]) (fun t k => XS.lload X414.here hx rfl (hb hby at_258) rfl k) ?_
                refine GoW.sg (mkF m 262 (Sh11 q1 q2 q3 1 3 b7 b11 b14 1 0 0 q2 q2) [(.long q2), (.long q2)]) (fun t k => XS.lload X414.here hx rfl (hb hby at_260) rfl k) ?_
                refine GoW.sg (mkF m 263 (Sh11 q1 q2 q3 1 3 b7 b11 b14 1 0 0 q2 q2) [(.int (lcmpW q2 q2))]) (fun t k => XS.lcmp X414.here hx rfl (hb hby at_262) rfl k) ?_
                refine GoW.sg (mkF m 266 (Sh11 q1 q2 q3 1 3 b7 b11 b14 1 0 0 q2 q2) []) (fun t k => XS.ifNo X414.here hx rfl (hb hby at_263) rfl ((if0 _ _).trans (teq ((lw_eq _ _).mpr rfl)).2) k) ?_
                refine GoW.sg (mkF m 267 (Sh11 q1 q2 q3 1 3 b7 b11 b14 1 0 0 q2 q2) [(.int 1)]) (fun t k => XS.iconst X414.here hx rfl (hb hby at_266) k) ?_
                refine GoW.sg (mkF m 271 (Sh11 q1 q2 q3 1 3 b7 b11 b14 1 0 0 q2 q2) [(.int 1)]) (fun t k => XS.goto X414.here hx rfl (pc0 := 267) (pc' := 271) rfl (hb hby at_267) (by decide) (by decide) k) ?_
                refine GoW.sg (mkF m 273 (Sh11 q1 q2 q3 1 3 b7 b11 b14 1 0 0 q2 q2) []) (fun t k => XS.istore X414.here hx rfl (hb hby at_271) rfl (l' := (Sh11 q1 q2 q3 1 3 b7 b11 b14 1 0 0 q2 q2)) rfl k) ?_
                refine GoW.sg (mkF m 275 (Sh11 q1 q2 q3 1 3 b7 b11 b14 1 0 0 q2 q2) [(.int 1)]) (fun t k => XS.iload X414.here hx rfl (hb hby at_273) rfl k) ?_
                refine GoW.sg (mkF m 278 (Sh11 q1 q2 q3 1 3 b7 b11 b14 1 0 0 q2 q2) []) (fun t k => XS.ifNo X414.here hx rfl (hb hby at_275) rfl (by decide) k) ?_
                refine GoW.sg (mkF m 280 (Sh11 q1 q2 q3 1 3 b7 b11 b14 1 0 0 q2 q2) [(.ref b14)]) (fun t k => XS.aload X414.here hx rfl (hb hby at_278) rfl rfl k) ?_
                refine GoW.sg (mkF m 281 (Sh11 q1 q2 q3 1 3 b7 b11 b14 1 0 0 q2 q2) [(.long 0), (.ref b14)]) (fun t k => XS.lconst X414.here hx rfl (hb hby at_280) k) ?_
                obtain ⟨cq415, kq415, q415a, q415b, q415c⟩ := isOf hZ rfl p414_0
                obtain ⟨_, _, ⟨T415, L415, k415, n415⟩, -, X415, ⟨Lc415, hQ415, l415, y415, z415⟩, st415⟩ := X414.virtualBack hx (y := (⟨"com/example/spindle/spindle/SpinRule", "timesWait", "(J)Z"⟩ : MethodName)) (z := (⟨"com/example/spindle/spindle/SpinRule", "timesWait", "(J)Z"⟩ : MethodName)) hown (mvT hZ (ww hw 22 rfl)) (mvT hZ (ww hw 23 rfl)) (notFace_of_selects (args := #[]) (mvT hZ (ww hw 25 rfl))) (mvT hZ (ww hw 25 rfl)) (mvT hZ (ww hw 24 rfl)) (by decide) (backOf (W := 0) (rm4_34 l Z a0 hw [] b14  T414.heap n0  p414_0 p414_1 p414_2 p414_3    ) hZ (ww hw 26 rfl) (ww hw 2 rfl) (by decide) (by decide)) q415a q415c (g := (mkF m 281 (Sh11 q1 q2 q3 1 3 b7 b11 b14 1 0 0 q2 q2) [(.long 0), (.ref b14)])) rfl (by rw [hml]; rfl) (Steps.refl _) (argsL := [(.long (0 : Int64))]) (rest := []) (lenOf pd_28J29Z rfl) rfl (by show 2 * 0 + _ ≤ _; exact Nat.le_of_eq rfl) (hb hby at_281) (fun _ _ => ⟨rfl, rfl, (by decide : 1 + 0 ≤ _), (by decide : 3 + 0 ≤ _)⟩)
                dsimp only [Pt.U, Pt.locs, Pt.cells, Pt.slots] at X415 l415 y415 z415 st415 hQ415
                subst l415 y415 z415
                obtain ⟨rfl, N415q, e415⟩ := hQ415
                have N415 := Fr.app N414 N415q
                refine GoW.sg (mkF m 284 (Sh11 q1 q2 q3 1 3 b7 b11 b14 1 0 0 q2 q2) [(.int 0)]) (fun t k => st415.trans k) ?_
                refine GoW.sg (mkF m 287 (Sh11 q1 q2 q3 1 3 b7 b11 b14 1 0 0 q2 q2) []) (fun t k => XS.ifNo X415.here hx rfl (hb hby at_284) rfl (by decide) k) ?_
                refine GoW.sg (mkF m 288 (Sh11 q1 q2 q3 1 3 b7 b11 b14 1 0 0 q2 q2) [(.int 1)]) (fun t k => XS.iconst X415.here hx rfl (hb hby at_287) k) ?_
                refine GoW.sg (mkF m 292 (Sh11 q1 q2 q3 1 3 b7 b11 b14 1 0 0 q2 q2) [(.int 1)]) (fun t k => XS.goto X415.here hx rfl (pc0 := 288) (pc' := 292) rfl (hb hby at_288) (by decide) (by decide) k) ?_
                refine GoW.sg (mkF m 294 (Sh11 q1 q2 q3 1 3 b7 b11 b14 1 0 0 q2 q2) []) (fun t k => XS.istore X415.here hx rfl (hb hby at_292) rfl (l' := (Sh11 q1 q2 q3 1 3 b7 b11 b14 1 0 0 q2 q2)) rfl k) ?_
                refine GoW.sg (mkF m 296 (Sh11 q1 q2 q3 1 3 b7 b11 b14 1 0 0 q2 q2) [(.int 1)]) (fun t k => XS.iload X415.here hx rfl (hb hby at_294) rfl k) ?_
                refine GoW.retN X415 hx (t := .boolean) Bd.returns (by simp) (hb hby at_296) Bd.notSynchronized ?_ (by decide) (by decide)
                exact ⟨rfl, N415⟩
            · show GoW p e below s (ValQ (.int (1 : Int32)) n0) room_1.cells room_1.slots (T407.setTop (mkF m 140 (Sh8 q1 q2 q3 1 3 b7 b11 b14 1 20000) []))
              refine GoW.sg (mkF m 142 (Sh8 q1 q2 q3 1 3 b7 b11 b14 1 20000) [(.ref b14)]) (fun t k => XS.aload X407.here hx rfl (hb hby at_140) rfl rfl k) ?_
              refine GoW.sg (mkF m 144 (Sh8 q1 q2 q3 1 3 b7 b11 b14 1 20000) [(.long b11), (.ref b14)]) (fun t k => XS.lload X407.here hx rfl (hb hby at_142) rfl k) ?_
              obtain ⟨cq416, kq416, q416a, q416b, q416c⟩ := isOf hZ rfl p407_0
              obtain ⟨_, _, ⟨T416, L416, k416, n416⟩, -, X416, ⟨Lc416, hQ416, l416, y416, z416⟩, st416⟩ := X407.virtualBack hx (y := (⟨"com/example/spindle/spindle/SpinRule", "spinNanos", "(J)J"⟩ : MethodName)) (z := (⟨"com/example/spindle/spindle/SpinRule", "spinNanos", "(J)J"⟩ : MethodName)) hown (mvT hZ (ww hw 11 rfl)) (mvT hZ (ww hw 12 rfl)) (notFace_of_selects (args := #[]) (mvT hZ (ww hw 14 rfl))) (mvT hZ (ww hw 14 rfl)) (mvT hZ (ww hw 13 rfl)) (by decide) (backOf (W := 0) (rm3_41 l Z a0 hw [] b14 b11  T407.heap n0  p407_0 p407_1 p407_2 p407_3 g_b14  c408 ) hZ (ww hw 15 rfl) (ww hw 2 rfl) (by decide) (by decide)) q416a q416c (g := (mkF m 144 (Sh8 q1 q2 q3 1 3 b7 b11 b14 1 20000) [(.long b11), (.ref b14)])) rfl (by rw [hml]; rfl) (Steps.refl _) (argsL := [(.long b11)]) (rest := []) (lenOf pd_28J29J rfl) rfl (by show 2 * 0 + _ ≤ _; exact Nat.le_of_eq rfl) (hb hby at_144) (fun _ _ => ⟨rfl, rfl, (by decide : 1 + 0 ≤ _), (by decide : 3 + 0 ≤ _)⟩)
              dsimp only [Pt.U, Pt.locs, Pt.cells, Pt.slots] at X416 l416 y416 z416 st416 hQ416
              subst l416 y416 z416
              obtain ⟨rfl, N416q, K416, p416_0, p416_1, p416_2, p416_3⟩ := hQ416
              have N416 := Fr.app N407 N416q
              have Zs_416 : n0 ≤ T416.heap.size := Nat.le_trans Zs_407 K416.1
              refine GoW.sg (mkF m 147 (Sh8 q1 q2 q3 1 3 b7 b11 b14 1 20000) [(.long b11)]) (fun t k => st416.trans k) ?_
              refine GoW.sg (mkF m 149 (Sh8 q1 q2 q3 1 3 b7 b11 b14 1 b11) []) (fun t k => XS.lstore X416.here hx rfl (hb hby at_147) rfl (l' := (Sh8 q1 q2 q3 1 3 b7 b11 b14 1 b11)) rfl k) ?_
              refine GoW.sg (mkF m 151 (Sh8 q1 q2 q3 1 3 b7 b11 b14 1 b11) [(.long b11)]) (fun t k => XS.lload X416.here hx rfl (hb hby at_149) rfl k) ?_
              refine GoW.sg (mkF m 154 (Sh8 q1 q2 q3 1 3 b7 b11 b14 1 b11) [(.long 20000), (.long b11)]) (fun t k => X416.ldc2Long hx hown (mvT hZ (ww hw 21 rfl)) (g := (mkF m 151 (Sh8 q1 q2 q3 1 3 b7 b11 b14 1 b11) [(.long b11)])) rfl (hb hby at_151) t k) ?_
              refine GoW.sg (mkF m 155 (Sh8 q1 q2 q3 1 3 b7 b11 b14 1 b11) [(.int (lcmpW b11 (20000 : Int64)))]) (fun t k => XS.lcmp X416.here hx rfl (hb hby at_154) rfl k) ?_
              refine GoW.sg (mkF m 158 (Sh8 q1 q2 q3 1 3 b7 b11 b14 1 b11) []) (fun t k => XS.ifNo X416.here hx rfl (hb hby at_155) rfl ((if0 _ _).trans (flt (mt (lw_gt _ _).mp c408)).2.2.1) k) ?_
              refine GoW.sg (mkF m 160 (Sh8 q1 q2 q3 1 3 b7 b11 b14 1 b11) [(.long b11)]) (fun t k => XS.lload X416.here hx rfl (hb hby at_158) rfl k) ?_
              refine GoW.sg (mkF m 162 (Sh9 q1 q2 q3 1 3 b7 b11 b14 1 b11 b11) []) (fun t k => XS.lstore X416.here hx rfl (hb hby at_160) rfl (l' := (Sh9 q1 q2 q3 1 3 b7 b11 b14 1 b11 b11)) rfl k) ?_
              refine GoW.sg (mkF m 187 (Sh9 q1 q2 q3 1 3 b7 b11 b14 1 b11 b11) []) (fun t k => XS.goto X416.here hx rfl (pc0 := 162) (pc' := 187) rfl (hb hby at_162) (by decide) (by decide) k) ?_
              refine GoW.sg (mkF m 189 (Sh9 q1 q2 q3 1 3 b7 b11 b14 1 b11 b11) [(.int 1)]) (fun t k => XS.iload X416.here hx rfl (hb hby at_187) rfl k) ?_
              refine GoW.sg (mkF m 192 (Sh9 q1 q2 q3 1 3 b7 b11 b14 1 b11 b11) []) (fun t k => XS.ifNo X416.here hx rfl (hb hby at_189) rfl (by decide) k) ?_
              refine GoW.sg (mkF m 194 (Sh9 q1 q2 q3 1 3 b7 b11 b14 1 b11 b11) [(.long b11)]) (fun t k => XS.lload X416.here hx rfl (hb hby at_192) rfl k) ?_
              refine GoW.sg (mkF m 196 (Sh9 q1 q2 q3 1 3 b7 b11 b14 1 b11 b11) [(.long b11), (.long b11)]) (fun t k => XS.lload X416.here hx rfl (hb hby at_194) rfl k) ?_
              refine GoW.sg (mkF m 197 (Sh9 q1 q2 q3 1 3 b7 b11 b14 1 b11 b11) [(.int (lcmpW b11 b11))]) (fun t k => XS.lcmp X416.here hx rfl (hb hby at_196) rfl k) ?_
              refine GoW.sg (mkF m 200 (Sh9 q1 q2 q3 1 3 b7 b11 b14 1 b11 b11) []) (fun t k => XS.ifNo X416.here hx rfl (hb hby at_197) rfl ((if0 _ _).trans (teq ((lw_eq _ _).mpr rfl)).2) k) ?_
              refine GoW.sg (mkF m 201 (Sh9 q1 q2 q3 1 3 b7 b11 b14 1 b11 b11) [(.int 1)]) (fun t k => XS.iconst X416.here hx rfl (hb hby at_200) k) ?_
              refine GoW.sg (mkF m 205 (Sh9 q1 q2 q3 1 3 b7 b11 b14 1 b11 b11) [(.int 1)]) (fun t k => XS.goto X416.here hx rfl (pc0 := 201) (pc' := 205) rfl (hb hby at_201) (by decide) (by decide) k) ?_
              refine GoW.sg (mkF m 207 (Sh9 q1 q2 q3 1 3 b7 b11 b14 1 b11 b11) []) (fun t k => XS.istore X416.here hx rfl (hb hby at_205) rfl (l' := (Sh9 q1 q2 q3 1 3 b7 b11 b14 1 b11 b11)) rfl k) ?_
              refine GoW.sg (mkF m 209 (Sh9 q1 q2 q3 1 3 b7 b11 b14 1 b11 b11) [(.int 1)]) (fun t k => XS.iload X416.here hx rfl (hb hby at_207) rfl k) ?_
              refine GoW.sg (mkF m 212 (Sh9 q1 q2 q3 1 3 b7 b11 b14 1 b11 b11) []) (fun t k => XS.ifNo X416.here hx rfl (hb hby at_209) rfl (by decide) k) ?_
              refine GoW.sg (mkF m 214 (Sh9 q1 q2 q3 1 3 b7 b11 b14 1 b11 b11) [(.ref b14)]) (fun t k => XS.aload X416.here hx rfl (hb hby at_212) rfl rfl k) ?_
              refine GoW.sg (mkF m 215 (Sh9 q1 q2 q3 1 3 b7 b11 b14 1 b11 b11) [(.long 0), (.ref b14)]) (fun t k => XS.lconst X416.here hx rfl (hb hby at_214) k) ?_
              obtain ⟨cq417, kq417, q417a, q417b, q417c⟩ := isOf hZ rfl p416_0
              obtain ⟨_, _, ⟨T417, L417, k417, n417⟩, -, X417, ⟨Lc417, hQ417, l417, y417, z417⟩, st417⟩ := X416.virtualBack hx (y := (⟨"com/example/spindle/spindle/SpinRule", "timesWait", "(J)Z"⟩ : MethodName)) (z := (⟨"com/example/spindle/spindle/SpinRule", "timesWait", "(J)Z"⟩ : MethodName)) hown (mvT hZ (ww hw 22 rfl)) (mvT hZ (ww hw 23 rfl)) (notFace_of_selects (args := #[]) (mvT hZ (ww hw 25 rfl))) (mvT hZ (ww hw 25 rfl)) (mvT hZ (ww hw 24 rfl)) (by decide) (backOf (W := 0) (rm4_40 l Z a0 hw [] b14  T416.heap n0  p416_0 p416_1 p416_2 p416_3    ) hZ (ww hw 26 rfl) (ww hw 2 rfl) (by decide) (by decide)) q417a q417c (g := (mkF m 215 (Sh9 q1 q2 q3 1 3 b7 b11 b14 1 b11 b11) [(.long 0), (.ref b14)])) rfl (by rw [hml]; rfl) (Steps.refl _) (argsL := [(.long (0 : Int64))]) (rest := []) (lenOf pd_28J29Z rfl) rfl (by show 2 * 0 + _ ≤ _; exact Nat.le_of_eq rfl) (hb hby at_215) (fun _ _ => ⟨rfl, rfl, (by decide : 1 + 0 ≤ _), (by decide : 3 + 0 ≤ _)⟩)
              dsimp only [Pt.U, Pt.locs, Pt.cells, Pt.slots] at X417 l417 y417 z417 st417 hQ417
              subst l417 y417 z417
              obtain ⟨rfl, N417q, e417⟩ := hQ417
              have N417 := Fr.app N416 N417q
              refine GoW.sg (mkF m 218 (Sh9 q1 q2 q3 1 3 b7 b11 b14 1 b11 b11) [(.int 1)]) (fun t k => st417.trans k) ?_
              refine GoW.sg (mkF m 220 (Sh9 q1 q2 q3 1 3 b7 b11 b14 1 b11 b11) [(.int 1), (.int 1)]) (fun t k => XS.iload X417.here hx rfl (hb hby at_218) rfl k) ?_
              refine GoW.sg (mkF m 223 (Sh9 q1 q2 q3 1 3 b7 b11 b14 1 b11 b11) []) (fun t k => XS.icmpNo X417.here hx rfl (hb hby at_220) rfl (by decide) k) ?_
              refine GoW.sg (mkF m 224 (Sh9 q1 q2 q3 1 3 b7 b11 b14 1 b11 b11) [(.int 1)]) (fun t k => XS.iconst X417.here hx rfl (hb hby at_223) k) ?_
              refine GoW.sg (mkF m 228 (Sh9 q1 q2 q3 1 3 b7 b11 b14 1 b11 b11) [(.int 1)]) (fun t k => XS.goto X417.here hx rfl (pc0 := 224) (pc' := 228) rfl (hb hby at_224) (by decide) (by decide) k) ?_
              refine GoW.sg (mkF m 230 (Sh9 q1 q2 q3 1 3 b7 b11 b14 1 b11 b11) []) (fun t k => XS.istore X417.here hx rfl (hb hby at_228) rfl (l' := (Sh9 q1 q2 q3 1 3 b7 b11 b14 1 b11 b11)) rfl k) ?_
              by_cases c418 : (20000 : Int64) < q2
              · show GoW p e below s (ValQ (.int (1 : Int32)) n0) room_1.cells room_1.slots (T417.setTop (mkF m 230 (Sh9 q1 q2 q3 1 3 b7 b11 b14 1 b11 b11) []))
                refine GoW.sg (mkF m 232 (Sh9 q1 q2 q3 1 3 b7 b11 b14 1 b11 b11) [(.ref b14)]) (fun t k => XS.aload X417.here hx rfl (hb hby at_230) rfl rfl k) ?_
                refine GoW.sg (mkF m 233 (Sh9 q1 q2 q3 1 3 b7 b11 b14 1 b11 b11) [(.long q2), (.ref b14)]) (fun t k => XS.lloadN X417.here hx rfl (hb hby at_232) rfl k) ?_
                obtain ⟨cq419, kq419, q419a, q419b, q419c⟩ := isOf hZ e417 p416_0
                obtain ⟨_, _, ⟨T419, L419, k419, n419⟩, -, X419, ⟨Lc419, hQ419, l419, y419, z419⟩, st419⟩ := X417.virtualBack hx (y := (⟨"com/example/spindle/spindle/SpinRule", "spinNanos", "(J)J"⟩ : MethodName)) (z := (⟨"com/example/spindle/spindle/SpinRule", "spinNanos", "(J)J"⟩ : MethodName)) hown (mvT hZ (ww hw 11 rfl)) (mvT hZ (ww hw 12 rfl)) (notFace_of_selects (args := #[]) (mvT hZ (ww hw 14 rfl))) (mvT hZ (ww hw 14 rfl)) (mvT hZ (ww hw 13 rfl)) (by decide) (backOf (W := 0) (rm3_33 l Z a0 hw [] b14 q2  T416.heap n0  p416_0 p416_1 p416_2 p416_3 g_b14  c418 ) hZ (ww hw 15 rfl) (ww hw 2 rfl) (by decide) (by decide)) q419a q419c (g := (mkF m 233 (Sh9 q1 q2 q3 1 3 b7 b11 b14 1 b11 b11) [(.long q2), (.ref b14)])) rfl (by rw [hml]; rfl) (Steps.refl _) (argsL := [(.long q2)]) (rest := []) (lenOf pd_28J29J rfl) rfl (by show 2 * 0 + _ ≤ _; exact Nat.le_of_eq rfl) (hb hby at_233) (fun _ _ => ⟨rfl, e417, (by decide : 1 + 0 ≤ _), (by decide : 3 + 0 ≤ _)⟩)
                dsimp only [Pt.U, Pt.locs, Pt.cells, Pt.slots] at X419 l419 y419 z419 st419 hQ419
                subst l419 y419 z419
                obtain ⟨rfl, N419q, K419, p419_0, p419_1, p419_2, p419_3⟩ := hQ419
                have N419 := Fr.app N417 N419q
                have Zs_419 : n0 ≤ T419.heap.size := Nat.le_trans Zs_416 K419.1
                refine GoW.sg (mkF m 236 (Sh9 q1 q2 q3 1 3 b7 b11 b14 1 b11 b11) [(.long 0)]) (fun t k => st419.trans k) ?_
                refine GoW.sg (mkF m 238 (Sh10 q1 q2 q3 1 3 b7 b11 b14 1 b11 b11 0) []) (fun t k => XS.lstore X419.here hx rfl (hb hby at_236) rfl (l' := (Sh10 q1 q2 q3 1 3 b7 b11 b14 1 b11 b11 0)) rfl k) ?_
                refine GoW.sg (mkF m 239 (Sh10 q1 q2 q3 1 3 b7 b11 b14 1 b11 b11 0) [(.long q2)]) (fun t k => XS.lloadN X419.here hx rfl (hb hby at_238) rfl k) ?_
                refine GoW.sg (mkF m 242 (Sh10 q1 q2 q3 1 3 b7 b11 b14 1 b11 b11 0) [(.long 20000), (.long q2)]) (fun t k => X419.ldc2Long hx hown (mvT hZ (ww hw 21 rfl)) (g := (mkF m 239 (Sh10 q1 q2 q3 1 3 b7 b11 b14 1 b11 b11 0) [(.long q2)])) rfl (hb hby at_239) t k) ?_
                refine GoW.sg (mkF m 243 (Sh10 q1 q2 q3 1 3 b7 b11 b14 1 b11 b11 0) [(.int (lcmpW q2 (20000 : Int64)))]) (fun t k => XS.lcmp X419.here hx rfl (hb hby at_242) rfl k) ?_
                refine GoW.sg (mkF m 250 (Sh10 q1 q2 q3 1 3 b7 b11 b14 1 b11 b11 0) []) (fun t k => XS.ifYes X419.here hx rfl (pc0 := 243) (pc' := 250) rfl (hb hby at_243) rfl ((if0 _ _).trans (tlt ((lw_gt _ _).mpr c418)).2.2.1) (by decide) (by decide) k) ?_
                refine GoW.sg (mkF m 251 (Sh10 q1 q2 q3 1 3 b7 b11 b14 1 b11 b11 0) [(.long 0)]) (fun t k => XS.lconst X419.here hx rfl (hb hby at_250) k) ?_
                refine GoW.sg (mkF m 253 (Sh11 q1 q2 q3 1 3 b7 b11 b14 1 b11 b11 0 0) []) (fun t k => XS.lstore X419.here hx rfl (hb hby at_251) rfl (l' := (Sh11 q1 q2 q3 1 3 b7 b11 b14 1 b11 b11 0 0)) rfl k) ?_
                refine GoW.sg (mkF m 255 (Sh11 q1 q2 q3 1 3 b7 b11 b14 1 b11 b11 0 0) [(.int 1)]) (fun t k => XS.iload X419.here hx rfl (hb hby at_253) rfl k) ?_
                refine GoW.sg (mkF m 258 (Sh11 q1 q2 q3 1 3 b7 b11 b14 1 b11 b11 0 0) []) (fun t k => XS.ifNo X419.here hx rfl (hb hby at_255) rfl (by decide) k) ?_
                refine GoW.sg (mkF m 260 (Sh11 q1 q2 q3 1 3 b7 b11 b14 1 b11 b11 0 0) [(.long 0)]) (fun t k => XS.lload X419.here hx rfl (hb hby at_258) rfl k) ?_
                refine GoW.sg (mkF m 262 (Sh11 q1 q2 q3 1 3 b7 b11 b14 1 b11 b11 0 0) [(.long 0), (.long 0)]) (fun t k => XS.lload X419.here hx rfl (hb hby at_260) rfl k) ?_
                refine GoW.sg (mkF m 263 (Sh11 q1 q2 q3 1 3 b7 b11 b14 1 b11 b11 0 0) [(.int (lcmpW (0 : Int64) (0 : Int64)))]) (fun t k => XS.lcmp X419.here hx rfl (hb hby at_262) rfl k) ?_
                refine GoW.sg (mkF m 266 (Sh11 q1 q2 q3 1 3 b7 b11 b14 1 b11 b11 0 0) []) (fun t k => XS.ifNo X419.here hx rfl (hb hby at_263) rfl (by decide) k) ?_
                refine GoW.sg (mkF m 267 (Sh11 q1 q2 q3 1 3 b7 b11 b14 1 b11 b11 0 0) [(.int 1)]) (fun t k => XS.iconst X419.here hx rfl (hb hby at_266) k) ?_
                refine GoW.sg (mkF m 271 (Sh11 q1 q2 q3 1 3 b7 b11 b14 1 b11 b11 0 0) [(.int 1)]) (fun t k => XS.goto X419.here hx rfl (pc0 := 267) (pc' := 271) rfl (hb hby at_267) (by decide) (by decide) k) ?_
                refine GoW.sg (mkF m 273 (Sh11 q1 q2 q3 1 3 b7 b11 b14 1 b11 b11 0 0) []) (fun t k => XS.istore X419.here hx rfl (hb hby at_271) rfl (l' := (Sh11 q1 q2 q3 1 3 b7 b11 b14 1 b11 b11 0 0)) rfl k) ?_
                refine GoW.sg (mkF m 275 (Sh11 q1 q2 q3 1 3 b7 b11 b14 1 b11 b11 0 0) [(.int 1)]) (fun t k => XS.iload X419.here hx rfl (hb hby at_273) rfl k) ?_
                refine GoW.sg (mkF m 278 (Sh11 q1 q2 q3 1 3 b7 b11 b14 1 b11 b11 0 0) []) (fun t k => XS.ifNo X419.here hx rfl (hb hby at_275) rfl (by decide) k) ?_
                refine GoW.sg (mkF m 280 (Sh11 q1 q2 q3 1 3 b7 b11 b14 1 b11 b11 0 0) [(.ref b14)]) (fun t k => XS.aload X419.here hx rfl (hb hby at_278) rfl rfl k) ?_
                refine GoW.sg (mkF m 281 (Sh11 q1 q2 q3 1 3 b7 b11 b14 1 b11 b11 0 0) [(.long 0), (.ref b14)]) (fun t k => XS.lconst X419.here hx rfl (hb hby at_280) k) ?_
                obtain ⟨cq420, kq420, q420a, q420b, q420c⟩ := isOf hZ rfl p419_0
                obtain ⟨_, _, ⟨T420, L420, k420, n420⟩, -, X420, ⟨Lc420, hQ420, l420, y420, z420⟩, st420⟩ := X419.virtualBack hx (y := (⟨"com/example/spindle/spindle/SpinRule", "timesWait", "(J)Z"⟩ : MethodName)) (z := (⟨"com/example/spindle/spindle/SpinRule", "timesWait", "(J)Z"⟩ : MethodName)) hown (mvT hZ (ww hw 22 rfl)) (mvT hZ (ww hw 23 rfl)) (notFace_of_selects (args := #[]) (mvT hZ (ww hw 25 rfl))) (mvT hZ (ww hw 25 rfl)) (mvT hZ (ww hw 24 rfl)) (by decide) (backOf (W := 0) (rm4_34 l Z a0 hw [] b14  T419.heap n0  p419_0 p419_1 p419_2 p419_3    ) hZ (ww hw 26 rfl) (ww hw 2 rfl) (by decide) (by decide)) q420a q420c (g := (mkF m 281 (Sh11 q1 q2 q3 1 3 b7 b11 b14 1 b11 b11 0 0) [(.long 0), (.ref b14)])) rfl (by rw [hml]; rfl) (Steps.refl _) (argsL := [(.long (0 : Int64))]) (rest := []) (lenOf pd_28J29Z rfl) rfl (by show 2 * 0 + _ ≤ _; exact Nat.le_of_eq rfl) (hb hby at_281) (fun _ _ => ⟨rfl, rfl, (by decide : 1 + 0 ≤ _), (by decide : 3 + 0 ≤ _)⟩)
                dsimp only [Pt.U, Pt.locs, Pt.cells, Pt.slots] at X420 l420 y420 z420 st420 hQ420
                subst l420 y420 z420
                obtain ⟨rfl, N420q, e420⟩ := hQ420
                have N420 := Fr.app N419 N420q
                refine GoW.sg (mkF m 284 (Sh11 q1 q2 q3 1 3 b7 b11 b14 1 b11 b11 0 0) [(.int 0)]) (fun t k => st420.trans k) ?_
                refine GoW.sg (mkF m 287 (Sh11 q1 q2 q3 1 3 b7 b11 b14 1 b11 b11 0 0) []) (fun t k => XS.ifNo X420.here hx rfl (hb hby at_284) rfl (by decide) k) ?_
                refine GoW.sg (mkF m 288 (Sh11 q1 q2 q3 1 3 b7 b11 b14 1 b11 b11 0 0) [(.int 1)]) (fun t k => XS.iconst X420.here hx rfl (hb hby at_287) k) ?_
                refine GoW.sg (mkF m 292 (Sh11 q1 q2 q3 1 3 b7 b11 b14 1 b11 b11 0 0) [(.int 1)]) (fun t k => XS.goto X420.here hx rfl (pc0 := 288) (pc' := 292) rfl (hb hby at_288) (by decide) (by decide) k) ?_
                refine GoW.sg (mkF m 294 (Sh11 q1 q2 q3 1 3 b7 b11 b14 1 b11 b11 0 0) []) (fun t k => XS.istore X420.here hx rfl (hb hby at_292) rfl (l' := (Sh11 q1 q2 q3 1 3 b7 b11 b14 1 b11 b11 0 0)) rfl k) ?_
                refine GoW.sg (mkF m 296 (Sh11 q1 q2 q3 1 3 b7 b11 b14 1 b11 b11 0 0) [(.int 1)]) (fun t k => XS.iload X420.here hx rfl (hb hby at_294) rfl k) ?_
                refine GoW.retN X420 hx (t := .boolean) Bd.returns (by simp) (hb hby at_296) Bd.notSynchronized ?_ (by decide) (by decide)
                exact ⟨rfl, N420⟩
              · show GoW p e below s (ValQ (.int (1 : Int32)) n0) room_1.cells room_1.slots (T417.setTop (mkF m 230 (Sh9 q1 q2 q3 1 3 b7 b11 b14 1 b11 b11) []))
                refine GoW.sg (mkF m 232 (Sh9 q1 q2 q3 1 3 b7 b11 b14 1 b11 b11) [(.ref b14)]) (fun t k => XS.aload X417.here hx rfl (hb hby at_230) rfl rfl k) ?_
                refine GoW.sg (mkF m 233 (Sh9 q1 q2 q3 1 3 b7 b11 b14 1 b11 b11) [(.long q2), (.ref b14)]) (fun t k => XS.lloadN X417.here hx rfl (hb hby at_232) rfl k) ?_
                obtain ⟨cq421, kq421, q421a, q421b, q421c⟩ := isOf hZ e417 p416_0
                obtain ⟨_, _, ⟨T421, L421, k421, n421⟩, -, X421, ⟨Lc421, hQ421, l421, y421, z421⟩, st421⟩ := X417.virtualBack hx (y := (⟨"com/example/spindle/spindle/SpinRule", "spinNanos", "(J)J"⟩ : MethodName)) (z := (⟨"com/example/spindle/spindle/SpinRule", "spinNanos", "(J)J"⟩ : MethodName)) hown (mvT hZ (ww hw 11 rfl)) (mvT hZ (ww hw 12 rfl)) (notFace_of_selects (args := #[]) (mvT hZ (ww hw 14 rfl))) (mvT hZ (ww hw 14 rfl)) (mvT hZ (ww hw 13 rfl)) (by decide) (backOf (W := 0) (rm3_37 l Z a0 hw [] b14 q2  T416.heap n0  p416_0 p416_1 p416_2 p416_3 g_b14  c418 ) hZ (ww hw 15 rfl) (ww hw 2 rfl) (by decide) (by decide)) q421a q421c (g := (mkF m 233 (Sh9 q1 q2 q3 1 3 b7 b11 b14 1 b11 b11) [(.long q2), (.ref b14)])) rfl (by rw [hml]; rfl) (Steps.refl _) (argsL := [(.long q2)]) (rest := []) (lenOf pd_28J29J rfl) rfl (by show 2 * 0 + _ ≤ _; exact Nat.le_of_eq rfl) (hb hby at_233) (fun _ _ => ⟨rfl, e417, (by decide : 1 + 0 ≤ _), (by decide : 3 + 0 ≤ _)⟩)
                dsimp only [Pt.U, Pt.locs, Pt.cells, Pt.slots] at X421 l421 y421 z421 st421 hQ421
                subst l421 y421 z421
                obtain ⟨rfl, N421q, K421, p421_0, p421_1, p421_2, p421_3⟩ := hQ421
                have N421 := Fr.app N417 N421q
                have Zs_421 : n0 ≤ T421.heap.size := Nat.le_trans Zs_416 K421.1
                refine GoW.sg (mkF m 236 (Sh9 q1 q2 q3 1 3 b7 b11 b14 1 b11 b11) [(.long q2)]) (fun t k => st421.trans k) ?_
                refine GoW.sg (mkF m 238 (Sh10 q1 q2 q3 1 3 b7 b11 b14 1 b11 b11 q2) []) (fun t k => XS.lstore X421.here hx rfl (hb hby at_236) rfl (l' := (Sh10 q1 q2 q3 1 3 b7 b11 b14 1 b11 b11 q2)) rfl k) ?_
                refine GoW.sg (mkF m 239 (Sh10 q1 q2 q3 1 3 b7 b11 b14 1 b11 b11 q2) [(.long q2)]) (fun t k => XS.lloadN X421.here hx rfl (hb hby at_238) rfl k) ?_
                refine GoW.sg (mkF m 242 (Sh10 q1 q2 q3 1 3 b7 b11 b14 1 b11 b11 q2) [(.long 20000), (.long q2)]) (fun t k => X421.ldc2Long hx hown (mvT hZ (ww hw 21 rfl)) (g := (mkF m 239 (Sh10 q1 q2 q3 1 3 b7 b11 b14 1 b11 b11 q2) [(.long q2)])) rfl (hb hby at_239) t k) ?_
                refine GoW.sg (mkF m 243 (Sh10 q1 q2 q3 1 3 b7 b11 b14 1 b11 b11 q2) [(.int (lcmpW q2 (20000 : Int64)))]) (fun t k => XS.lcmp X421.here hx rfl (hb hby at_242) rfl k) ?_
                refine GoW.sg (mkF m 246 (Sh10 q1 q2 q3 1 3 b7 b11 b14 1 b11 b11 q2) []) (fun t k => XS.ifNo X421.here hx rfl (hb hby at_243) rfl ((if0 _ _).trans (flt (mt (lw_gt _ _).mp c418)).2.2.1) k) ?_
                refine GoW.sg (mkF m 247 (Sh10 q1 q2 q3 1 3 b7 b11 b14 1 b11 b11 q2) [(.long q2)]) (fun t k => XS.lloadN X421.here hx rfl (hb hby at_246) rfl k) ?_
                refine GoW.sg (mkF m 251 (Sh10 q1 q2 q3 1 3 b7 b11 b14 1 b11 b11 q2) [(.long q2)]) (fun t k => XS.goto X421.here hx rfl (pc0 := 247) (pc' := 251) rfl (hb hby at_247) (by decide) (by decide) k) ?_
                refine GoW.sg (mkF m 253 (Sh11 q1 q2 q3 1 3 b7 b11 b14 1 b11 b11 q2 q2) []) (fun t k => XS.lstore X421.here hx rfl (hb hby at_251) rfl (l' := (Sh11 q1 q2 q3 1 3 b7 b11 b14 1 b11 b11 q2 q2)) rfl k) ?_
                refine GoW.sg (mkF m 255 (Sh11 q1 q2 q3 1 3 b7 b11 b14 1 b11 b11 q2 q2) [(.int 1)]) (fun t k => XS.iload X421.here hx rfl (hb hby at_253) rfl k) ?_
                refine GoW.sg (mkF m 258 (Sh11 q1 q2 q3 1 3 b7 b11 b14 1 b11 b11 q2 q2) []) (fun t k => XS.ifNo X421.here hx rfl (hb hby at_255) rfl (by decide) k) ?_
                refine GoW.sg (mkF m 260 (Sh11 q1 q2 q3 1 3 b7 b11 b14 1 b11 b11 q2 q2) [(.long q2)]) (fun t k => XS.lload X421.here hx rfl (hb hby at_258) rfl k) ?_
                refine GoW.sg (mkF m 262 (Sh11 q1 q2 q3 1 3 b7 b11 b14 1 b11 b11 q2 q2) [(.long q2), (.long q2)]) (fun t k => XS.lload X421.here hx rfl (hb hby at_260) rfl k) ?_
                refine GoW.sg (mkF m 263 (Sh11 q1 q2 q3 1 3 b7 b11 b14 1 b11 b11 q2 q2) [(.int (lcmpW q2 q2))]) (fun t k => XS.lcmp X421.here hx rfl (hb hby at_262) rfl k) ?_
                refine GoW.sg (mkF m 266 (Sh11 q1 q2 q3 1 3 b7 b11 b14 1 b11 b11 q2 q2) []) (fun t k => XS.ifNo X421.here hx rfl (hb hby at_263) rfl ((if0 _ _).trans (teq ((lw_eq _ _).mpr rfl)).2) k) ?_
                refine GoW.sg (mkF m 267 (Sh11 q1 q2 q3 1 3 b7 b11 b14 1 b11 b11 q2 q2) [(.int 1)]) (fun t k => XS.iconst X421.here hx rfl (hb hby at_266) k) ?_
                refine GoW.sg (mkF m 271 (Sh11 q1 q2 q3 1 3 b7 b11 b14 1 b11 b11 q2 q2) [(.int 1)]) (fun t k => XS.goto X421.here hx rfl (pc0 := 267) (pc' := 271) rfl (hb hby at_267) (by decide) (by decide) k) ?_
                refine GoW.sg (mkF m 273 (Sh11 q1 q2 q3 1 3 b7 b11 b14 1 b11 b11 q2 q2) []) (fun t k => XS.istore X421.here hx rfl (hb hby at_271) rfl (l' := (Sh11 q1 q2 q3 1 3 b7 b11 b14 1 b11 b11 q2 q2)) rfl k) ?_
                refine GoW.sg (mkF m 275 (Sh11 q1 q2 q3 1 3 b7 b11 b14 1 b11 b11 q2 q2) [(.int 1)]) (fun t k => XS.iload X421.here hx rfl (hb hby at_273) rfl k) ?_
                refine GoW.sg (mkF m 278 (Sh11 q1 q2 q3 1 3 b7 b11 b14 1 b11 b11 q2 q2) []) (fun t k => XS.ifNo X421.here hx rfl (hb hby at_275) rfl (by decide) k) ?_
                refine GoW.sg (mkF m 280 (Sh11 q1 q2 q3 1 3 b7 b11 b14 1 b11 b11 q2 q2) [(.ref b14)]) (fun t k => XS.aload X421.here hx rfl (hb hby at_278) rfl rfl k) ?_
                refine GoW.sg (mkF m 281 (Sh11 q1 q2 q3 1 3 b7 b11 b14 1 b11 b11 q2 q2) [(.long 0), (.ref b14)]) (fun t k => XS.lconst X421.here hx rfl (hb hby at_280) k) ?_
                obtain ⟨cq422, kq422, q422a, q422b, q422c⟩ := isOf hZ rfl p421_0
                obtain ⟨_, _, ⟨T422, L422, k422, n422⟩, -, X422, ⟨Lc422, hQ422, l422, y422, z422⟩, st422⟩ := X421.virtualBack hx (y := (⟨"com/example/spindle/spindle/SpinRule", "timesWait", "(J)Z"⟩ : MethodName)) (z := (⟨"com/example/spindle/spindle/SpinRule", "timesWait", "(J)Z"⟩ : MethodName)) hown (mvT hZ (ww hw 22 rfl)) (mvT hZ (ww hw 23 rfl)) (notFace_of_selects (args := #[]) (mvT hZ (ww hw 25 rfl))) (mvT hZ (ww hw 25 rfl)) (mvT hZ (ww hw 24 rfl)) (by decide) (backOf (W := 0) (rm4_34 l Z a0 hw [] b14  T421.heap n0  p421_0 p421_1 p421_2 p421_3    ) hZ (ww hw 26 rfl) (ww hw 2 rfl) (by decide) (by decide)) q422a q422c (g := (mkF m 281 (Sh11 q1 q2 q3 1 3 b7 b11 b14 1 b11 b11 q2 q2) [(.long 0), (.ref b14)])) rfl (by rw [hml]; rfl) (Steps.refl _) (argsL := [(.long (0 : Int64))]) (rest := []) (lenOf pd_28J29Z rfl) rfl (by show 2 * 0 + _ ≤ _; exact Nat.le_of_eq rfl) (hb hby at_281) (fun _ _ => ⟨rfl, rfl, (by decide : 1 + 0 ≤ _), (by decide : 3 + 0 ≤ _)⟩)
                dsimp only [Pt.U, Pt.locs, Pt.cells, Pt.slots] at X422 l422 y422 z422 st422 hQ422
                subst l422 y422 z422
                obtain ⟨rfl, N422q, e422⟩ := hQ422
                have N422 := Fr.app N421 N422q
                refine GoW.sg (mkF m 284 (Sh11 q1 q2 q3 1 3 b7 b11 b14 1 b11 b11 q2 q2) [(.int 0)]) (fun t k => st422.trans k) ?_
                refine GoW.sg (mkF m 287 (Sh11 q1 q2 q3 1 3 b7 b11 b14 1 b11 b11 q2 q2) []) (fun t k => XS.ifNo X422.here hx rfl (hb hby at_284) rfl (by decide) k) ?_
                refine GoW.sg (mkF m 288 (Sh11 q1 q2 q3 1 3 b7 b11 b14 1 b11 b11 q2 q2) [(.int 1)]) (fun t k => XS.iconst X422.here hx rfl (hb hby at_287) k) ?_
                refine GoW.sg (mkF m 292 (Sh11 q1 q2 q3 1 3 b7 b11 b14 1 b11 b11 q2 q2) [(.int 1)]) (fun t k => XS.goto X422.here hx rfl (pc0 := 288) (pc' := 292) rfl (hb hby at_288) (by decide) (by decide) k) ?_
                refine GoW.sg (mkF m 294 (Sh11 q1 q2 q3 1 3 b7 b11 b14 1 b11 b11 q2 q2) []) (fun t k => XS.istore X422.here hx rfl (hb hby at_292) rfl (l' := (Sh11 q1 q2 q3 1 3 b7 b11 b14 1 b11 b11 q2 q2)) rfl k) ?_
                refine GoW.sg (mkF m 296 (Sh11 q1 q2 q3 1 3 b7 b11 b14 1 b11 b11 q2 q2) [(.int 1)]) (fun t k => XS.iload X422.here hx rfl (hb hby at_294) rfl k) ?_
                refine GoW.retN X422 hx (t := .boolean) Bd.returns (by simp) (hb hby at_296) Bd.notSynchronized ?_ (by decide) (by decide)
                exact ⟨rfl, N422⟩
      by_cases c13 : b7 = (0 : Int32)
      · refine GoW.sg (mkF m 54 (Sh3 q1 q2 q3 b2 z5 b7) []) (fun t k => XS.ifYes X0.here hx rfl (pc0 := 39) (pc' := 54) rfl (hb hby at_39) rfl ((if0 _ _).trans (teq c13).1) (by decide) (by decide) k) ?_
        refine GoW.sg (mkF m 55 (Sh3 q1 q2 q3 b2 z5 b7) [(.long q1)]) (fun t k => XS.lloadN X0.here hx rfl (hb hby at_54) rfl k) ?_
        exact J55_12 _ (by rw [if_pos c13])
      · refine GoW.sg (mkF m 42 (Sh3 q1 q2 q3 b2 z5 b7) []) (fun t k => XS.ifNo X0.here hx rfl (hb hby at_39) rfl ((if0 _ _).trans (feq c13).1) k) ?_
        refine GoW.sg (mkF m 45 (Sh3 q1 q2 q3 b2 z5 b7) [(.long 19999)]) (fun t k => X0.ldc2Long hx hown (mvT hZ (ww hw 44 rfl)) (g := (mkF m 42 (Sh3 q1 q2 q3 b2 z5 b7) [])) rfl (hb hby at_42) t k) ?_
        refine GoW.sg (mkF m 46 (Sh3 q1 q2 q3 b2 z5 b7) [(.long q1), (.long 19999)]) (fun t k => XS.lloadN X0.here hx rfl (hb hby at_45) rfl k) ?_
        refine GoW.sg (mkF m 49 (Sh3 q1 q2 q3 b2 z5 b7) [(.long 3), (.long q1), (.long 19999)]) (fun t k => X0.ldc2Long hx hown (mvT hZ (ww hw 45 rfl)) (g := (mkF m 46 (Sh3 q1 q2 q3 b2 z5 b7) [(.long q1), (.long 19999)])) rfl (hb hby at_46) t k) ?_
        refine GoW.sg (mkF m 50 (Sh3 q1 q2 q3 b2 z5 b7) [(.long (q1 &&& (3 : Int64))), (.long 19999)]) (fun t k => XS.land X0.here hx rfl (hb hby at_49) rfl k) ?_
        refine GoW.sg (mkF m 51 (Sh3 q1 q2 q3 b2 z5 b7) [(.long ((19999 : Int64) + (q1 &&& (3 : Int64))))]) (fun t k => XS.ladd X0.here hx rfl (hb hby at_50) rfl k) ?_
        refine GoW.sg (mkF m 55 (Sh3 q1 q2 q3 b2 z5 b7) [(.long ((19999 : Int64) + (q1 &&& (3 : Int64))))]) (fun t k => XS.goto X0.here hx rfl (pc0 := 51) (pc' := 55) rfl (hb hby at_51) (by decide) (by decide) k) ?_
        exact J55_12 _ (by rw [if_neg c13])
    by_cases c9 : (q3 &&& (8 : Int32)) = (0 : Int32)
    · refine GoW.sg (mkF m 34 (Sh2 q1 q2 q3 b2 z5) []) (fun t k => XS.ifYes X0.here hx rfl (pc0 := 27) (pc' := 34) rfl (hb hby at_27) rfl ((if0 _ _).trans (teq c9).1) (by decide) (by decide) k) ?_
      refine GoW.sg (mkF m 35 (Sh2 q1 q2 q3 b2 z5) [(.int 0)]) (fun t k => XS.iconst X0.here hx rfl (hb hby at_34) k) ?_
      exact J35_8 _ (by rw [if_pos c9])
    · refine GoW.sg (mkF m 30 (Sh2 q1 q2 q3 b2 z5) []) (fun t k => XS.ifNo X0.here hx rfl (hb hby at_27) rfl ((if0 _ _).trans (feq c9).1) k) ?_
      refine GoW.sg (mkF m 31 (Sh2 q1 q2 q3 b2 z5) [(.int 1)]) (fun t k => XS.iconst X0.here hx rfl (hb hby at_30) k) ?_
      refine GoW.sg (mkF m 35 (Sh2 q1 q2 q3 b2 z5) [(.int 1)]) (fun t k => XS.goto X0.here hx rfl (pc0 := 31) (pc' := 35) rfl (hb hby at_31) (by decide) (by decide) k) ?_
      exact J35_8 _ (by rw [if_neg c9])
  by_cases c4 : (q3 &&& (1 : Int32)) = (0 : Int32)
  · refine GoW.sg (mkF m 11 (Sh0 q1 q2 q3) []) (fun t k => XS.ifYes X0.here hx rfl (pc0 := 4) (pc' := 11) rfl (hb hby at_4) rfl ((if0 _ _).trans (teq c4).1) (by decide) (by decide) k) ?_
    refine GoW.sg (mkF m 12 (Sh0 q1 q2 q3) [(.int 0)]) (fun t k => XS.iconst X0.here hx rfl (hb hby at_11) k) ?_
    exact J12_3 _ (by rw [if_pos c4])
  · refine GoW.sg (mkF m 7 (Sh0 q1 q2 q3) []) (fun t k => XS.ifNo X0.here hx rfl (hb hby at_4) rfl ((if0 _ _).trans (feq c4).1) k) ?_
    refine GoW.sg (mkF m 8 (Sh0 q1 q2 q3) [(.int 1)]) (fun t k => XS.iconst X0.here hx rfl (hb hby at_7) k) ?_
    refine GoW.sg (mkF m 12 (Sh0 q1 q2 q3) [(.int 1)]) (fun t k => XS.goto X0.here hx rfl (pc0 := 8) (pc' := 12) rfl (hb hby at_8) (by decide) (by decide) k) ?_
    exact J12_3 _ (by rw [if_neg c4])

set_option maxRecDepth 65536 in
set_option maxHeartbeats 40000000 in
theorem comes_1 {Post : Tables → Env → Array Value → State → Outcome → State → Prop} (hpost : ∀ tb e args s v u, (limb_1_1.after args s (.returned v) u = true ∧ limb_1_2.after args s (.returned v) u = true ∧ True) → FrameEnd s (.returned v) u (Jvm.fieldLocs frame_1_writes args s ++ Jvm.arrayLocs frame_1_arrays args s ++ Jvm.staticLocs frame_1_statics s) 16 128 → Post tb e args s (.returned v) u) :
    ArmFor flags0 classFile x code maxLocals ret World_1 tables_1 room_1 Calls_1 rest_1 Pre_1 Post := by
  intro l hfl _ _ p e ha hc hk s m args below hf hA hF happ hP
  obtain ⟨hcalls, hrest, hpre⟩ := hP
  obtain ⟨-, -, -, hnamed, -, -, -, hat⟩ := (Spec.applies_iff hf).mp happ
  obtain ⟨hg, hn⟩ := and_e (Cond.before_iff.mp (show (Jvm.Cond.and given_1 narrow_1).before args s = true from hpre))
  obtain ⟨ga0, gb0⟩ := and_e hg
  obtain ⟨ga1, gb1⟩ := and_e gb0
  obtain ⟨ga2, gb2⟩ := and_e gb1
  obtain ⟨w0, w1, w2, rfl⟩ : ∃ w0 w1 w2 : Value, args = #[w0, w1, w2] := by
    have hs : args.size = 3 := by simpa [Cond.value, given_1] using ga0
    obtain ⟨L⟩ := args
    match L, hs with
    | [w0, w1, w2], _ => exact ⟨w0, w1, w2, rfl⟩
  have hw := fun d (hd : d ∈ tables_1) => atoms_spec (ws := Jvm.Cond.code x code maxLocals ret :: tables_1) hat d (List.mem_cons_of_mem _ hd)
  have hfit : Fit s := fun {y c} hc i hi => by
    obtain ⟨ha, rfl⟩ := Array.getElem?_eq_some_iff.mp hc
    have q := List.all_eq_true.mp ((Array.all_eq_true_iff_forall_mem.mp hF) _ (Array.getElem_mem ha)) i (List.mem_range.mpr hi)
    simpa [Array.getElem?_eq_getElem hi] using q
  obtain ⟨i0, ei0⟩ := isL_v ga1
  obtain rfl : w0 = (.long i0) := Option.some.inj ei0
  obtain ⟨i1, ei1⟩ := isL_v ga2
  obtain rfl : w1 = (.long i1) := Option.some.inj ei1
  obtain ⟨i2, ei2⟩ := is_v gb2
  obtain rfl : w2 = (.int i2) := Option.some.inj ei2
  obtain ⟨n, o, h1, h2, h3, v, L, rfl, ⟨hv, N⟩, hq⟩ := rm0 l s _ hw tables_1 i0 i1 i2  s.heap s.heap.size (Nat.le_refl _)  p e ha hc hk s m _ below hf ((Spec.applies_iff_loose hf).mp happ).1 ⟨rfl, State.Warmed39.refl s, rfl⟩ trivial
  subst hv
  refine ⟨n, _, h1, h2, h3, hpost _ _ _ _ _ _ ⟨Cond.after_iff.mpr rfl, Cond.after_iff.mpr (eq_i res_at (Term.int_eval (1)) rfl), trivial⟩ ⟨hq.1, hq.2.1, (hq.2.2.sift fun y hy => Or.inr (N y hy)).mono (by decide) (by decide)⟩⟩
theorem main_1_1 : Claimed_1_1 := comes_1 fun _ _ _ _ _ _ h hF => ⟨h.1, hF⟩
theorem main_1_2 : Claimed_1_2 := comes_1 fun _ _ _ _ _ _ h hF => ⟨h.2.1, hF⟩
end Jvm.Pilot.@@N@@
namespace Jvm.Pilot.@@N@@
open Jvm Jvm.ClassFile Sem Op Lib Jvm.Free Jvm.Stand Jvm.Pilot.@@N@@.Jvm.D
/-! MADE BY PROGRAM (witnessworld.py) out of the Statement's table words and the real class files: 9 classes; the members and pool entries that the words name. The judged class is class 1, her method 2. -/
namespace start1
open Jvm.ClassFile
def u (s : String) : CpInfo := .utf8 (stringToUtf16 s)
/-- a pool by its gaps: so many unusable entries, then the entry; so many at the end -/
def gap : Nat → List CpInfo → List CpInfo
  | 0, r => r
  | n + 1, r => .unusable :: gap n r
def poolList (es : List (Nat × CpInfo)) (last : Nat) : List CpInfo := es.foldr (fun e r => gap e.1 (e.2 :: r)) (gap last [])
def pool (es : List (Nat × CpInfo)) (last : Nat) : Array CpInfo := ⟨poolList es last⟩
def fileOf (pool : Array CpInfo) (this : Nat) (attrs : Array Attribute := #[]) (ms : Array MethodInfo := #[]) (fl : Nat := 33) (sup : Nat := 0) (ifs : Array Nat := #[]) (fds : Array FieldInfo := #[]) : ClassFile where
  minorVersion := 0
  majorVersion := 65
  constantPool := pool
  accessFlags := fl
  thisClass := this
  superClass := sup
  interfaces := ifs
  fields := fds
  methods := ms
  attributes := attrs
def plain (name : String) (sup : Option ClassId) : Class where
  name := name
  kind := .ordinary
  loader := none
  accessFlags := 33
  super := sup
  interfaces := #[]
  cf := none
  fields := #[]
  methods := #[]
  instanceTypes := #[]
  staticTypes := #[]
  resolved := #[]
  callSites := []
  init := .initialized
  statics := none
  mirror := none

def pool0 : Array CpInfo := pool [(5, u "<init>"), (0, u "()V"), (1, .class_ 10), (1, u "java/lang/Object")] 113

def k0c0 : Code := { maxStack := 0, maxLocals := 1, code := object_method_1_code, exceptionTable := #[], attributes := #[] }
def k0m0 : Method := { name := "<init>", desc := "()V", sig := { parameters := [], returnType := none }, accessFlags := 1, code := some k0c0 }
/-- java/lang/Object -/
def k0 : Class := { plain "java/lang/Object" none with
  accessFlags := 33
  interfaces := #[]
  cf := some (fileOf pool0 8 #[] #[{ accessFlags := 1, nameIndex := 5, descriptorIndex := 6, attributes := #[] }] 33 0 #[] #[])
  fields := #[]
  methods := #[k0m0]
  instanceTypes := #[]
  staticTypes := #[]
  resolved := Array.replicate 124 none
  statics := none }

def pool1 : Array CpInfo := pool [(2, .class_ 4), (0, .nameAndType 5 6), (0, u "java/lang/Object"), (0, u "<init>"), (0, u "()V"), (0, .long 20000), (1, .methodref 10 11), (0, .class_ 12), (0, .nameAndType 13 14), (0, u "com/example/spindle/spindle/SpinRule"), (0, u "countWait"), (0, u "(ZZJ)V"), (0, .long 19999), (1, .long 3), (1, .methodref 10 3), (0, .methodref 10 21), (0, .nameAndType 22 6), (0, u "handedOn"), (2, .long 9223372036854775807), (1, .methodref 10 28), (0, .nameAndType 29 30), (0, u "spinNanos"), (0, u "(J)J"), (0, .methodref 32 33), (0, .class_ 34), (0, .nameAndType 35 36), (0, u "com/example/spindle/spindle/SpinRuleSpinNanosPinLaw"), (0, u "tenMisses"), (0, u "(Lcom/example/spindle/spindle/SpinRule;)V"), (0, .methodref 10 38), (0, .nameAndType 39 40), (0, u "timesWait"), (0, u "(J)Z"), (2, u "law"), (0, u "(JJI)Z")] 3

def k1m0 : Method := { name := "<init>", desc := "()V", sig := { parameters := [], returnType := none }, accessFlags := 2, code := none }
def k1c1 : Code := { maxStack := 5, maxLocals := 1, code := method_2_code, exceptionTable := #[], attributes := #[] }
def k1m1 : Method := { name := "tenMisses", desc := "(Lcom/example/spindle/spindle/SpinRule;)V", sig := { parameters := [(.object "com/example/spindle/spindle/SpinRule")], returnType := none }, accessFlags := 10, code := some k1c1 }
def k1c2 : Code := { maxStack := 6, maxLocals := 20, code := code, exceptionTable := #[], attributes := #[] }
def k1m2 : Method := { name := "law", desc := "(JJI)Z", sig := { parameters := [.long, .long, .int], returnType := some .boolean }, accessFlags := 9, code := some k1c2 }
/-- com/example/spindle/spindle/SpinRuleSpinNanosPinLaw -/
def k1 : Class := { plain "com/example/spindle/spindle/SpinRuleSpinNanosPinLaw" (some 0) with
  accessFlags := 49
  interfaces := #[]
  cf := some (fileOf pool1 32 #[] #[{ accessFlags := 2, nameIndex := 5, descriptorIndex := 6, attributes := #[] }, { accessFlags := 10, nameIndex := 35, descriptorIndex := 36, attributes := #[] }, { accessFlags := 9, nameIndex := 43, descriptorIndex := 44, attributes := #[] }] 49 2 #[] #[])
  fields := #[]
  methods := #[k1m0, k1m1, k1m2]
  instanceTypes := #[]
  staticTypes := #[]
  resolved := Array.replicate 48 none
  statics := none }

def pool2 : Array CpInfo := pool [(1, .methodref 2 3), (0, .class_ 4), (0, .nameAndType 5 6), (0, u "java/lang/Object"), (0, u "<init>"), (0, u "()V"), (0, .fieldref 8 9), (0, .class_ 10), (0, .nameAndType 11 12), (0, u "com/example/spindle/spindle/SpinRule"), (0, u "answeredShare"), (0, u "D"), (0, .fieldref 8 14), (0, .nameAndType 15 16), (0, u "handedOn"), (0, u "Z"), (0, .fieldref 8 18), (0, .nameAndType 19 16), (0, u "awaitsAnswer"), (0, .long 20000), (1, .double 4598175219545276416), (1, .double 4593671619917905920), (1, u "SPIN_NANOS"), (0, u "J"), (1, u "LATEST_WAIT_WEIGHT"), (0, u "ANSWERED_SHARE_TO_SPIN"), (2, u "spinNanos"), (0, u "(J)J"), (1, u "timesWait"), (0, u "(J)Z"), (0, u "countWait"), (0, u "(ZZJ)V")] 2

def k2c0 : Code := { maxStack := 3, maxLocals := 1, code := prog_40_method_1_code, exceptionTable := #[], attributes := #[] }
def k2m0 : Method := { name := "<init>", desc := "()V", sig := { parameters := [], returnType := none }, accessFlags := 0, code := some k2c0 }
def k2c1 : Code := { maxStack := 2, maxLocals := 1, code := prog_40_method_2_code, exceptionTable := #[], attributes := #[] }
def k2m1 : Method := { name := "handedOn", desc := "()V", sig := { parameters := [], returnType := none }, accessFlags := 0, code := some k2c1 }
def k2c2 : Code := { maxStack := 4, maxLocals := 3, code := prog_40_method_3_code, exceptionTable := #[], attributes := #[] }
def k2m2 : Method := { name := "spinNanos", desc := "(J)J", sig := { parameters := [.long], returnType := some .long }, accessFlags := 0, code := some k2c2 }
def k2c3 : Code := { maxStack := 4, maxLocals := 3, code := prog_40_method_4_code, exceptionTable := #[], attributes := #[] }
def k2m3 : Method := { name := "timesWait", desc := "(J)Z", sig := { parameters := [.long], returnType := some .boolean }, accessFlags := 0, code := some k2c3 }
def k2c4 : Code := { maxStack := 7, maxLocals := 6, code := prog_40_method_5_code, exceptionTable := #[], attributes := #[] }
def k2m4 : Method := { name := "countWait", desc := "(ZZJ)V", sig := { parameters := [.boolean, .boolean, .long], returnType := none }, accessFlags := 0, code := some k2c4 }
/-- com/example/spindle/spindle/SpinRule -/
def k2 : Class := { plain "com/example/spindle/spindle/SpinRule" (some 0) with
  accessFlags := 48
  interfaces := #[]
  cf := some (fileOf pool2 8 #[] #[{ accessFlags := 0, nameIndex := 5, descriptorIndex := 6, attributes := #[] }, { accessFlags := 0, nameIndex := 15, descriptorIndex := 6, attributes := #[] }, { accessFlags := 0, nameIndex := 33, descriptorIndex := 34, attributes := #[] }, { accessFlags := 0, nameIndex := 36, descriptorIndex := 37, attributes := #[] }, { accessFlags := 0, nameIndex := 38, descriptorIndex := 39, attributes := #[] }] 48 2 #[] #[{ accessFlags := 26, nameIndex := 26, descriptorIndex := 27, attributes := #[] }, { accessFlags := 26, nameIndex := 29, descriptorIndex := 12, attributes := #[] }, { accessFlags := 26, nameIndex := 30, descriptorIndex := 12, attributes := #[] }, { accessFlags := 2, nameIndex := 15, descriptorIndex := 16, attributes := #[] }, { accessFlags := 2, nameIndex := 19, descriptorIndex := 16, attributes := #[] }, { accessFlags := 2, nameIndex := 11, descriptorIndex := 12, attributes := #[] }])
  fields := #[{ name := "SPIN_NANOS", type := .long, accessFlags := 26, slot := 0, constantValue := 0 }, { name := "LATEST_WAIT_WEIGHT", type := .double, accessFlags := 26, slot := 1, constantValue := 0 }, { name := "ANSWERED_SHARE_TO_SPIN", type := .double, accessFlags := 26, slot := 2, constantValue := 0 }, { name := "handedOn", type := .boolean, accessFlags := 2, slot := 0, constantValue := 0 }, { name := "awaitsAnswer", type := .boolean, accessFlags := 2, slot := 1, constantValue := 0 }, { name := "answeredShare", type := .double, accessFlags := 2, slot := 2, constantValue := 0 }]
  methods := #[k2m0, k2m1, k2m2, k2m3, k2m4]
  instanceTypes := #[.boolean, .boolean, .double]
  staticTypes := #[.long, .double, .double]
  resolved := Array.replicate 42 none
  statics := none }

def pool3 : Array CpInfo := pool [(1, u "java/lang/Cloneable"), (0, .class_ 1), (0, u "java/lang/Object"), (0, .class_ 3)] 3

/-- java/lang/Cloneable -/
def k3 : Class := { plain "java/lang/Cloneable" (some 0) with
  accessFlags := 1537
  interfaces := #[]
  cf := some (fileOf pool3 2 #[] #[] 1537 4 #[] #[])
  fields := #[]
  methods := #[]
  instanceTypes := #[]
  staticTypes := #[]
  resolved := Array.replicate 8 none
  statics := none }

def pool4 : Array CpInfo := pool [(1, u "java/io/Serializable"), (0, .class_ 1), (0, u "java/lang/Object"), (0, .class_ 3)] 3

/-- java/io/Serializable -/
def k4 : Class := { plain "java/io/Serializable" (some 0) with
  accessFlags := 1537
  interfaces := #[]
  cf := some (fileOf pool4 2 #[] #[] 1537 4 #[] #[])
  fields := #[]
  methods := #[]
  instanceTypes := #[]
  staticTypes := #[]
  resolved := Array.replicate 8 none
  statics := none }

/-- the primitive byte -/
def k5 : Class := { plain "byte" none with kind := .primitive 'B', accessFlags := 0x411 }
/-- [B -/
def k6 : Class := { plain "[B" (some 0) with kind := .array 5 .byte, interfaces := #[3, 4], accessFlags := 1041 }

/-- the primitive int -/
def k7 : Class := { plain "int" none with kind := .primitive 'I', accessFlags := 0x411 }
/-- [I -/
def k8 : Class := { plain "[I" (some 0) with kind := .array 7 .int, interfaces := #[3, 4], accessFlags := 1041 }

def heap : Heap := #[]
def classes : Array Class := #[k0, k1, k2, k3, k4, k5, k6, k7, k8]
def interned : List (Array UInt16 × Addr) := []
def slotsUsed : Nat := 0
def theMethod : MethodId := ⟨1, 2⟩
def args0 : Array Value := #[.long 5, .long 77, .int 3]
def aboutOver (below : List Frame) : State where
  vm := { classes := classes, interned := interned.toArray }
  heap := heap
  slotsUsed := slotsUsed
  threads := #[{ frames := .invoking theMethod args0 :: below }]
def below0 : List Frame := [.native { method := ⟨0, 0⟩, args := #[] }]
def about1 : State := aboutOver below0
def p0 : Program := .bare "" "" ""
def e0 : Env := launch0.env 0 0 0
theorem w_frames : about1.frames = Frame.invoking theMethod args0 :: below0 := rfl
set_option maxRecDepth 65536 in
theorem w_args : argsFit about1.vm theMethod args0 = true := by decide +kernel
set_option maxRecDepth 65536 in
theorem w_heap : heapFits about1 = true := by decide +kernel
set_option maxRecDepth 65536 in
theorem w_runnable : about1.curStatus? = some .runnable := by decide +kernel
set_option maxRecDepth 65536 in
theorem w_alone : about1.alone = true := by decide +kernel
set_option maxRecDepth 65536 in
theorem w_named : about1.methodNamed? x = some theMethod := by decide +kernel
set_option maxRecDepth 65536 in
theorem w_hears : about1.hears theMethod below0 = true := by decide +kernel
set_option maxRecDepth 65536 in
theorem w_ripe : about1.ripe theMethod args0 below0 = true := by decide +kernel
theorem w_running : about1.status = .running := rfl
set_option maxRecDepth 65536 in
theorem w_room : about1.hasRoom e0.platform room_1 = true :=
  launch0.hasRoom_least _ room_1 (by decide +kernel) (by decide +kernel) (by decide +kernel) (by decide +kernel) (by decide +kernel) (by decide +kernel)
theorem allAtoms_all (ts : List Jvm.Cond) (a : Array Jvm.Value) (st : Jvm.State) : (allAtoms ts).before a st = ts.all (fun c => c.before a st) := by
  induction ts with
  | nil => rfl
  | cons c t ih =>
    show (Jvm.Cond.and c (allAtoms t)).before a st = _
    rw [Jvm.Cond.before_and, ih, List.all_cons]
def words1 : List Jvm.Cond := Jvm.Cond.code x code maxLocals ret :: tables_1
/-- a 'code' word, met by the world's own term for the bytes: nothing is compared byte by byte -/
theorem code_word {y : MethodName} {bytes : ByteArray} {mx : Nat} {rt : Option FieldType} {a : Array Value} {s : State} {m : MethodId} {meth : Method} {c : Code} (h1 : s.methodNamed? y = some m) (h2 : s.vm.method? m = some meth) (h3 : meth.code = some c) (h4 : c.code = bytes)
    (h5 : (c.maxLocals == mx && c.exceptionTable.isEmpty && decide (c.maxStack ≤ mostOperands) && decide (meth.sig.returnType = rt) && !meth.locks && decide (parseMethodDescriptor y.desc = some meth.sig)) = true) : (Jvm.Cond.code y bytes mx rt).before a s = true := by
  simp only [Bool.and_eq_true, beq_iff_eq, Bool.not_eq_true', decide_eq_true_eq] at h5
  obtain ⟨⟨⟨⟨⟨g1, g2⟩, g3⟩, g4⟩, g5⟩, g6⟩ := h5
  simp [Cond.before, Cond.holds, Cond.value, h1, h2, h3, h4, g1, g2, g3, g4, g5, g6]
def isCode : Jvm.Cond → Bool
  | .code _ _ _ _ => true
  | _ => false
theorem all_split {L : List Jvm.Cond} {P : Jvm.Cond → Bool} (h1 : L.all (fun c => isCode c || P c) = true) (h2 : ∀ c ∈ L.filter isCode, P c = true) : L.all P = true := by
  refine List.all_eq_true.mpr fun c hc => ?_
  have h := List.all_eq_true.mp h1 c hc
  rcases Bool.eq_false_or_eq_true (isCode c) with hi | hi
  · exact h2 c (List.mem_filter.mpr ⟨hc, hi⟩)
  · simpa [hi] using h
set_option maxRecDepth 65536 in
theorem w_c0 : (Jvm.Cond.code x code maxLocals ret).before args0 about1 = true := code_word (m := ⟨1, 2⟩) (meth := k1m2) (c := k1c2) (by decide +kernel) rfl rfl rfl (by decide +kernel)
set_option maxRecDepth 65536 in
theorem w_c1 : (Jvm.Cond.code ({ cls := "com/example/spindle/spindle/SpinRule", name := "<init>", desc := "()V" } : Jvm.MethodName) prog_40_method_1_code (1 : Nat) (Option.none : Option Jvm.ClassFile.FieldType)).before args0 about1 = true := code_word (m := ⟨2, 0⟩) (meth := k2m0) (c := k2c0) (by decide +kernel) rfl rfl rfl (by decide +kernel)
set_option maxRecDepth 65536 in
theorem w_c2 : (Jvm.Cond.code ({ cls := "java/lang/Object", name := "<init>", desc := "()V" } : Jvm.MethodName) object_method_1_code (1 : Nat) (Option.none : Option Jvm.ClassFile.FieldType)).before args0 about1 = true := code_word (m := ⟨0, 0⟩) (meth := k0m0) (c := k0c0) (by decide +kernel) rfl rfl rfl (by decide +kernel)
set_option maxRecDepth 65536 in
theorem w_c3 : (Jvm.Cond.code ({ cls := "com/example/spindle/spindle/SpinRule", name := "spinNanos", desc := "(J)J" } : Jvm.MethodName) prog_40_method_3_code (3 : Nat) (Option.some Jvm.ClassFile.FieldType.long)).before args0 about1 = true := code_word (m := ⟨2, 2⟩) (meth := k2m2) (c := k2c2) (by decide +kernel) rfl rfl rfl (by decide +kernel)
set_option maxRecDepth 65536 in
theorem w_c4 : (Jvm.Cond.code ({ cls := "com/example/spindle/spindle/SpinRule", name := "timesWait", desc := "(J)Z" } : Jvm.MethodName) prog_40_method_4_code (3 : Nat) (Option.some Jvm.ClassFile.FieldType.boolean)).before args0 about1 = true := code_word (m := ⟨2, 3⟩) (meth := k2m3) (c := k2c3) (by decide +kernel) rfl rfl rfl (by decide +kernel)
set_option maxRecDepth 65536 in
theorem w_c5 : (Jvm.Cond.code ({ cls := "com/example/spindle/spindle/SpinRule", name := "handedOn", desc := "()V" } : Jvm.MethodName) prog_40_method_2_code (1 : Nat) (Option.none : Option Jvm.ClassFile.FieldType)).before args0 about1 = true := code_word (m := ⟨2, 1⟩) (meth := k2m1) (c := k2c1) (by decide +kernel) rfl rfl rfl (by decide +kernel)
set_option maxRecDepth 65536 in
theorem w_c6 : (Jvm.Cond.code ({ cls := "com/example/spindle/spindle/SpinRuleSpinNanosPinLaw", name := "tenMisses", desc := "(Lcom/example/spindle/spindle/SpinRule;)V" } : Jvm.MethodName) method_2_code (1 : Nat) (Option.none : Option Jvm.ClassFile.FieldType)).before args0 about1 = true := code_word (m := ⟨1, 1⟩) (meth := k1m1) (c := k1c1) (by decide +kernel) rfl rfl rfl (by decide +kernel)
set_option maxRecDepth 65536 in
theorem w_c7 : (Jvm.Cond.code ({ cls := "com/example/spindle/spindle/SpinRule", name := "countWait", desc := "(ZZJ)V" } : Jvm.MethodName) prog_40_method_5_code (6 : Nat) (Option.none : Option Jvm.ClassFile.FieldType)).before args0 about1 = true := code_word (m := ⟨2, 4⟩) (meth := k2m4) (c := k2c4) (by decide +kernel) rfl rfl rfl (by decide +kernel)
def codes1 : List Jvm.Cond := [Jvm.Cond.code x code maxLocals ret, Jvm.Cond.code ({ cls := "com/example/spindle/spindle/SpinRule", name := "<init>", desc := "()V" } : Jvm.MethodName) prog_40_method_1_code (1 : Nat) (Option.none : Option Jvm.ClassFile.FieldType), Jvm.Cond.code ({ cls := "java/lang/Object", name := "<init>", desc := "()V" } : Jvm.MethodName) object_method_1_code (1 : Nat) (Option.none : Option Jvm.ClassFile.FieldType), Jvm.Cond.code ({ cls := "com/example/spindle/spindle/SpinRule", name := "spinNanos", desc := "(J)J" } : Jvm.MethodName) prog_40_method_3_code (3 : Nat) (Option.some Jvm.ClassFile.FieldType.long), Jvm.Cond.code ({ cls := "com/example/spindle/spindle/SpinRule", name := "timesWait", desc := "(J)Z" } : Jvm.MethodName) prog_40_method_4_code (3 : Nat) (Option.some Jvm.ClassFile.FieldType.boolean), Jvm.Cond.code ({ cls := "com/example/spindle/spindle/SpinRule", name := "handedOn", desc := "()V" } : Jvm.MethodName) prog_40_method_2_code (1 : Nat) (Option.none : Option Jvm.ClassFile.FieldType), Jvm.Cond.code ({ cls := "com/example/spindle/spindle/SpinRuleSpinNanosPinLaw", name := "tenMisses", desc := "(Lcom/example/spindle/spindle/SpinRule;)V" } : Jvm.MethodName) method_2_code (1 : Nat) (Option.none : Option Jvm.ClassFile.FieldType), Jvm.Cond.code ({ cls := "com/example/spindle/spindle/SpinRule", name := "countWait", desc := "(ZZJ)V" } : Jvm.MethodName) prog_40_method_5_code (6 : Nat) (Option.none : Option Jvm.ClassFile.FieldType)]
set_option maxRecDepth 65536 in
theorem codes_eq : words1.filter isCode = codes1 := rfl
theorem w_codes : ∀ c ∈ words1.filter isCode, c.before args0 about1 = true := by
  rw [codes_eq]
  intro c hc
  simp only [codes1, List.mem_cons, List.not_mem_nil, or_false] at hc
  rcases hc with rfl | rfl | rfl | rfl | rfl | rfl | rfl | rfl
  · exact w_c0
  · exact w_c1
  · exact w_c2
  · exact w_c3
  · exact w_c4
  · exact w_c5
  · exact w_c6
  · exact w_c7
set_option maxRecDepth 65536 in
theorem w_t1 : (words1.take 24).all (fun c => isCode c || c.before args0 about1) = true := by decide +kernel
set_option maxRecDepth 65536 in
theorem w_t2 : (words1.drop 24).all (fun c => isCode c || c.before args0 about1) = true := by decide +kernel
theorem w_tables : (allAtoms (Jvm.Cond.code x code maxLocals ret :: tables_1)).before args0 about1 = true := by
  rw [allAtoms_all]
  show words1.all (fun c => c.before args0 about1) = true
  refine all_split ?_ w_codes
  rw [← List.take_append_drop 24 words1, List.all_append, w_t1, w_t2]
  rfl
set_option maxRecDepth 65536 in
theorem w_case : (Jvm.Cond.and given_1 narrow_1).before args0 about1 = true := by decide +kernel
theorem w_applies : (headSpec (Jvm.Cond.code x code maxLocals ret :: tables_1) room_1).applies x e0.platform about1 = true :=
  (Spec.applies_iff w_frames).mpr ⟨w_running, w_runnable, w_alone, w_named, w_hears, w_ripe, w_room, w_tables⟩
theorem atStart : AtStart classFile x code maxLocals ret World_1 tables_1 room_1 Calls_1 rest_1 Pre_1 launch0 p0 e0 about1 theMethod args0 below0 :=
  ⟨lists_1, trivial, launch0.admits_env _ _ _, launch0.least_env, fairChoices_fair.cas, fairChoices_fair.clock, w_frames, w_args, w_heap, w_applies, trivial, trivial, w_case⟩
end start1
theorem witness_1 : WitnessClaimed_1 := ⟨start1.p0, start1.e0, start1.about1, start1.theMethod, start1.args0, start1.below0, start1.atStart⟩
end Jvm.Pilot.@@N@@
