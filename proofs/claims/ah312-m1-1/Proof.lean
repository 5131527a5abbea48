import JvmDerived
import JvmDerived.Pilot.@@N@@Statement
import JvmDerived.Pilot.@@N@@Code
set_option linter.unusedVariables false
set_option linter.unusedSimpArgs false
namespace Jvm.RoadKit
open Sem ClassFile Op Lib Jvm.Stand Jvm.Free Jvm.LawKit
def GoW (p : Program) (e : Env) (below : List Frame) (s : State) (Q : Option Value → Heap → List Loc → Prop) (k n : Nat) (u : State) : Prop :=
  ∃ s₂ o, Steps p.tables e below u s₂ ∧ s₂.status = .running ∧ Ended s₂ below o ∧ ∃ v L, o = .returned v ∧ Q v s₂.heap L ∧ FrameEnd s o s₂ L k n
def PureQ (r : Value) (h0 : Heap) (n0 : Nat) (v : Option Value) (h : Heap) (L : List Loc) : Prop := v = some r ∧ Fr n0 L ∧ h = h0
def ValQ (r : Value) (n0 : Nat) (v : Option Value) (h : Heap) (L : List Loc) : Prop := v = some r ∧ Fr n0 L
section New
variable {p : Program} {l : Launch} {e : Env} {R : Room} {s : State} {m : MethodId} {args : Array Value} {below : List Frame} {meth : Method} {c : Code} {T : State} {locs : List Loc} {cells slots : Nat} {Q : Option Value → Heap → List Loc → Prop} {k n : Nat} {u v : State}
theorem GoW.mk (h : GoW p e below s Q k n u) : ∃ s₂ o, Steps p.tables e below u s₂ ∧ s₂.status = .running ∧ Ended s₂ below o ∧ ∃ v L, o = .returned v ∧ Q v s₂.heap L ∧ FrameEnd s o s₂ L k n := h
theorem GoW.st (h : ∀ t, Steps p.tables e below u t → Steps p.tables e below v t) (q : GoW p e below s Q k n u) : GoW p e below s Q k n v := by
  obtain ⟨s₂, o, h1, h2⟩ := q; exact ⟨s₂, o, h _ h1, h2⟩
theorem GoW.sg {T' : State} (g' : JFrame) (h : ∀ t, Steps p.tables e below (T'.setTop g') t → Steps p.tables e below v t) (q : GoW p e below s Q k n (T'.setTop g')) : GoW p e below s Q k n v := GoW.st h q
theorem retI (X : Stand p l e R s m args below meth c T locs cells slots) (hx : p.tables.exec = Jvm.exec) {pc : Nat} {Ls : Array Slot} {z : Int32} {rest : List Value} (hret : meth.sig.returnType = some .int) (hd : decode c.code pc = .ok (.ireturn, 1)) {fs : List Frame}
    (hl : ∀ (f : JFrame) (acts : List Action), f.method = m → f.locked = none → f.entered = [] → (doReturn e (T.setTop f) acts (some (.int z))).1 = T.setFrames fs) : Steps p.tables e below (T.setTop (mkF m pc Ls (.int z :: rest))) (T.setFrames fs) := by
  have hm' : T.vm.method? m = some meth := X.method'
  have hn : narrow .int (.int z) = .int z := rfl
  show Steps p.tables e below (T.setTop { method := m, pc := pc, locals := Ls, stack := _ :: rest, locked := none }) _
  jvm_step X.here [X.here.top, hx, hd, hm', hret, hn]
  first | (intro acts; rw [hl _ acts rfl rfl rfl]) | rw [hl _ _ rfl rfl rfl]
  exact Steps.refl _
theorem GoW.retN (X : Stand p l e R s m args below meth c T locs cells slots) (hx : p.tables.exec = Jvm.exec) {pc : Nat} {Ls : Array Slot} {z : Int32} {t : FieldType} {rest : List Value} (hret : meth.sig.returnType = some t) (ht : t = .boolean ∨ t = .byte ∨ t = .char ∨ t = .short)
    (hd : decode c.code pc = .ok (.ireturn, 1)) (hlk : meth.locks = false) (hq : Q (some (.int (nar t z))) T.heap locs) (hk : cells ≤ k) (hn : slots ≤ n) : GoW p e below s Q k n (T.setTop (mkF m pc Ls (.int z :: rest))) := by
  obtain ⟨fs, hr, hrun, hended, hW, hsame⟩ := X.leave (v := some (.int (nar t z))) (fun h => by rw [hret] at h; cases h) hlk
  exact ⟨_, _, Jvm.RoadKit.retN X hx hret ht hd hr, hrun, hended, _, _, rfl, hq, ⟨_, rfl⟩, hW, hsame.mono hk hn⟩
theorem GoW.retI (X : Stand p l e R s m args below meth c T locs cells slots) (hx : p.tables.exec = Jvm.exec) {pc : Nat} {Ls : Array Slot} {z : Int32} {rest : List Value} (hret : meth.sig.returnType = some .int)
    (hd : decode c.code pc = .ok (.ireturn, 1)) (hlk : meth.locks = false) (hq : Q (some (.int z)) T.heap locs) (hk : cells ≤ k) (hn : slots ≤ n) : GoW p e below s Q k n (T.setTop (mkF m pc Ls (.int z :: rest))) := by
  obtain ⟨fs, hr, hrun, hended, hW, hsame⟩ := X.leave (v := some (.int z)) (fun h => by rw [hret] at h; cases h) hlk
  exact ⟨_, _, Jvm.RoadKit.retI X hx hret hd hr, hrun, hended, _, _, rfl, hq, ⟨_, rfl⟩, hW, hsame.mono hk hn⟩
theorem GoW.retL (X : Stand p l e R s m args below meth c T locs cells slots) (hx : p.tables.exec = Jvm.exec) {pc : Nat} {Ls : Array Slot} {z : Int64} {rest : List Value} (hret : meth.sig.returnType = some .long)
    (hd : decode c.code pc = .ok (.lreturn, 1)) (hlk : meth.locks = false) (hq : Q (some (.long z)) T.heap locs) (hk : cells ≤ k) (hn : slots ≤ n) : GoW p e below s Q k n (T.setTop (mkF m pc Ls (.long z :: rest))) := by
  obtain ⟨fs, hr, hrun, hended, hW, hsame⟩ := X.leave (v := some (.long z)) (fun h => by rw [hret] at h; cases h) hlk
  exact ⟨_, _, retOut X hx hret rfl (Or.inr (Or.inl ⟨rfl, rfl, z, rfl⟩)) hd hr, hrun, hended, _, _, rfl, hq, ⟨_, rfl⟩, hW, hsame.mono hk hn⟩
theorem GoW.retA (X : Stand p l e R s m args below meth c T locs cells slots) (hx : p.tables.exec = Jvm.exec) {pc : Nat} {Ls : Array Slot} {w : Value} {t : FieldType} {rest : List Value} (hret : meth.sig.returnType = some t) (hw : w.isRef = true) (ht : t.isReference = true)
    (hn' : narrow t w = w) (hd : decode c.code pc = .ok (.areturn, 1)) (hlk : meth.locks = false) (hq : Q (some w) T.heap locs) (hk : cells ≤ k) (hn : slots ≤ n) : GoW p e below s Q k n (T.setTop (mkF m pc Ls (w :: rest))) := by
  obtain ⟨fs, hr, hrun, hended, hW, hsame⟩ := X.leave (v := some w) (fun h => by rw [hret] at h; cases h) hlk
  exact ⟨_, _, retOut X hx hret hn' (Or.inr (Or.inr (Or.inr (Or.inr ⟨rfl, ht, hw⟩)))) hd hr, hrun, hended, _, _, rfl, hq, ⟨_, rfl⟩, hW, hsame.mono hk hn⟩
theorem GoW.retV (X : Stand p l e R s m args below meth c T locs cells slots) (hx : p.tables.exec = Jvm.exec) {pc : Nat} {Ls : Array Slot} (hret : meth.sig.returnType = none)
    (hd : decode c.code pc = .ok (.return_, 1)) (hlk : meth.locks = false) (hq : Q none T.heap locs) (hk : cells ≤ k) (hn : slots ≤ n) : GoW p e below s Q k n (T.setTop (mkF m pc Ls [])) := by
  obtain ⟨fs, hr, hrun, hended, hW, hsame⟩ := X.leave (v := none) (fun _ => rfl) hlk
  exact ⟨_, _, X.returnOut hx hret hd hr, hrun, hended, _, _, rfl, hq, ⟨_, rfl⟩, hW, hsame.mono hk hn⟩
theorem hq_ {T : State} {h : Heap} {a : Addr} {c : Cell} (e : T.heap = h) (q : h[a]? = some c) : T.heap[a]? = some c := by rw [e]; exact q
theorem own_b53 (x : Int32) : B53 x.toInt64 := by
  have h := rng32 x
  unfold B53; rw [Int32.toInt_toInt64]; omega
theorem own_eqI {args : Array Value} {first s : State} {o : Option Outcome} {idx : List Nat} {t : Term} {i : Int32} (h : (Jvm.Cond.eq t (.int i)).value args first o s idx = some true) : t.eval args first o idx s = some (.int i) := by
  obtain ⟨x, y, hx, hy, k1, k2⟩ := cmp_v (Or.inl h)
  rw [Term.int_eval] at hy
  cases hy
  obtain ⟨z, rfl⟩ := k2
  have q := gotT (Cond.eq_ints hx (Term.int_eval i)) h
  rw [hx, q]
theorem own_ne {args : Array Value} {first s : State} {o : Option Outcome} {idx : List Nat} {t u : Term} {C n d : String} {i j : Int32} {a b : Addr} (h1 : (Jvm.Cond.eq (.field t C n d) (.int i)).value args first o s idx = some true) (h2 : (Jvm.Cond.eq (.field u C n d) (.int j)).value args first o s idx = some true)
    (ha : t.eval args first o idx s = some (.ref a)) (hb : u.eval args first o idx s = some (.ref b)) (hij : i ≠ j) : a ≠ b := fun e => by
  subst e
  have q1 := own_eqI h1
  have q2 := own_eqI h2
  rw [fld_at ha] at q1
  rw [fld_at hb, q1] at q2
  exact hij (by cases q2; rfl)
theorem own_staK0 {Z : State} {h h' : Heap} {C n d : String} {v : Value} (F : Sta Z h C n d v) (K : Keep h h' []) : Sta Z h' C n d v := by
  obtain ⟨cf, i, k, f, st, cell, h1, h2, h3, h4, h5, r⟩ := F; exact ⟨cf, i, k, f, st, cell, h1, h2, h3, h4, K.2.1 _ _ h5 nin0, r⟩
theorem own_staK1 {Z : State} {h h' : Heap} {C n d K0 : String} {v : Value} {a : Addr} (F : Sta Z h C n d v) (K : Keep h h' [a]) (E : Exa Z h a K0) : Sta Z h' C n d v := by
  obtain ⟨cf, i, k, f, st, cell, h1, h2, h3, h4, h5, h6, r⟩ := F
  refine ⟨cf, i, k, f, st, cell, h1, h2, h3, h4, K.2.1 _ _ h5 (ninS (fun q => ?_) nin0), h6, r⟩
  subst q
  obtain ⟨cell2, k2, g1, -, -, g2, -⟩ := E
  cases h5.symm.trans g1
  rw [h6] at g2; cases g2
theorem GoW.retD (X : Stand p l e R s m args below meth c T locs cells slots) (hx : p.tables.exec = Jvm.exec) {pc : Nat} {Ls : Array Slot} {z : UInt64} {rest : List Value} (hret : meth.sig.returnType = some .double)
    (hd : decode c.code pc = .ok (.dreturn, 1)) (hlk : meth.locks = false) (hq : Q (some (.double z)) T.heap locs) (hk : cells ≤ k) (hn : slots ≤ n) : GoW p e below s Q k n (T.setTop (mkF m pc Ls (.double z :: rest))) := by
  obtain ⟨fs, hr, hrun, hended, hW, hsame⟩ := X.leave (v := some (.double z)) (fun h => by rw [hret] at h; cases h) hlk
  exact ⟨_, _, retOut X hx hret rfl (Or.inr (Or.inr (Or.inl ⟨rfl, rfl, z, rfl⟩))) hd hr, hrun, hended, _, _, rfl, hq, ⟨_, rfl⟩, hW, hsame.mono hk hn⟩
theorem own_pop2L {tb : Tables} [Ours tb] {e : Env} {below : List Frame} {T target : State} {m : MethodId} {c : Code} {g : JFrame} (h : At T m c below) (hx : tb.exec = Jvm.exec) (hg : g.method = m) {x : Int64} {rest : List Value} (hd : decode c.code g.pc = .ok (.pop2, 1)) (hs : g.stack = .long x :: rest)
    (hr : Steps tb e below (T.setTop { g with pc := g.pc + 1, stack := rest }) target) : Steps tb e below (T.setTop g) target := by
  subst hg
  jvm_step h [h.top, hx, hd, hs, Value.category]
  exact hr
end New
end Jvm.RoadKit
namespace Jvm.Pilot.@@N@@
open Jvm Jvm.ClassFile Sem Op Lib Jvm.Free Jvm.Stand Jvm.LawKit Jvm.RoadKit Bundle Jvm.Pilot.@@N@@.Jvm.D
theorem ww {Z : State} {a0 : Array Value} (hw : ∀ d ∈ tables_1, d.before a0 Z = true) (i : Nat) {d : Jvm.Cond} (h : tables_1[i]? = some d) : d.before a0 Z = true := hw _ (List.mem_of_getElem? h)
theorem pn_com_example_spindle_spindle_SpinRuleCountWaitPinLaw : plainName "com/example/spindle/spindle/SpinRuleCountWaitPinLaw" = true := by first | (simp [plainName, overriddenIn]; done) | decide +kernel
abbrev Sh0 (p0 : Int32) (p1 : Int64) : Array Slot := #[.val (.int p0), .val (.long p1), .second, .unset, .unset, .unset, .unset, .unset, .unset, .unset, .unset, .unset, .unset, .unset, .unset]
abbrev Sh1 (p0 : Int32) (p1 : Int64) (p2 : Int32) : Array Slot := #[.val (.int p0), .val (.long p1), .second, .val (.int p2), .unset, .unset, .unset, .unset, .unset, .unset, .unset, .unset, .unset, .unset, .unset]
abbrev Sh2 (p0 : Int32) (p1 : Int64) (p2 : Int32) (p3 : Int32) : Array Slot := #[.val (.int p0), .val (.long p1), .second, .val (.int p2), .val (.int p3), .unset, .unset, .unset, .unset, .unset, .unset, .unset, .unset, .unset, .unset]
abbrev Sh3 (p0 : Int32) (p1 : Int64) (p2 : Int32) (p3 : Int32) (p4 : Int32) : Array Slot := #[.val (.int p0), .val (.long p1), .second, .val (.int p2), .val (.int p3), .val (.int p4), .unset, .unset, .unset, .unset, .unset, .unset, .unset, .unset, .unset]
abbrev Sh4 (p0 : Int32) (p1 : Int64) (p2 : Int32) (p3 : Int32) (p4 : Int32) (p5 : Int32) : Array Slot := #[.val (.int p0), .val (.long p1), .second, .val (.int p2), .val (.int p3), .val (.int p4), .val (.int p5), .unset, .unset, .unset, .unset, .unset, .unset, .unset, .unset]
abbrev Sh5 (p0 : Int32) (p1 : Int64) (p2 : Int32) (p3 : Int32) (p4 : Int32) (p5 : Int32) (p6 : Int64) : Array Slot := #[.val (.int p0), .val (.long p1), .second, .val (.int p2), .val (.int p3), .val (.int p4), .val (.int p5), .val (.long p6), .second, .unset, .unset, .unset, .unset, .unset, .unset]
theorem pn_com_example_spindle_spindle_SpinRule : plainName "com/example/spindle/spindle/SpinRule" = true := by first | (simp [plainName, overriddenIn]; done) | decide +kernel
theorem d1_0 : decode prog_40_method_1_code 0 = .ok (.aload_n 0, 1) := by decide +kernel
theorem d1_1 : decode prog_40_method_1_code 1 = .ok (.invokespecial 1, 3) := by decide +kernel
theorem d1_4 : decode prog_40_method_1_code 4 = .ok (.aload_n 0, 1) := by decide +kernel
theorem d1_5 : decode prog_40_method_1_code 5 = .ok (.dconst 1, 1) := by decide +kernel
theorem d1_6 : decode prog_40_method_1_code 6 = .ok (.putfield 7, 3) := by decide +kernel
theorem d1_9 : decode prog_40_method_1_code 9 = .ok (.return_, 1) := by decide +kernel
theorem pd_2829V : parseMethodDescriptor "()V" = some ⟨[], none⟩ := by decide +kernel
abbrev Sh6 (p0 : Int32) (p1 : Int64) (p2 : Int32) (p3 : Int32) (p4 : Int32) (p5 : Int32) (p6 : Int64) (p7 : Addr) : Array Slot := #[.val (.int p0), .val (.long p1), .second, .val (.int p2), .val (.int p3), .val (.int p4), .val (.int p5), .val (.long p6), .second, .val (.ref p7), .unset, .unset, .unset, .unset, .unset]
theorem d3_0 : decode prog_40_method_2_code 0 = .ok (.aload_n 0, 1) := by decide +kernel
theorem d3_1 : decode prog_40_method_2_code 1 = .ok (.iconst 1, 1) := by decide +kernel
theorem d3_2 : decode prog_40_method_2_code 2 = .ok (.putfield 13, 3) := by decide +kernel
theorem d3_5 : decode prog_40_method_2_code 5 = .ok (.return_, 1) := by decide +kernel
abbrev Sh7 (p0 : Addr) (p1 : Int64) : Array Slot := #[.val (.ref p0), .val (.long p1), .second]
theorem d4_0 : decode prog_40_method_3_code 0 = .ok (.aload_n 0, 1) := by decide +kernel
theorem d4_1 : decode prog_40_method_3_code 1 = .ok (.aload_n 0, 1) := by decide +kernel
theorem d4_2 : decode prog_40_method_3_code 2 = .ok (.getfield 13, 3) := by decide +kernel
theorem d4_5 : decode prog_40_method_3_code 5 = .ok (.putfield 17, 3) := by decide +kernel
theorem d4_8 : decode prog_40_method_3_code 8 = .ok (.aload_n 0, 1) := by decide +kernel
theorem d4_9 : decode prog_40_method_3_code 9 = .ok (.iconst 0, 1) := by decide +kernel
theorem d4_10 : decode prog_40_method_3_code 10 = .ok (.putfield 13, 3) := by decide +kernel
theorem d4_13 : decode prog_40_method_3_code 13 = .ok (.lload_n 1, 1) := by decide +kernel
theorem d4_14 : decode prog_40_method_3_code 14 = .ok (.ldc2_w 20, 3) := by decide +kernel
theorem d4_17 : decode prog_40_method_3_code 17 = .ok (.lcmp, 1) := by decide +kernel
theorem d4_18 : decode prog_40_method_3_code 18 = .ok (.ifCond .gt 5, 3) := by decide +kernel
theorem d4_23 : decode prog_40_method_3_code 23 = .ok (.aload_n 0, 1) := by decide +kernel
theorem d4_24 : decode prog_40_method_3_code 24 = .ok (.getfield 17, 3) := by decide +kernel
theorem d4_27 : decode prog_40_method_3_code 27 = .ok (.ifCond .eq 20, 3) := by decide +kernel
theorem d4_30 : decode prog_40_method_3_code 30 = .ok (.aload_n 0, 1) := by decide +kernel
theorem d4_31 : decode prog_40_method_3_code 31 = .ok (.getfield 7, 3) := by decide +kernel
theorem d4_34 : decode prog_40_method_3_code 34 = .ok (.ldc2_w 22, 3) := by decide +kernel
theorem d4_37 : decode prog_40_method_3_code 37 = .ok (.dcmp .l, 1) := by decide +kernel
theorem d4_38 : decode prog_40_method_3_code 38 = .ok (.ifCond .lt 9, 3) := by decide +kernel
theorem d4_41 : decode prog_40_method_3_code 41 = .ok (.ldc2_w 20, 3) := by decide +kernel
theorem d4_44 : decode prog_40_method_3_code 44 = .ok (.goto 4, 3) := by decide +kernel
theorem d4_48 : decode prog_40_method_3_code 48 = .ok (.lreturn, 1) := by decide +kernel
theorem pd_28J29J : parseMethodDescriptor "(J)J" = some ⟨[.long], some .long⟩ := by decide +kernel
theorem d5_0 : decode method_3_code 0 = .ok (.aload_n 0, 1) := by decide +kernel
theorem d5_1 : decode method_3_code 1 = .ok (.iconst 0, 1) := by decide +kernel
theorem d5_2 : decode method_3_code 2 = .ok (.iconst 0, 1) := by decide +kernel
theorem d5_3 : decode method_3_code 3 = .ok (.ldc2_w 31, 3) := by decide +kernel
abbrev Sh8 (p0 : Addr) (p1 : Int32) (p2 : Int32) (p3 : Int64) : Array Slot := #[.val (.ref p0), .val (.int p1), .val (.int p2), .val (.long p3), .second, .unset]
theorem d6_0 : decode prog_40_method_5_code 0 = .ok (.aload_n 0, 1) := by decide +kernel
theorem d6_1 : decode prog_40_method_5_code 1 = .ok (.getfield 17, 3) := by decide +kernel
theorem d6_4 : decode prog_40_method_5_code 4 = .ok (.ifCond .eq 15, 3) := by decide +kernel
theorem d6_7 : decode prog_40_method_5_code 7 = .ok (.iload_n 1, 1) := by decide +kernel
theorem d6_8 : decode prog_40_method_5_code 8 = .ok (.ifCond .ne 12, 3) := by decide +kernel
theorem d6_11 : decode prog_40_method_5_code 11 = .ok (.lload_n 3, 1) := by decide +kernel
theorem d6_12 : decode prog_40_method_5_code 12 = .ok (.ldc2_w 20, 3) := by decide +kernel
theorem d6_15 : decode prog_40_method_5_code 15 = .ok (.lcmp, 1) := by decide +kernel
theorem d6_16 : decode prog_40_method_5_code 16 = .ok (.ifCond .ge 4, 3) := by decide +kernel
theorem d6_20 : decode prog_40_method_5_code 20 = .ok (.iload_n 1, 1) := by decide +kernel
theorem d6_21 : decode prog_40_method_5_code 21 = .ok (.ifCond .eq 19, 3) := by decide +kernel
theorem d6_40 : decode prog_40_method_5_code 40 = .ok (.iconst 0, 1) := by decide +kernel
theorem d6_41 : decode prog_40_method_5_code 41 = .ok (.istore 5, 2) := by decide +kernel
abbrev Sh9 (p0 : Addr) (p1 : Int32) (p2 : Int32) (p3 : Int64) (p4 : Int32) : Array Slot := #[.val (.ref p0), .val (.int p1), .val (.int p2), .val (.long p3), .second, .val (.int p4)]
theorem d6_43 : decode prog_40_method_5_code 43 = .ok (.aload_n 0, 1) := by decide +kernel
theorem d6_44 : decode prog_40_method_5_code 44 = .ok (.dup, 1) := by decide +kernel
theorem d6_45 : decode prog_40_method_5_code 45 = .ok (.getfield 7, 3) := by decide +kernel
theorem d6_48 : decode prog_40_method_5_code 48 = .ok (.iload 5, 2) := by decide +kernel
theorem d6_50 : decode prog_40_method_5_code 50 = .ok (.ifCond .eq 7, 3) := by decide +kernel
theorem d6_57 : decode prog_40_method_5_code 57 = .ok (.iconst 0, 1) := by decide +kernel
theorem d6_58 : decode prog_40_method_5_code 58 = .ok (.i2d, 1) := by decide +kernel
theorem d6_59 : decode prog_40_method_5_code 59 = .ok (.aload_n 0, 1) := by decide +kernel
theorem d6_60 : decode prog_40_method_5_code 60 = .ok (.getfield 7, 3) := by decide +kernel
theorem d6_63 : decode prog_40_method_5_code 63 = .ok (.dsub, 1) := by decide +kernel
theorem d6_64 : decode prog_40_method_5_code 64 = .ok (.ldc2_w 24, 3) := by decide +kernel
theorem d6_67 : decode prog_40_method_5_code 67 = .ok (.dmul, 1) := by decide +kernel
theorem d6_68 : decode prog_40_method_5_code 68 = .ok (.dadd, 1) := by decide +kernel
theorem d6_69 : decode prog_40_method_5_code 69 = .ok (.putfield 7, 3) := by decide +kernel
theorem d6_72 : decode prog_40_method_5_code 72 = .ok (.return_, 1) := by decide +kernel
theorem pd_28ZZJ29V : parseMethodDescriptor "(ZZJ)V" = some ⟨[.boolean, .boolean, .long], none⟩ := by decide +kernel
theorem d5_6 : decode method_3_code 6 = .ok (.invokevirtual 33, 3) := by decide +kernel
theorem d5_9 : decode method_3_code 9 = .ok (.aload_n 0, 1) := by decide +kernel
theorem d5_10 : decode method_3_code 10 = .ok (.iconst 0, 1) := by decide +kernel
theorem d5_11 : decode method_3_code 11 = .ok (.iconst 0, 1) := by decide +kernel
theorem d5_12 : decode method_3_code 12 = .ok (.ldc2_w 31, 3) := by decide +kernel
theorem d5_15 : decode method_3_code 15 = .ok (.invokevirtual 33, 3) := by decide +kernel
theorem d5_18 : decode method_3_code 18 = .ok (.aload_n 0, 1) := by decide +kernel
theorem d5_19 : decode method_3_code 19 = .ok (.iconst 0, 1) := by decide +kernel
theorem d5_20 : decode method_3_code 20 = .ok (.iconst 0, 1) := by decide +kernel
theorem d5_21 : decode method_3_code 21 = .ok (.ldc2_w 31, 3) := by decide +kernel
theorem d5_24 : decode method_3_code 24 = .ok (.invokevirtual 33, 3) := by decide +kernel
theorem d5_27 : decode method_3_code 27 = .ok (.aload_n 0, 1) := by decide +kernel
theorem d5_28 : decode method_3_code 28 = .ok (.iconst 0, 1) := by decide +kernel
theorem d5_29 : decode method_3_code 29 = .ok (.iconst 0, 1) := by decide +kernel
theorem d5_30 : decode method_3_code 30 = .ok (.ldc2_w 31, 3) := by decide +kernel
theorem d5_33 : decode method_3_code 33 = .ok (.invokevirtual 33, 3) := by decide +kernel
theorem d5_36 : decode method_3_code 36 = .ok (.aload_n 0, 1) := by decide +kernel
theorem d5_37 : decode method_3_code 37 = .ok (.iconst 0, 1) := by decide +kernel
theorem d5_38 : decode method_3_code 38 = .ok (.iconst 0, 1) := by decide +kernel
theorem d5_39 : decode method_3_code 39 = .ok (.ldc2_w 31, 3) := by decide +kernel
theorem d5_42 : decode method_3_code 42 = .ok (.invokevirtual 33, 3) := by decide +kernel
theorem d5_45 : decode method_3_code 45 = .ok (.aload_n 0, 1) := by decide +kernel
theorem d5_46 : decode method_3_code 46 = .ok (.iconst 0, 1) := by decide +kernel
theorem d5_47 : decode method_3_code 47 = .ok (.iconst 0, 1) := by decide +kernel
theorem d5_48 : decode method_3_code 48 = .ok (.ldc2_w 31, 3) := by decide +kernel
theorem d5_51 : decode method_3_code 51 = .ok (.invokevirtual 33, 3) := by decide +kernel
theorem d5_54 : decode method_3_code 54 = .ok (.aload_n 0, 1) := by decide +kernel
theorem d5_55 : decode method_3_code 55 = .ok (.iconst 0, 1) := by decide +kernel
theorem d5_56 : decode method_3_code 56 = .ok (.iconst 0, 1) := by decide +kernel
theorem d5_57 : decode method_3_code 57 = .ok (.ldc2_w 31, 3) := by decide +kernel
theorem d5_60 : decode method_3_code 60 = .ok (.invokevirtual 33, 3) := by decide +kernel
theorem d5_63 : decode method_3_code 63 = .ok (.aload_n 0, 1) := by decide +kernel
theorem d5_64 : decode method_3_code 64 = .ok (.iconst 0, 1) := by decide +kernel
theorem d5_65 : decode method_3_code 65 = .ok (.iconst 0, 1) := by decide +kernel
theorem d5_66 : decode method_3_code 66 = .ok (.ldc2_w 31, 3) := by decide +kernel
theorem d5_69 : decode method_3_code 69 = .ok (.invokevirtual 33, 3) := by decide +kernel
theorem d5_72 : decode method_3_code 72 = .ok (.aload_n 0, 1) := by decide +kernel
theorem d5_73 : decode method_3_code 73 = .ok (.iconst 0, 1) := by decide +kernel
theorem d5_74 : decode method_3_code 74 = .ok (.iconst 0, 1) := by decide +kernel
theorem d5_75 : decode method_3_code 75 = .ok (.ldc2_w 31, 3) := by decide +kernel
theorem d5_78 : decode method_3_code 78 = .ok (.invokevirtual 33, 3) := by decide +kernel
theorem d5_81 : decode method_3_code 81 = .ok (.aload_n 0, 1) := by decide +kernel
theorem d5_82 : decode method_3_code 82 = .ok (.iconst 0, 1) := by decide +kernel
theorem d5_83 : decode method_3_code 83 = .ok (.iconst 0, 1) := by decide +kernel
theorem d5_84 : decode method_3_code 84 = .ok (.ldc2_w 31, 3) := by decide +kernel
theorem d5_87 : decode method_3_code 87 = .ok (.invokevirtual 33, 3) := by decide +kernel
theorem d5_90 : decode method_3_code 90 = .ok (.return_, 1) := by decide +kernel
theorem pd_28Lcom2fexample2fspindle2fspindle2fSpinRule3b29V : parseMethodDescriptor "(Lcom/example/spindle/spindle/SpinRule;)V" = some ⟨[(.object "com/example/spindle/spindle/SpinRule")], none⟩ := by decide +kernel
theorem d4_47 : decode prog_40_method_3_code 47 = .ok (.lconst 0, 1) := by decide +kernel
theorem d6_19 : decode prog_40_method_5_code 19 = .ok (.return_, 1) := by decide +kernel
abbrev Sh10 (p0 : Int32) (p1 : Int64) (p2 : Int32) (p3 : Int32) (p4 : Int32) (p5 : Int32) (p6 : Int64) (p7 : Addr) (p8 : Int64) : Array Slot := #[.val (.int p0), .val (.long p1), .second, .val (.int p2), .val (.int p3), .val (.int p4), .val (.int p5), .val (.long p6), .second, .val (.ref p7), .val (.long p8), .second, .unset, .unset, .unset]
abbrev Sh11 (p0 : Int32) (p1 : Int64) (p2 : Int32) (p3 : Int32) (p4 : Int32) (p5 : Int32) (p6 : Int64) (p7 : Addr) (p8 : Int64) (p9 : Int32) : Array Slot := #[.val (.int p0), .val (.long p1), .second, .val (.int p2), .val (.int p3), .val (.int p4), .val (.int p5), .val (.long p6), .second, .val (.ref p7), .val (.long p8), .second, .val (.int p9), .unset, .unset]
abbrev Sh12 (p0 : Int32) (p1 : Int64) (p2 : Int32) (p3 : Int32) (p4 : Int32) (p5 : Int32) (p6 : Int64) (p7 : Addr) (p8 : Int64) (p9 : Int32) (p10 : Int32) : Array Slot := #[.val (.int p0), .val (.long p1), .second, .val (.int p2), .val (.int p3), .val (.int p4), .val (.int p5), .val (.long p6), .second, .val (.ref p7), .val (.long p8), .second, .val (.int p9), .val (.int p10), .unset]
abbrev Sh13 (p0 : Int32) (p1 : Int64) (p2 : Int32) (p3 : Int32) (p4 : Int32) (p5 : Int32) (p6 : Int64) (p7 : Addr) (p8 : Int64) (p9 : Int32) (p10 : Int32) (p11 : Int32) : Array Slot := #[.val (.int p0), .val (.long p1), .second, .val (.int p2), .val (.int p3), .val (.int p4), .val (.int p5), .val (.long p6), .second, .val (.ref p7), .val (.long p8), .second, .val (.int p9), .val (.int p10), .val (.int p11)]
theorem d6_24 : decode prog_40_method_5_code 24 = .ok (.iload_n 2, 1) := by decide +kernel
theorem d6_25 : decode prog_40_method_5_code 25 = .ok (.ifCond .eq 15, 3) := by decide +kernel
theorem d6_28 : decode prog_40_method_5_code 28 = .ok (.lload_n 3, 1) := by decide +kernel
theorem d6_29 : decode prog_40_method_5_code 29 = .ok (.ldc2_w 20, 3) := by decide +kernel
theorem d6_32 : decode prog_40_method_5_code 32 = .ok (.lcmp, 1) := by decide +kernel
theorem d6_33 : decode prog_40_method_5_code 33 = .ok (.ifCond .ge 7, 3) := by decide +kernel
theorem d6_36 : decode prog_40_method_5_code 36 = .ok (.iconst 1, 1) := by decide +kernel
theorem d6_37 : decode prog_40_method_5_code 37 = .ok (.goto 4, 3) := by decide +kernel
theorem d6_53 : decode prog_40_method_5_code 53 = .ok (.iconst 1, 1) := by decide +kernel
theorem d6_54 : decode prog_40_method_5_code 54 = .ok (.goto 4, 3) := by decide +kernel
theorem own_01 {b : Int32} {p : Prop} [Decidable p] (h : b = if p then (0 : Int32) else (1 : Int32)) : b = 0 ∨ b = 1 := by
  rw [h]; split
  · exact Or.inl rfl
  · exact Or.inr rfl
def Q1_1 (Z : State) (a1 : Addr) (h0 : Heap) (n0 : Nat) (v : Option Value) (h : Heap) (L : List Loc) : Prop := v = none ∧ Fr n0 L ∧ (Keep h0 h [a1]) ∧ (Exa Z h a1 "com/example/spindle/spindle/SpinRule") ∧ (Fld Z h a1 "com/example/spindle/spindle/SpinRule" "answeredShare" "D" (.double (4607182418800017408 : UInt64))) ∧ (Fld Z h a1 "com/example/spindle/spindle/SpinRule" "handedOn" "Z" (.int (0 : Int32))) ∧ (Fld Z h a1 "com/example/spindle/spindle/SpinRule" "awaitsAnswer" "Z" (.int (0 : Int32)))
theorem ef1_rm1_1 (m : MethodId) (a1 : Addr) : entryFrame m #[(.ref a1)] 1 = (mkF m 0 #[.val (.ref a1)] []) := by first | (simp [entryFrame, mkF, argsToLocals, Value.category, maxLocals]; done) | rfl
set_option maxRecDepth 65536 in
set_option maxHeartbeats 40000000 in
theorem rm1_1 (l : Launch) (Z : State) (a0 : Array Value) (hw : ∀ d ∈ tables_1, d.before a0 Z = true) (ws : List Jvm.Cond) (a1 : Addr)  (h0 : Heap) (n0 : Nat) (P0 : Exa Z h0 a1 "com/example/spindle/spindle/SpinRule") (P1 : Fld Z h0 a1 "com/example/spindle/spindle/SpinRule" "answeredShare" "D" (.double (0 : UInt64))) (P2 : Fld Z h0 a1 "com/example/spindle/spindle/SpinRule" "handedOn" "Z" (.int (0 : Int32))) (P3 : Fld Z h0 a1 "com/example/spindle/spindle/SpinRule" "awaitsAnswer" "Z" (.int (0 : Int32))) (g_a1 : n0 ≤ a1)    :
    MetFree l (⟨"com/example/spindle/spindle/SpinRule", "<init>", "()V"⟩ : MethodName) (head1 (Jvm.Cond.code (⟨"com/example/spindle/spindle/SpinRule", "<init>", "()V"⟩ : MethodName) prog_40_method_1_code 1 none :: ws) ({ frames := 1, cells := 0, slots := 0, locals := 12 } : Room)) (fun a U => a = #[(.ref a1)] ∧ Z.Warmed39 U.vm ∧ U.heap = h0) (fun _ _ _ _ _ => True) (fun _ U o U' => ∃ v L, o = .returned v ∧ (Q1_1 Z a1 h0 n0) v U'.heap L ∧ FrameEnd U o U' L 0 0) := by
  refine MetFree.of_bodySF (plainFor_of_name pn_com_example_spindle_spindle_SpinRule) hisR ?_
  intro p e s m args below meth c s₁ Bd hml0 hP hK
  obtain ⟨rfl, hZ, hh⟩ := hP
  have hx := Bd.exec
  have hby := Bd.bytes
  have hml : c.maxLocals = 1 := hml0
  have hown : s.vm.findClass "com/example/spindle/spindle/SpinRule" = some m.cls := findClass_of_methodNamed Bd.named
  have hnm := (name_of_methodNamed Bd.named Bd.method).1
  have X0 : Stand p l e ({ frames := 1, cells := 0, slots := 0, locals := 12 } : Room) s m #[(.ref a1)] below meth c s₁ [] 0 0 := Stand.of_body Bd
  have e0 : s₁.heap = h0 := by rw [← hh, Bd.state]; rfl
  have N0 := Fr.nil n0
  refine GoW.mk ?_
  refine GoW.st (fun t k => castTop (ef1_rm1_1 m a1) k) ?_
  show GoW p e below s (Q1_1 Z a1 h0 n0) 0 0 (s₁.setTop (mkF m 0 #[.val (.ref a1)] []))
  refine GoW.sg (mkF m 1 #[.val (.ref a1)] [(.ref a1)]) (fun t k => XS.aloadN X0.here hx rfl (hb hby d1_0) rfl rfl k) ?_
  obtain ⟨T24, X24, e24, st24⟩ := initO X0 hx hZ hown (ww hw 8 rfl) (ww hw 9 rfl) (ww hw 10 rfl) e0 (g := (mkF m 1 #[.val (.ref a1)] [(.ref a1)])) rfl (by rw [hml]; rfl) rfl (hb hby d1_1) (by decide) (W := 0) (by show 2 * 0 + _ ≤ _; exact Nat.le_of_eq rfl) (by decide)
  refine GoW.sg (mkF m 4 #[.val (.ref a1)] []) (fun t k => st24 t k) ?_
  refine GoW.sg (mkF m 5 #[.val (.ref a1)] [(.ref a1)]) (fun t k => XS.aloadN X24.here hx rfl (hb hby d1_4) rfl rfl k) ?_
  refine GoW.sg (mkF m 6 #[.val (.ref a1)] [(.double 4607182418800017408), (.ref a1)]) (fun t k => XS.dconst1 X24.here hx rfl (hb hby d1_5) (by decide +kernel : FP.dconst1 = (4607182418800017408 : UInt64)) k) ?_
  obtain ⟨T25, h25, X25, e25, W25, st25⟩ := putF X24 hx hZ hown (host := "") (Or.inl (ww hw 11 rfl)) Via.refl e24 P1 P0 (Or.inl (ww hw 12 rfl)) (ww hw 3 rfl) (ty := .double) (by decide) rfl rfl (g := (mkF m 6 #[.val (.ref a1)] [(.double 4607182418800017408), (.ref a1)])) rfl rfl (hb hby d1_6)
  have N25 := Fr.snoc X25 N0 g_a1
  have Exa_a1_25 : Exa Z h25 a1 "com/example/spindle/spindle/SpinRule" := P0.wr W25
  have Fld_a1_handedOn_25 : Fld Z h25 a1 "com/example/spindle/spindle/SpinRule" "handedOn" "Z" (.int (0 : Int32)) := P2.other W25 (Or.inr (slot_ne (t := .boolean) (t' := .double) (Or.inl (ww hw 19 rfl)) (Or.inl (ww hw 12 rfl)) (by decide) (by decide) (by decide)))
  have Fld_a1_awaitsAnswer_25 : Fld Z h25 a1 "com/example/spindle/spindle/SpinRule" "awaitsAnswer" "Z" (.int (0 : Int32)) := P3.other W25 (Or.inr (slot_ne (t := .boolean) (t' := .double) (Or.inl (ww hw 27 rfl)) (Or.inl (ww hw 12 rfl)) (by decide) (by decide) (by decide)))
  have Keep_25 : Keep h0 h25 [a1] := (Keep.refl h0 [a1]).wr W25 (Or.inl (List.mem_of_getElem? (i := 0) rfl))
  have Fld_a1_answeredShare_25 : Fld Z h25 a1 "com/example/spindle/spindle/SpinRule" "answeredShare" "D" (.double (4607182418800017408 : UInt64)) := P1.same W25
  refine GoW.sg (mkF m 9 #[.val (.ref a1)] []) (fun t k => st25 t k) ?_
  refine GoW.retV X25 hx Bd.returns (hb hby d1_9) Bd.notSynchronized ?_ (by decide) (by decide)
  rw [e25]
  exact ⟨rfl, N25, Keep_25, Exa_a1_25, Fld_a1_answeredShare_25, Fld_a1_handedOn_25, Fld_a1_awaitsAnswer_25⟩
def Q3_2 (Z : State) (a1 : Addr) (h0 : Heap) (n0 : Nat) (v : Option Value) (h : Heap) (L : List Loc) : Prop := v = none ∧ Fr n0 L ∧ (Keep h0 h [a1]) ∧ (Exa Z h a1 "com/example/spindle/spindle/SpinRule") ∧ (Fld Z h a1 "com/example/spindle/spindle/SpinRule" "answeredShare" "D" (.double (4607182418800017408 : UInt64))) ∧ (Fld Z h a1 "com/example/spindle/spindle/SpinRule" "handedOn" "Z" (.int (1 : Int32))) ∧ (Fld Z h a1 "com/example/spindle/spindle/SpinRule" "awaitsAnswer" "Z" (.int (0 : Int32)))
theorem ef3_rm3_2 (m : MethodId) (a1 : Addr) : entryFrame m #[(.ref a1)] 1 = (mkF m 0 #[.val (.ref a1)] []) := by first | (simp [entryFrame, mkF, argsToLocals, Value.category, maxLocals]; done) | rfl
set_option maxRecDepth 65536 in
set_option maxHeartbeats 40000000 in
theorem rm3_2 (l : Launch) (Z : State) (a0 : Array Value) (hw : ∀ d ∈ tables_1, d.before a0 Z = true) (ws : List Jvm.Cond) (a1 : Addr)  (h0 : Heap) (n0 : Nat) (P0 : Exa Z h0 a1 "com/example/spindle/spindle/SpinRule") (P1 : Fld Z h0 a1 "com/example/spindle/spindle/SpinRule" "answeredShare" "D" (.double (4607182418800017408 : UInt64))) (P2 : Fld Z h0 a1 "com/example/spindle/spindle/SpinRule" "handedOn" "Z" (.int (0 : Int32))) (P3 : Fld Z h0 a1 "com/example/spindle/spindle/SpinRule" "awaitsAnswer" "Z" (.int (0 : Int32))) (g_a1 : n0 ≤ a1)    :
    MetFree l (⟨"com/example/spindle/spindle/SpinRule", "handedOn", "()V"⟩ : MethodName) (head1 (Jvm.Cond.code (⟨"com/example/spindle/spindle/SpinRule", "handedOn", "()V"⟩ : MethodName) prog_40_method_2_code 1 none :: ws) ({ frames := 0, cells := 0, slots := 0, locals := 0 } : Room)) (fun a U => a = #[(.ref a1)] ∧ Z.Warmed39 U.vm ∧ U.heap = h0) (fun _ _ _ _ _ => True) (fun _ U o U' => ∃ v L, o = .returned v ∧ (Q3_2 Z a1 h0 n0) v U'.heap L ∧ FrameEnd U o U' L 0 0) := by
  refine MetFree.of_bodySF (plainFor_of_name pn_com_example_spindle_spindle_SpinRule) hisR ?_
  intro p e s m args below meth c s₁ Bd hml0 hP hK
  obtain ⟨rfl, hZ, hh⟩ := hP
  have hx := Bd.exec
  have hby := Bd.bytes
  have hml : c.maxLocals = 1 := hml0
  have hown : s.vm.findClass "com/example/spindle/spindle/SpinRule" = some m.cls := findClass_of_methodNamed Bd.named
  have hnm := (name_of_methodNamed Bd.named Bd.method).1
  have X0 : Stand p l e ({ frames := 0, cells := 0, slots := 0, locals := 0 } : Room) s m #[(.ref a1)] below meth c s₁ [] 0 0 := Stand.of_body Bd
  have e0 : s₁.heap = h0 := by rw [← hh, Bd.state]; rfl
  have N0 := Fr.nil n0
  refine GoW.mk ?_
  refine GoW.st (fun t k => castTop (ef3_rm3_2 m a1) k) ?_
  show GoW p e below s (Q3_2 Z a1 h0 n0) 0 0 (s₁.setTop (mkF m 0 #[.val (.ref a1)] []))
  refine GoW.sg (mkF m 1 #[.val (.ref a1)] [(.ref a1)]) (fun t k => XS.aloadN X0.here hx rfl (hb hby d3_0) rfl rfl k) ?_
  refine GoW.sg (mkF m 2 #[.val (.ref a1)] [(.int 1), (.ref a1)]) (fun t k => XS.iconst X0.here hx rfl (hb hby d3_1) k) ?_
  obtain ⟨T28, h28, X28, e28, W28, st28⟩ := putF X0 hx hZ hown (host := "") (Or.inl (ww hw 18 rfl)) Via.refl e0 P2 P0 (Or.inl (ww hw 19 rfl)) (ww hw 3 rfl) (ty := .boolean) (by decide) rfl rfl (g := (mkF m 2 #[.val (.ref a1)] [(.int 1), (.ref a1)])) rfl rfl (hb hby d3_2)
  have N28 := Fr.snoc X28 N0 g_a1
  have Exa_a1_28 : Exa Z h28 a1 "com/example/spindle/spindle/SpinRule" := P0.wr W28
  have Fld_a1_answeredShare_28 : Fld Z h28 a1 "com/example/spindle/spindle/SpinRule" "answeredShare" "D" (.double (4607182418800017408 : UInt64)) := P1.other W28 (Or.inr (slot_ne (t := .double) (t' := .boolean) (Or.inl (ww hw 12 rfl)) (Or.inl (ww hw 19 rfl)) (by decide) (by decide) (by decide)))
  have Fld_a1_awaitsAnswer_28 : Fld Z h28 a1 "com/example/spindle/spindle/SpinRule" "awaitsAnswer" "Z" (.int (0 : Int32)) := P3.other W28 (Or.inr (slot_ne (t := .boolean) (t' := .boolean) (Or.inl (ww hw 27 rfl)) (Or.inl (ww hw 19 rfl)) (by decide) (by decide) (by decide)))
  have Keep_28 : Keep h0 h28 [a1] := (Keep.refl h0 [a1]).wr W28 (Or.inl (List.mem_of_getElem? (i := 0) rfl))
  have Fld_a1_handedOn_28 : Fld Z h28 a1 "com/example/spindle/spindle/SpinRule" "handedOn" "Z" (.int (1 : Int32)) := P2.same W28
  refine GoW.sg (mkF m 5 #[.val (.ref a1)] []) (fun t k => st28 t k) ?_
  refine GoW.retV X28 hx Bd.returns (hb hby d3_5) Bd.notSynchronized ?_ (by decide) (by decide)
  rw [e28]
  exact ⟨rfl, N28, Keep_28, Exa_a1_28, Fld_a1_answeredShare_28, Fld_a1_handedOn_28, Fld_a1_awaitsAnswer_28⟩
def Q4_3 (Z : State) (a1 : Addr) (h0 : Heap) (n0 : Nat) (v : Option Value) (h : Heap) (L : List Loc) : Prop := v = some (.long (20000 : Int64)) ∧ Fr n0 L ∧ (Keep h0 h [a1]) ∧ (Exa Z h a1 "com/example/spindle/spindle/SpinRule") ∧ (Fld Z h a1 "com/example/spindle/spindle/SpinRule" "answeredShare" "D" (.double (4607182418800017408 : UInt64))) ∧ (Fld Z h a1 "com/example/spindle/spindle/SpinRule" "handedOn" "Z" (.int (0 : Int32))) ∧ (Fld Z h a1 "com/example/spindle/spindle/SpinRule" "awaitsAnswer" "Z" (.int (1 : Int32)))
theorem ef4_rm4_3 (m : MethodId) (a1 : Addr) : entryFrame m #[(.ref a1), (.long (9223372036854775807 : Int64))] 3 = (mkF m 0 #[.val (.ref a1), .val (.long 9223372036854775807), .second] []) := by first | (simp [entryFrame, mkF, argsToLocals, Value.category, maxLocals]; done) | rfl
set_option maxRecDepth 65536 in
set_option maxHeartbeats 40000000 in
theorem rm4_3 (l : Launch) (Z : State) (a0 : Array Value) (hw : ∀ d ∈ tables_1, d.before a0 Z = true) (ws : List Jvm.Cond) (a1 : Addr)  (h0 : Heap) (n0 : Nat) (P0 : Exa Z h0 a1 "com/example/spindle/spindle/SpinRule") (P1 : Fld Z h0 a1 "com/example/spindle/spindle/SpinRule" "answeredShare" "D" (.double (4607182418800017408 : UInt64))) (P2 : Fld Z h0 a1 "com/example/spindle/spindle/SpinRule" "handedOn" "Z" (.int (1 : Int32))) (P3 : Fld Z h0 a1 "com/example/spindle/spindle/SpinRule" "awaitsAnswer" "Z" (.int (0 : Int32))) (g_a1 : n0 ≤ a1)    :
    MetFree l (⟨"com/example/spindle/spindle/SpinRule", "spinNanos", "(J)J"⟩ : MethodName) (head1 (Jvm.Cond.code (⟨"com/example/spindle/spindle/SpinRule", "spinNanos", "(J)J"⟩ : MethodName) prog_40_method_3_code 3 (some .long) :: ws) ({ frames := 0, cells := 0, slots := 0, locals := 0 } : Room)) (fun a U => a = #[(.ref a1), (.long (9223372036854775807 : Int64))] ∧ Z.Warmed39 U.vm ∧ U.heap = h0) (fun _ _ _ _ _ => True) (fun _ U o U' => ∃ v L, o = .returned v ∧ (Q4_3 Z a1 h0 n0) v U'.heap L ∧ FrameEnd U o U' L 0 0) := by
  refine MetFree.of_bodySF (plainFor_of_name pn_com_example_spindle_spindle_SpinRule) hisR ?_
  intro p e s m args below meth c s₁ Bd hml0 hP hK
  obtain ⟨rfl, hZ, hh⟩ := hP
  have hx := Bd.exec
  have hby := Bd.bytes
  have hml : c.maxLocals = 3 := hml0
  have hown : s.vm.findClass "com/example/spindle/spindle/SpinRule" = some m.cls := findClass_of_methodNamed Bd.named
  have hnm := (name_of_methodNamed Bd.named Bd.method).1
  have X0 : Stand p l e ({ frames := 0, cells := 0, slots := 0, locals := 0 } : Room) s m #[(.ref a1), (.long (9223372036854775807 : Int64))] below meth c s₁ [] 0 0 := Stand.of_body Bd
  have e0 : s₁.heap = h0 := by rw [← hh, Bd.state]; rfl
  have N0 := Fr.nil n0
  refine GoW.mk ?_
  refine GoW.st (fun t k => castTop (ef4_rm4_3 m a1) k) ?_
  show GoW p e below s (Q4_3 Z a1 h0 n0) 0 0 (s₁.setTop (mkF m 0 (Sh7 a1 9223372036854775807) []))
  refine GoW.sg (mkF m 1 (Sh7 a1 9223372036854775807) [(.ref a1)]) (fun t k => XS.aloadN X0.here hx rfl (hb hby d4_0) rfl rfl k) ?_
  refine GoW.sg (mkF m 2 (Sh7 a1 9223372036854775807) [(.ref a1), (.ref a1)]) (fun t k => XS.aloadN X0.here hx rfl (hb hby d4_1) rfl rfl k) ?_
  obtain ⟨T35, X35, e35, st35⟩ := getF X0 hx hZ hown (host := "") (Or.inl (ww hw 18 rfl)) Via.refl e0 P2 (g := (mkF m 2 (Sh7 a1 9223372036854775807) [(.ref a1), (.ref a1)])) rfl rfl (hb hby d4_2)
  refine GoW.sg (mkF m 5 (Sh7 a1 9223372036854775807) [(.int 1), (.ref a1)]) (fun t k => st35 t k) ?_
  obtain ⟨T36, h36, X36, e36, W36, st36⟩ := putF X35 hx hZ hown (host := "") (Or.inl (ww hw 26 rfl)) Via.refl e35 P3 P0 (Or.inl (ww hw 27 rfl)) (ww hw 3 rfl) (ty := .boolean) (by decide) rfl rfl (g := (mkF m 5 (Sh7 a1 9223372036854775807) [(.int 1), (.ref a1)])) rfl rfl (hb hby d4_5)
  have N36 := Fr.snoc X36 N0 g_a1
  have Exa_a1_36 : Exa Z h36 a1 "com/example/spindle/spindle/SpinRule" := P0.wr W36
  have Fld_a1_answeredShare_36 : Fld Z h36 a1 "com/example/spindle/spindle/SpinRule" "answeredShare" "D" (.double (4607182418800017408 : UInt64)) := P1.other W36 (Or.inr (slot_ne (t := .double) (t' := .boolean) (Or.inl (ww hw 12 rfl)) (Or.inl (ww hw 27 rfl)) (by decide) (by decide) (by decide)))
  have Fld_a1_handedOn_36 : Fld Z h36 a1 "com/example/spindle/spindle/SpinRule" "handedOn" "Z" (.int (1 : Int32)) := P2.other W36 (Or.inr (slot_ne (t := .boolean) (t' := .boolean) (Or.inl (ww hw 19 rfl)) (Or.inl (ww hw 27 rfl)) (by decide) (by decide) (by decide)))
  have Keep_36 : Keep h0 h36 [a1] := (Keep.refl h0 [a1]).wr W36 (Or.inl (List.mem_of_getElem? (i := 0) rfl))
  have Fld_a1_awaitsAnswer_36 : Fld Z h36 a1 "com/example/spindle/spindle/SpinRule" "awaitsAnswer" "Z" (.int (1 : Int32)) := P3.same W36
  refine GoW.sg (mkF m 8 (Sh7 a1 9223372036854775807) []) (fun t k => st36 t k) ?_
  refine GoW.sg (mkF m 9 (Sh7 a1 9223372036854775807) [(.ref a1)]) (fun t k => XS.aloadN X36.here hx rfl (hb hby d4_8) rfl rfl k) ?_
  refine GoW.sg (mkF m 10 (Sh7 a1 9223372036854775807) [(.int 0), (.ref a1)]) (fun t k => XS.iconst X36.here hx rfl (hb hby d4_9) k) ?_
  obtain ⟨T37, h37, X37, e37, W37, st37⟩ := putF X36 hx hZ hown (host := "") (Or.inl (ww hw 18 rfl)) Via.refl e36 Fld_a1_handedOn_36 Exa_a1_36 (Or.inl (ww hw 19 rfl)) (ww hw 3 rfl) (ty := .boolean) (by decide) rfl rfl (g := (mkF m 10 (Sh7 a1 9223372036854775807) [(.int 0), (.ref a1)])) rfl rfl (hb hby d4_10)
  have N37 := Fr.snoc X37 N36 g_a1
  have Exa_a1_37 : Exa Z h37 a1 "com/example/spindle/spindle/SpinRule" := Exa_a1_36.wr W37
  have Fld_a1_answeredShare_37 : Fld Z h37 a1 "com/example/spindle/spindle/SpinRule" "answeredShare" "D" (.double (4607182418800017408 : UInt64)) := Fld_a1_answeredShare_36.other W37 (Or.inr (slot_ne (t := .double) (t' := .boolean) (Or.inl (ww hw 12 rfl)) (Or.inl (ww hw 19 rfl)) (by decide) (by decide) (by decide)))
  have Fld_a1_awaitsAnswer_37 : Fld Z h37 a1 "com/example/spindle/spindle/SpinRule" "awaitsAnswer" "Z" (.int (1 : Int32)) := Fld_a1_awaitsAnswer_36.other W37 (Or.inr (slot_ne (t := .boolean) (t' := .boolean) (Or.inl (ww hw 27 rfl)) (Or.inl (ww hw 19 rfl)) (by decide) (by decide) (by decide)))
  have Keep_37 : Keep h0 h37 [a1] := Keep_36.wr W37 (Or.inl (List.mem_of_getElem? (i := 0) rfl))
  have Fld_a1_handedOn_37 : Fld Z h37 a1 "com/example/spindle/spindle/SpinRule" "handedOn" "Z" (.int (0 : Int32)) := Fld_a1_handedOn_36.same W37
  refine GoW.sg (mkF m 13 (Sh7 a1 9223372036854775807) []) (fun t k => st37 t k) ?_
  refine GoW.sg (mkF m 14 (Sh7 a1 9223372036854775807) [(.long 9223372036854775807)]) (fun t k => XS.lloadN X37.here hx rfl (hb hby d4_13) rfl k) ?_
  refine GoW.sg (mkF m 17 (Sh7 a1 9223372036854775807) [(.long 20000), (.long 9223372036854775807)]) (fun t k => X37.ldc2Long hx hown (mvT hZ (ww hw 28 rfl)) (g := (mkF m 14 (Sh7 a1 9223372036854775807) [(.long 9223372036854775807)])) rfl (hb hby d4_14) t k) ?_
  refine GoW.sg (mkF m 18 (Sh7 a1 9223372036854775807) [(.int (lcmpW (9223372036854775807 : Int64) (20000 : Int64)))]) (fun t k => XS.lcmp X37.here hx rfl (hb hby d4_17) rfl k) ?_
  refine GoW.sg (mkF m 23 (Sh7 a1 9223372036854775807) []) (fun t k => XS.ifYes X37.here hx rfl (pc0 := 18) (pc' := 23) rfl (hb hby d4_18) rfl (by decide) (by decide) (by decide) k) ?_
  refine GoW.sg (mkF m 24 (Sh7 a1 9223372036854775807) [(.ref a1)]) (fun t k => XS.aloadN X37.here hx rfl (hb hby d4_23) rfl rfl k) ?_
  obtain ⟨T38, X38, e38, st38⟩ := getF X37 hx hZ hown (host := "") (Or.inl (ww hw 26 rfl)) Via.refl e37 Fld_a1_awaitsAnswer_37 (g := (mkF m 24 (Sh7 a1 9223372036854775807) [(.ref a1)])) rfl rfl (hb hby d4_24)
  refine GoW.sg (mkF m 27 (Sh7 a1 9223372036854775807) [(.int 1)]) (fun t k => st38 t k) ?_
  refine GoW.sg (mkF m 30 (Sh7 a1 9223372036854775807) []) (fun t k => XS.ifNo X38.here hx rfl (hb hby d4_27) rfl (by decide) k) ?_
  refine GoW.sg (mkF m 31 (Sh7 a1 9223372036854775807) [(.ref a1)]) (fun t k => XS.aloadN X38.here hx rfl (hb hby d4_30) rfl rfl k) ?_
  obtain ⟨T39, X39, e39, st39⟩ := getF X38 hx hZ hown (host := "") (Or.inl (ww hw 11 rfl)) Via.refl e38 Fld_a1_answeredShare_37 (g := (mkF m 31 (Sh7 a1 9223372036854775807) [(.ref a1)])) rfl rfl (hb hby d4_31)
  refine GoW.sg (mkF m 34 (Sh7 a1 9223372036854775807) [(.double 4607182418800017408)]) (fun t k => st39 t k) ?_
  refine GoW.sg (mkF m 37 (Sh7 a1 9223372036854775807) [(.double 4598175219545276416), (.double 4607182418800017408)]) (fun t k => X39.ldc2DoubleC hx hown (mvT hZ (ww hw 29 rfl)) (g := (mkF m 34 (Sh7 a1 9223372036854775807) [(.double 4607182418800017408)])) rfl (hb hby d4_34) t k) ?_
  refine GoW.sg (mkF m 38 (Sh7 a1 9223372036854775807) [(.int 1)]) (fun t k => XS.dcmpS X39.here hx rfl (hb hby d4_37) rfl (v := (1 : Int32)) (by decide +kernel) k) ?_
  refine GoW.sg (mkF m 41 (Sh7 a1 9223372036854775807) []) (fun t k => XS.ifNo X39.here hx rfl (hb hby d4_38) rfl (by decide) k) ?_
  refine GoW.sg (mkF m 44 (Sh7 a1 9223372036854775807) [(.long 20000)]) (fun t k => X39.ldc2Long hx hown (mvT hZ (ww hw 28 rfl)) (g := (mkF m 41 (Sh7 a1 9223372036854775807) [])) rfl (hb hby d4_41) t k) ?_
  refine GoW.sg (mkF m 48 (Sh7 a1 9223372036854775807) [(.long 20000)]) (fun t k => XS.goto X39.here hx rfl (pc0 := 44) (pc' := 48) rfl (hb hby d4_44) (by decide) (by decide) k) ?_
  refine GoW.retL X39 hx Bd.returns (hb hby d4_48) Bd.notSynchronized ?_ (by decide) (by decide)
  rw [e39]
  exact ⟨rfl, N37, Keep_37, Exa_a1_37, Fld_a1_answeredShare_37, Fld_a1_handedOn_37, Fld_a1_awaitsAnswer_37⟩
def Q6_4 (Z : State) (a1 : Addr) (h0 : Heap) (n0 : Nat) (v : Option Value) (h : Heap) (L : List Loc) : Prop := v = none ∧ Fr n0 L ∧ (Keep h0 h [a1]) ∧ (Exa Z h a1 "com/example/spindle/spindle/SpinRule") ∧ (Fld Z h a1 "com/example/spindle/spindle/SpinRule" "answeredShare" "D" (.double (4606056518893174784 : UInt64))) ∧ (Fld Z h a1 "com/example/spindle/spindle/SpinRule" "handedOn" "Z" (.int (0 : Int32))) ∧ (Fld Z h a1 "com/example/spindle/spindle/SpinRule" "awaitsAnswer" "Z" (.int (1 : Int32)))
theorem ef6_rm6_4 (m : MethodId) (a1 : Addr) : entryFrame m #[(.ref a1), (.int (0 : Int32)), (.int (0 : Int32)), (.long (20000 : Int64))] 6 = (mkF m 0 #[.val (.ref a1), .val (.int 0), .val (.int 0), .val (.long 20000), .second, .unset] []) := by first | (simp [entryFrame, mkF, argsToLocals, Value.category, maxLocals]; done) | rfl
set_option maxRecDepth 65536 in
set_option maxHeartbeats 40000000 in
theorem rm6_4 (l : Launch) (Z : State) (a0 : Array Value) (hw : ∀ d ∈ tables_1, d.before a0 Z = true) (ws : List Jvm.Cond) (a1 : Addr)  (h0 : Heap) (n0 : Nat) (P0 : Exa Z h0 a1 "com/example/spindle/spindle/SpinRule") (P1 : Fld Z h0 a1 "com/example/spindle/spindle/SpinRule" "answeredShare" "D" (.double (4607182418800017408 : UInt64))) (P2 : Fld Z h0 a1 "com/example/spindle/spindle/SpinRule" "handedOn" "Z" (.int (0 : Int32))) (P3 : Fld Z h0 a1 "com/example/spindle/spindle/SpinRule" "awaitsAnswer" "Z" (.int (1 : Int32))) (g_a1 : n0 ≤ a1)    :
    MetFree l (⟨"com/example/spindle/spindle/SpinRule", "countWait", "(ZZJ)V"⟩ : MethodName) (head1 (Jvm.Cond.code (⟨"com/example/spindle/spindle/SpinRule", "countWait", "(ZZJ)V"⟩ : MethodName) prog_40_method_5_code 6 none :: ws) ({ frames := 0, cells := 0, slots := 0, locals := 0 } : Room)) (fun a U => a = #[(.ref a1), (.int (0 : Int32)), (.int (0 : Int32)), (.long (20000 : Int64))] ∧ Z.Warmed39 U.vm ∧ U.heap = h0) (fun _ _ _ _ _ => True) (fun _ U o U' => ∃ v L, o = .returned v ∧ (Q6_4 Z a1 h0 n0) v U'.heap L ∧ FrameEnd U o U' L 0 0) := by
  refine MetFree.of_bodySF (plainFor_of_name pn_com_example_spindle_spindle_SpinRule) hisR ?_
  intro p e s m args below meth c s₁ Bd hml0 hP hK
  obtain ⟨rfl, hZ, hh⟩ := hP
  have hx := Bd.exec
  have hby := Bd.bytes
  have hml : c.maxLocals = 6 := hml0
  have hown : s.vm.findClass "com/example/spindle/spindle/SpinRule" = some m.cls := findClass_of_methodNamed Bd.named
  have hnm := (name_of_methodNamed Bd.named Bd.method).1
  have X0 : Stand p l e ({ frames := 0, cells := 0, slots := 0, locals := 0 } : Room) s m #[(.ref a1), (.int (0 : Int32)), (.int (0 : Int32)), (.long (20000 : Int64))] below meth c s₁ [] 0 0 := Stand.of_body Bd
  have e0 : s₁.heap = h0 := by rw [← hh, Bd.state]; rfl
  have N0 := Fr.nil n0
  refine GoW.mk ?_
  refine GoW.st (fun t k => castTop (ef6_rm6_4 m a1) k) ?_
  show GoW p e below s (Q6_4 Z a1 h0 n0) 0 0 (s₁.setTop (mkF m 0 (Sh8 a1 0 0 20000) []))
  refine GoW.sg (mkF m 1 (Sh8 a1 0 0 20000) [(.ref a1)]) (fun t k => XS.aloadN X0.here hx rfl (hb hby d6_0) rfl rfl k) ?_
  obtain ⟨T45, X45, e45, st45⟩ := getF X0 hx hZ hown (host := "") (Or.inl (ww hw 26 rfl)) Via.refl e0 P3 (g := (mkF m 1 (Sh8 a1 0 0 20000) [(.ref a1)])) rfl rfl (hb hby d6_1)
  refine GoW.sg (mkF m 4 (Sh8 a1 0 0 20000) [(.int 1)]) (fun t k => st45 t k) ?_
  refine GoW.sg (mkF m 7 (Sh8 a1 0 0 20000) []) (fun t k => XS.ifNo X45.here hx rfl (hb hby d6_4) rfl (by decide) k) ?_
  refine GoW.sg (mkF m 8 (Sh8 a1 0 0 20000) [(.int 0)]) (fun t k => XS.iloadN X45.here hx rfl (hb hby d6_7) rfl k) ?_
  refine GoW.sg (mkF m 11 (Sh8 a1 0 0 20000) []) (fun t k => XS.ifNo X45.here hx rfl (hb hby d6_8) rfl (by decide) k) ?_
  refine GoW.sg (mkF m 12 (Sh8 a1 0 0 20000) [(.long 20000)]) (fun t k => XS.lloadN X45.here hx rfl (hb hby d6_11) rfl k) ?_
  refine GoW.sg (mkF m 15 (Sh8 a1 0 0 20000) [(.long 20000), (.long 20000)]) (fun t k => X45.ldc2Long hx hown (mvT hZ (ww hw 28 rfl)) (g := (mkF m 12 (Sh8 a1 0 0 20000) [(.long 20000)])) rfl (hb hby d6_12) t k) ?_
  refine GoW.sg (mkF m 16 (Sh8 a1 0 0 20000) [(.int (lcmpW (20000 : Int64) (20000 : Int64)))]) (fun t k => XS.lcmp X45.here hx rfl (hb hby d6_15) rfl k) ?_
  refine GoW.sg (mkF m 20 (Sh8 a1 0 0 20000) []) (fun t k => XS.ifYes X45.here hx rfl (pc0 := 16) (pc' := 20) rfl (hb hby d6_16) rfl (by decide) (by decide) (by decide) k) ?_
  refine GoW.sg (mkF m 21 (Sh8 a1 0 0 20000) [(.int 0)]) (fun t k => XS.iloadN X45.here hx rfl (hb hby d6_20) rfl k) ?_
  refine GoW.sg (mkF m 40 (Sh8 a1 0 0 20000) []) (fun t k => XS.ifYes X45.here hx rfl (pc0 := 21) (pc' := 40) rfl (hb hby d6_21) rfl (by decide) (by decide) (by decide) k) ?_
  refine GoW.sg (mkF m 41 (Sh8 a1 0 0 20000) [(.int 0)]) (fun t k => XS.iconst X45.here hx rfl (hb hby d6_40) k) ?_
  refine GoW.sg (mkF m 43 (Sh9 a1 0 0 20000 0) []) (fun t k => XS.istore X45.here hx rfl (hb hby d6_41) rfl (l' := (Sh9 a1 0 0 20000 0)) rfl k) ?_
  refine GoW.sg (mkF m 44 (Sh9 a1 0 0 20000 0) [(.ref a1)]) (fun t k => XS.aloadN X45.here hx rfl (hb hby d6_43) rfl rfl k) ?_
  refine GoW.sg (mkF m 45 (Sh9 a1 0 0 20000 0) [(.ref a1), (.ref a1)]) (fun t k => XS.dup X45.here hx rfl (hb hby d6_44) rfl rfl k) ?_
  obtain ⟨T46, X46, e46, st46⟩ := getF X45 hx hZ hown (host := "") (Or.inl (ww hw 11 rfl)) Via.refl e45 P1 (g := (mkF m 45 (Sh9 a1 0 0 20000 0) [(.ref a1), (.ref a1)])) rfl rfl (hb hby d6_45)
  refine GoW.sg (mkF m 48 (Sh9 a1 0 0 20000 0) [(.double 4607182418800017408), (.ref a1)]) (fun t k => st46 t k) ?_
  refine GoW.sg (mkF m 50 (Sh9 a1 0 0 20000 0) [(.int 0), (.double 4607182418800017408), (.ref a1)]) (fun t k => XS.iload X46.here hx rfl (hb hby d6_48) rfl k) ?_
  refine GoW.sg (mkF m 57 (Sh9 a1 0 0 20000 0) [(.double 4607182418800017408), (.ref a1)]) (fun t k => XS.ifYes X46.here hx rfl (pc0 := 50) (pc' := 57) rfl (hb hby d6_50) rfl (by decide) (by decide) (by decide) k) ?_
  refine GoW.sg (mkF m 58 (Sh9 a1 0 0 20000 0) [(.int 0), (.double 4607182418800017408), (.ref a1)]) (fun t k => XS.iconst X46.here hx rfl (hb hby d6_57) k) ?_
  refine GoW.sg (mkF m 59 (Sh9 a1 0 0 20000 0) [(.double 0), (.double 4607182418800017408), (.ref a1)]) (fun t k => XS.i2dS X46.here hx rfl (hb hby d6_58) rfl (v := (0 : UInt64)) (by decide +kernel) k) ?_
  refine GoW.sg (mkF m 60 (Sh9 a1 0 0 20000 0) [(.ref a1), (.double 0), (.double 4607182418800017408), (.ref a1)]) (fun t k => XS.aloadN X46.here hx rfl (hb hby d6_59) rfl rfl k) ?_
  obtain ⟨T47, X47, e47, st47⟩ := getF X46 hx hZ hown (host := "") (Or.inl (ww hw 11 rfl)) Via.refl e46 P1 (g := (mkF m 60 (Sh9 a1 0 0 20000 0) [(.ref a1), (.double 0), (.double 4607182418800017408), (.ref a1)])) rfl rfl (hb hby d6_60)
  refine GoW.sg (mkF m 63 (Sh9 a1 0 0 20000 0) [(.double 4607182418800017408), (.double 0), (.double 4607182418800017408), (.ref a1)]) (fun t k => st47 t k) ?_
  refine GoW.sg (mkF m 64 (Sh9 a1 0 0 20000 0) [(.double 13830554455654793216), (.double 4607182418800017408), (.ref a1)]) (fun t k => XS.dsubS X47.here hx rfl (hb hby d6_63) rfl (v := (13830554455654793216 : UInt64)) (by decide +kernel) (by decide +kernel) k) ?_
  refine GoW.sg (mkF m 67 (Sh9 a1 0 0 20000 0) [(.double 4593671619917905920), (.double 13830554455654793216), (.double 4607182418800017408), (.ref a1)]) (fun t k => X47.ldc2DoubleC hx hown (mvT hZ (ww hw 40 rfl)) (g := (mkF m 64 (Sh9 a1 0 0 20000 0) [(.double 13830554455654793216), (.double 4607182418800017408), (.ref a1)])) rfl (hb hby d6_64) t k) ?_
  refine GoW.sg (mkF m 68 (Sh9 a1 0 0 20000 0) [(.double 13817043656772681728), (.double 4607182418800017408), (.ref a1)]) (fun t k => XS.dmulS X47.here hx rfl (hb hby d6_67) rfl (v := (13817043656772681728 : UInt64)) (by decide +kernel) (by decide +kernel) k) ?_
  refine GoW.sg (mkF m 69 (Sh9 a1 0 0 20000 0) [(.double 4606056518893174784), (.ref a1)]) (fun t k => XS.daddS X47.here hx rfl (hb hby d6_68) rfl (v := (4606056518893174784 : UInt64)) (by decide +kernel) (by decide +kernel) k) ?_
  obtain ⟨T48, h48, X48, e48, W48, st48⟩ := putF X47 hx hZ hown (host := "") (Or.inl (ww hw 11 rfl)) Via.refl e47 P1 P0 (Or.inl (ww hw 12 rfl)) (ww hw 3 rfl) (ty := .double) (by decide) rfl rfl (g := (mkF m 69 (Sh9 a1 0 0 20000 0) [(.double 4606056518893174784), (.ref a1)])) rfl rfl (hb hby d6_69)
  have N48 := Fr.snoc X48 N0 g_a1
  have Exa_a1_48 : Exa Z h48 a1 "com/example/spindle/spindle/SpinRule" := P0.wr W48
  have Fld_a1_handedOn_48 : Fld Z h48 a1 "com/example/spindle/spindle/SpinRule" "handedOn" "Z" (.int (0 : Int32)) := P2.other W48 (Or.inr (slot_ne (t := .boolean) (t' := .double) (Or.inl (ww hw 19 rfl)) (Or.inl (ww hw 12 rfl)) (by decide) (by decide) (by decide)))
  have Fld_a1_awaitsAnswer_48 : Fld Z h48 a1 "com/example/spindle/spindle/SpinRule" "awaitsAnswer" "Z" (.int (1 : Int32)) := P3.other W48 (Or.inr (slot_ne (t := .boolean) (t' := .double) (Or.inl (ww hw 27 rfl)) (Or.inl (ww hw 12 rfl)) (by decide) (by decide) (by decide)))
  have Keep_48 : Keep h0 h48 [a1] := (Keep.refl h0 [a1]).wr W48 (Or.inl (List.mem_of_getElem? (i := 0) rfl))
  have Fld_a1_answeredShare_48 : Fld Z h48 a1 "com/example/spindle/spindle/SpinRule" "answeredShare" "D" (.double (4606056518893174784 : UInt64)) := P1.same W48
  refine GoW.sg (mkF m 72 (Sh9 a1 0 0 20000 0) []) (fun t k => st48 t k) ?_
  refine GoW.retV X48 hx Bd.returns (hb hby d6_72) Bd.notSynchronized ?_ (by decide) (by decide)
  rw [e48]
  exact ⟨rfl, N48, Keep_48, Exa_a1_48, Fld_a1_answeredShare_48, Fld_a1_handedOn_48, Fld_a1_awaitsAnswer_48⟩
def Q6_5 (Z : State) (a1 : Addr) (h0 : Heap) (n0 : Nat) (v : Option Value) (h : Heap) (L : List Loc) : Prop := v = none ∧ Fr n0 L ∧ (Keep h0 h [a1]) ∧ (Exa Z h a1 "com/example/spindle/spindle/SpinRule") ∧ (Fld Z h a1 "com/example/spindle/spindle/SpinRule" "answeredShare" "D" (.double (4605071356474687488 : UInt64))) ∧ (Fld Z h a1 "com/example/spindle/spindle/SpinRule" "handedOn" "Z" (.int (0 : Int32))) ∧ (Fld Z h a1 "com/example/spindle/spindle/SpinRule" "awaitsAnswer" "Z" (.int (1 : Int32)))
theorem ef6_rm6_5 (m : MethodId) (a1 : Addr) : entryFrame m #[(.ref a1), (.int (0 : Int32)), (.int (0 : Int32)), (.long (20000 : Int64))] 6 = (mkF m 0 #[.val (.ref a1), .val (.int 0), .val (.int 0), .val (.long 20000), .second, .unset] []) := by first | (simp [entryFrame, mkF, argsToLocals, Value.category, maxLocals]; done) | rfl
set_option maxRecDepth 65536 in
set_option maxHeartbeats 40000000 in
theorem rm6_5 (l : Launch) (Z : State) (a0 : Array Value) (hw : ∀ d ∈ tables_1, d.before a0 Z = true) (ws : List Jvm.Cond) (a1 : Addr)  (h0 : Heap) (n0 : Nat) (P0 : Exa Z h0 a1 "com/example/spindle/spindle/SpinRule") (P1 : Fld Z h0 a1 "com/example/spindle/spindle/SpinRule" "answeredShare" "D" (.double (4606056518893174784 : UInt64))) (P2 : Fld Z h0 a1 "com/example/spindle/spindle/SpinRule" "handedOn" "Z" (.int (0 : Int32))) (P3 : Fld Z h0 a1 "com/example/spindle/spindle/SpinRule" "awaitsAnswer" "Z" (.int (1 : Int32))) (g_a1 : n0 ≤ a1)    :
    MetFree l (⟨"com/example/spindle/spindle/SpinRule", "countWait", "(ZZJ)V"⟩ : MethodName) (head1 (Jvm.Cond.code (⟨"com/example/spindle/spindle/SpinRule", "countWait", "(ZZJ)V"⟩ : MethodName) prog_40_method_5_code 6 none :: ws) ({ frames := 0, cells := 0, slots := 0, locals := 0 } : Room)) (fun a U => a = #[(.ref a1), (.int (0 : Int32)), (.int (0 : Int32)), (.long (20000 : Int64))] ∧ Z.Warmed39 U.vm ∧ U.heap = h0) (fun _ _ _ _ _ => True) (fun _ U o U' => ∃ v L, o = .returned v ∧ (Q6_5 Z a1 h0 n0) v U'.heap L ∧ FrameEnd U o U' L 0 0) := by
  refine MetFree.of_bodySF (plainFor_of_name pn_com_example_spindle_spindle_SpinRule) hisR ?_
  intro p e s m args below meth c s₁ Bd hml0 hP hK
  obtain ⟨rfl, hZ, hh⟩ := hP
  have hx := Bd.exec
  have hby := Bd.bytes
  have hml : c.maxLocals = 6 := hml0
  have hown : s.vm.findClass "com/example/spindle/spindle/SpinRule" = some m.cls := findClass_of_methodNamed Bd.named
  have hnm := (name_of_methodNamed Bd.named Bd.method).1
  have X0 : Stand p l e ({ frames := 0, cells := 0, slots := 0, locals := 0 } : Room) s m #[(.ref a1), (.int (0 : Int32)), (.int (0 : Int32)), (.long (20000 : Int64))] below meth c s₁ [] 0 0 := Stand.of_body Bd
  have e0 : s₁.heap = h0 := by rw [← hh, Bd.state]; rfl
  have N0 := Fr.nil n0
  refine GoW.mk ?_
  refine GoW.st (fun t k => castTop (ef6_rm6_5 m a1) k) ?_
  show GoW p e below s (Q6_5 Z a1 h0 n0) 0 0 (s₁.setTop (mkF m 0 (Sh8 a1 0 0 20000) []))
  refine GoW.sg (mkF m 1 (Sh8 a1 0 0 20000) [(.ref a1)]) (fun t k => XS.aloadN X0.here hx rfl (hb hby d6_0) rfl rfl k) ?_
  obtain ⟨T54, X54, e54, st54⟩ := getF X0 hx hZ hown (host := "") (Or.inl (ww hw 26 rfl)) Via.refl e0 P3 (g := (mkF m 1 (Sh8 a1 0 0 20000) [(.ref a1)])) rfl rfl (hb hby d6_1)
  refine GoW.sg (mkF m 4 (Sh8 a1 0 0 20000) [(.int 1)]) (fun t k => st54 t k) ?_
  refine GoW.sg (mkF m 7 (Sh8 a1 0 0 20000) []) (fun t k => XS.ifNo X54.here hx rfl (hb hby d6_4) rfl (by decide) k) ?_
  refine GoW.sg (mkF m 8 (Sh8 a1 0 0 20000) [(.int 0)]) (fun t k => XS.iloadN X54.here hx rfl (hb hby d6_7) rfl k) ?_
  refine GoW.sg (mkF m 11 (Sh8 a1 0 0 20000) []) (fun t k => XS.ifNo X54.here hx rfl (hb hby d6_8) rfl (by decide) k) ?_
  refine GoW.sg (mkF m 12 (Sh8 a1 0 0 20000) [(.long 20000)]) (fun t k => XS.lloadN X54.here hx rfl (hb hby d6_11) rfl k) ?_
  refine GoW.sg (mkF m 15 (Sh8 a1 0 0 20000) [(.long 20000), (.long 20000)]) (fun t k => X54.ldc2Long hx hown (mvT hZ (ww hw 28 rfl)) (g := (mkF m 12 (Sh8 a1 0 0 20000) [(.long 20000)])) rfl (hb hby d6_12) t k) ?_
  refine GoW.sg (mkF m 16 (Sh8 a1 0 0 20000) [(.int (lcmpW (20000 : Int64) (20000 : Int64)))]) (fun t k => XS.lcmp X54.here hx rfl (hb hby d6_15) rfl k) ?_
  refine GoW.sg (mkF m 20 (Sh8 a1 0 0 20000) []) (fun t k => XS.ifYes X54.here hx rfl (pc0 := 16) (pc' := 20) rfl (hb hby d6_16) rfl (by decide) (by decide) (by decide) k) ?_
  refine GoW.sg (mkF m 21 (Sh8 a1 0 0 20000) [(.int 0)]) (fun t k => XS.iloadN X54.here hx rfl (hb hby d6_20) rfl k) ?_
  refine GoW.sg (mkF m 40 (Sh8 a1 0 0 20000) []) (fun t k => XS.ifYes X54.here hx rfl (pc0 := 21) (pc' := 40) rfl (hb hby d6_21) rfl (by decide) (by decide) (by decide) k) ?_
  refine GoW.sg (mkF m 41 (Sh8 a1 0 0 20000) [(.int 0)]) (fun t k => XS.iconst X54.here hx rfl (hb hby d6_40) k) ?_
  refine GoW.sg (mkF m 43 (Sh9 a1 0 0 20000 0) []) (fun t k => XS.istore X54.here hx rfl (hb hby d6_41) rfl (l' := (Sh9 a1 0 0 20000 0)) rfl k) ?_
  refine GoW.sg (mkF m 44 (Sh9 a1 0 0 20000 0) [(.ref a1)]) (fun t k => XS.aloadN X54.here hx rfl (hb hby d6_43) rfl rfl k) ?_
  refine GoW.sg (mkF m 45 (Sh9 a1 0 0 20000 0) [(.ref a1), (.ref a1)]) (fun t k => XS.dup X54.here hx rfl (hb hby d6_44) rfl rfl k) ?_
  obtain ⟨T55, X55, e55, st55⟩ := getF X54 hx hZ hown (host := "") (Or.inl (ww hw 11 rfl)) Via.refl e54 P1 (g := (mkF m 45 (Sh9 a1 0 0 20000 0) [(.ref a1), (.ref a1)])) rfl rfl (hb hby d6_45)
  refine GoW.sg (mkF m 48 (Sh9 a1 0 0 20000 0) [(.double 4606056518893174784), (.ref a1)]) (fun t k => st55 t k) ?_
  refine GoW.sg (mkF m 50 (Sh9 a1 0 0 20000 0) [(.int 0), (.double 4606056518893174784), (.ref a1)]) (fun t k => XS.iload X55.here hx rfl (hb hby d6_48) rfl k) ?_
  refine GoW.sg (mkF m 57 (Sh9 a1 0 0 20000 0) [(.double 4606056518893174784), (.ref a1)]) (fun t k => XS.ifYes X55.here hx rfl (pc0 := 50) (pc' := 57) rfl (hb hby d6_50) rfl (by decide) (by decide) (by decide) k) ?_
  refine GoW.sg (mkF m 58 (Sh9 a1 0 0 20000 0) [(.int 0), (.double 4606056518893174784), (.ref a1)]) (fun t k => XS.iconst X55.here hx rfl (hb hby d6_57) k) ?_
  refine GoW.sg (mkF m 59 (Sh9 a1 0 0 20000 0) [(.double 0), (.double 4606056518893174784), (.ref a1)]) (fun t k => XS.i2dS X55.here hx rfl (hb hby d6_58) rfl (v := (0 : UInt64)) (by decide +kernel) k) ?_
  refine GoW.sg (mkF m 60 (Sh9 a1 0 0 20000 0) [(.ref a1), (.double 0), (.double 4606056518893174784), (.ref a1)]) (fun t k => XS.aloadN X55.here hx rfl (hb hby d6_59) rfl rfl k) ?_
  obtain ⟨T56, X56, e56, st56⟩ := getF X55 hx hZ hown (host := "") (Or.inl (ww hw 11 rfl)) Via.refl e55 P1 (g := (mkF m 60 (Sh9 a1 0 0 20000 0) [(.ref a1), (.double 0), (.double 4606056518893174784), (.ref a1)])) rfl rfl (hb hby d6_60)
  refine GoW.sg (mkF m 63 (Sh9 a1 0 0 20000 0) [(.double 4606056518893174784), (.double 0), (.double 4606056518893174784), (.ref a1)]) (fun t k => st56 t k) ?_
  refine GoW.sg (mkF m 64 (Sh9 a1 0 0 20000 0) [(.double 13829428555747950592), (.double 4606056518893174784), (.ref a1)]) (fun t k => XS.dsubS X56.here hx rfl (hb hby d6_63) rfl (v := (13829428555747950592 : UInt64)) (by decide +kernel) (by decide +kernel) k) ?_
  refine GoW.sg (mkF m 67 (Sh9 a1 0 0 20000 0) [(.double 4593671619917905920), (.double 13829428555747950592), (.double 4606056518893174784), (.ref a1)]) (fun t k => X56.ldc2DoubleC hx hown (mvT hZ (ww hw 40 rfl)) (g := (mkF m 64 (Sh9 a1 0 0 20000 0) [(.double 13829428555747950592), (.double 4606056518893174784), (.ref a1)])) rfl (hb hby d6_64) t k) ?_
  refine GoW.sg (mkF m 68 (Sh9 a1 0 0 20000 0) [(.double 13815917756865839104), (.double 4606056518893174784), (.ref a1)]) (fun t k => XS.dmulS X56.here hx rfl (hb hby d6_67) rfl (v := (13815917756865839104 : UInt64)) (by decide +kernel) (by decide +kernel) k) ?_
  refine GoW.sg (mkF m 69 (Sh9 a1 0 0 20000 0) [(.double 4605071356474687488), (.ref a1)]) (fun t k => XS.daddS X56.here hx rfl (hb hby d6_68) rfl (v := (4605071356474687488 : UInt64)) (by decide +kernel) (by decide +kernel) k) ?_
  obtain ⟨T57, h57, X57, e57, W57, st57⟩ := putF X56 hx hZ hown (host := "") (Or.inl (ww hw 11 rfl)) Via.refl e56 P1 P0 (Or.inl (ww hw 12 rfl)) (ww hw 3 rfl) (ty := .double) (by decide) rfl rfl (g := (mkF m 69 (Sh9 a1 0 0 20000 0) [(.double 4605071356474687488), (.ref a1)])) rfl rfl (hb hby d6_69)
  have N57 := Fr.snoc X57 N0 g_a1
  have Exa_a1_57 : Exa Z h57 a1 "com/example/spindle/spindle/SpinRule" := P0.wr W57
  have Fld_a1_handedOn_57 : Fld Z h57 a1 "com/example/spindle/spindle/SpinRule" "handedOn" "Z" (.int (0 : Int32)) := P2.other W57 (Or.inr (slot_ne (t := .boolean) (t' := .double) (Or.inl (ww hw 19 rfl)) (Or.inl (ww hw 12 rfl)) (by decide) (by decide) (by decide)))
  have Fld_a1_awaitsAnswer_57 : Fld Z h57 a1 "com/example/spindle/spindle/SpinRule" "awaitsAnswer" "Z" (.int (1 : Int32)) := P3.other W57 (Or.inr (slot_ne (t := .boolean) (t' := .double) (Or.inl (ww hw 27 rfl)) (Or.inl (ww hw 12 rfl)) (by decide) (by decide) (by decide)))
  have Keep_57 : Keep h0 h57 [a1] := (Keep.refl h0 [a1]).wr W57 (Or.inl (List.mem_of_getElem? (i := 0) rfl))
  have Fld_a1_answeredShare_57 : Fld Z h57 a1 "com/example/spindle/spindle/SpinRule" "answeredShare" "D" (.double (4605071356474687488 : UInt64)) := P1.same W57
  refine GoW.sg (mkF m 72 (Sh9 a1 0 0 20000 0) []) (fun t k => st57 t k) ?_
  refine GoW.retV X57 hx Bd.returns (hb hby d6_72) Bd.notSynchronized ?_ (by decide) (by decide)
  rw [e57]
  exact ⟨rfl, N57, Keep_57, Exa_a1_57, Fld_a1_answeredShare_57, Fld_a1_handedOn_57, Fld_a1_awaitsAnswer_57⟩
def Q6_6 (Z : State) (a1 : Addr) (h0 : Heap) (n0 : Nat) (v : Option Value) (h : Heap) (L : List Loc) : Prop := v = none ∧ Fr n0 L ∧ (Keep h0 h [a1]) ∧ (Exa Z h a1 "com/example/spindle/spindle/SpinRule") ∧ (Fld Z h a1 "com/example/spindle/spindle/SpinRule" "answeredShare" "D" (.double (4604209339358511104 : UInt64))) ∧ (Fld Z h a1 "com/example/spindle/spindle/SpinRule" "handedOn" "Z" (.int (0 : Int32))) ∧ (Fld Z h a1 "com/example/spindle/spindle/SpinRule" "awaitsAnswer" "Z" (.int (1 : Int32)))
theorem ef6_rm6_6 (m : MethodId) (a1 : Addr) : entryFrame m #[(.ref a1), (.int (0 : Int32)), (.int (0 : Int32)), (.long (20000 : Int64))] 6 = (mkF m 0 #[.val (.ref a1), .val (.int 0), .val (.int 0), .val (.long 20000), .second, .unset] []) := by first | (simp [entryFrame, mkF, argsToLocals, Value.category, maxLocals]; done) | rfl
set_option maxRecDepth 65536 in
set_option maxHeartbeats 40000000 in
theorem rm6_6 (l : Launch) (Z : State) (a0 : Array Value) (hw : ∀ d ∈ tables_1, d.before a0 Z = true) (ws : List Jvm.Cond) (a1 : Addr)  (h0 : Heap) (n0 : Nat) (P0 : Exa Z h0 a1 "com/example/spindle/spindle/SpinRule") (P1 : Fld Z h0 a1 "com/example/spindle/spindle/SpinRule" "answeredShare" "D" (.double (4605071356474687488 : UInt64))) (P2 : Fld Z h0 a1 "com/example/spindle/spindle/SpinRule" "handedOn" "Z" (.int (0 : Int32))) (P3 : Fld Z h0 a1 "com/example/spindle/spindle/SpinRule" "awaitsAnswer" "Z" (.int (1 : Int32))) (g_a1 : n0 ≤ a1)    :
    MetFree l (⟨"com/example/spindle/spindle/SpinRule", "countWait", "(ZZJ)V"⟩ : MethodName) (head1 (Jvm.Cond.code (⟨"com/example/spindle/spindle/SpinRule", "countWait", "(ZZJ)V"⟩ : MethodName) prog_40_method_5_code 6 none :: ws) ({ frames := 0, cells := 0, slots := 0, locals := 0 } : Room)) (fun a U => a = #[(.ref a1), (.int (0 : Int32)), (.int (0 : Int32)), (.long (20000 : Int64))] ∧ Z.Warmed39 U.vm ∧ U.heap = h0) (fun _ _ _ _ _ => True) (fun _ U o U' => ∃ v L, o = .returned v ∧ (Q6_6 Z a1 h0 n0) v U'.heap L ∧ FrameEnd U o U' L 0 0) := by
  refine MetFree.of_bodySF (plainFor_of_name pn_com_example_spindle_spindle_SpinRule) hisR ?_
  intro p e s m args below meth c s₁ Bd hml0 hP hK
  obtain ⟨rfl, hZ, hh⟩ := hP
  have hx := Bd.exec
  have hby := Bd.bytes
  have hml : c.maxLocals = 6 := hml0
  have hown : s.vm.findClass "com/example/spindle/spindle/SpinRule" = some m.cls := findClass_of_methodNamed Bd.named
  have hnm := (name_of_methodNamed Bd.named Bd.method).1
  have X0 : Stand p l e ({ frames := 0, cells := 0, slots := 0, locals := 0 } : Room) s m #[(.ref a1), (.int (0 : Int32)), (.int (0 : Int32)), (.long (20000 : Int64))] below meth c s₁ [] 0 0 := Stand.of_body Bd
  have e0 : s₁.heap = h0 := by rw [← hh, Bd.state]; rfl
  have N0 := Fr.nil n0
  refine GoW.mk ?_
  refine GoW.st (fun t k => castTop (ef6_rm6_6 m a1) k) ?_
  show GoW p e below s (Q6_6 Z a1 h0 n0) 0 0 (s₁.setTop (mkF m 0 (Sh8 a1 0 0 20000) []))
  refine GoW.sg (mkF m 1 (Sh8 a1 0 0 20000) [(.ref a1)]) (fun t k => XS.aloadN X0.here hx rfl (hb hby d6_0) rfl rfl k) ?_
  obtain ⟨T63, X63, e63, st63⟩ := getF X0 hx hZ hown (host := "") (Or.inl (ww hw 26 rfl)) Via.refl e0 P3 (g := (mkF m 1 (Sh8 a1 0 0 20000) [(.ref a1)])) rfl rfl (hb hby d6_1)
  refine GoW.sg (mkF m 4 (Sh8 a1 0 0 20000) [(.int 1)]) (fun t k => st63 t k) ?_
  refine GoW.sg (mkF m 7 (Sh8 a1 0 0 20000) []) (fun t k => XS.ifNo X63.here hx rfl (hb hby d6_4) rfl (by decide) k) ?_
  refine GoW.sg (mkF m 8 (Sh8 a1 0 0 20000) [(.int 0)]) (fun t k => XS.iloadN X63.here hx rfl (hb hby d6_7) rfl k) ?_
  refine GoW.sg (mkF m 11 (Sh8 a1 0 0 20000) []) (fun t k => XS.ifNo X63.here hx rfl (hb hby d6_8) rfl (by decide) k) ?_
  refine GoW.sg (mkF m 12 (Sh8 a1 0 0 20000) [(.long 20000)]) (fun t k => XS.lloadN X63.here hx rfl (hb hby d6_11) rfl k) ?_
  refine GoW.sg (mkF m 15 (Sh8 a1 0 0 20000) [(.long 20000), (.long 20000)]) (fun t k => X63.ldc2Long hx hown (mvT hZ (ww hw 28 rfl)) (g := (mkF m 12 (Sh8 a1 0 0 20000) [(.long 20000)])) rfl (hb hby d6_12) t k) ?_
  refine GoW.sg (mkF m 16 (Sh8 a1 0 0 20000) [(.int (lcmpW (20000 : Int64) (20000 : Int64)))]) (fun t k => XS.lcmp X63.here hx rfl (hb hby d6_15) rfl k) ?_
  refine GoW.sg (mkF m 20 (Sh8 a1 0 0 20000) []) (fun t k => XS.ifYes X63.here hx rfl (pc0 := 16) (pc' := 20) rfl (hb hby d6_16) rfl (by decide) (by decide) (by decide) k) ?_
  refine GoW.sg (mkF m 21 (Sh8 a1 0 0 20000) [(.int 0)]) (fun t k => XS.iloadN X63.here hx rfl (hb hby d6_20) rfl k) ?_
  refine GoW.sg (mkF m 40 (Sh8 a1 0 0 20000) []) (fun t k => XS.ifYes X63.here hx rfl (pc0 := 21) (pc' := 40) rfl (hb hby d6_21) rfl (by decide) (by decide) (by decide) k) ?_
  refine GoW.sg (mkF m 41 (Sh8 a1 0 0 20000) [(.int 0)]) (fun t k => XS.iconst X63.here hx rfl (hb hby d6_40) k) ?_
  refine GoW.sg (mkF m 43 (Sh9 a1 0 0 20000 0) []) (fun t k => XS.istore X63.here hx rfl (hb hby d6_41) rfl (l' := (Sh9 a1 0 0 20000 0)) rfl k) ?_
  refine GoW.sg (mkF m 44 (Sh9 a1 0 0 20000 0) [(.ref a1)]) (fun t k => XS.aloadN X63.here hx rfl (hb hby d6_43) rfl rfl k) ?_
  refine GoW.sg (mkF m 45 (Sh9 a1 0 0 20000 0) [(.ref a1), (.ref a1)]) (fun t k => XS.dup X63.here hx rfl (hb hby d6_44) rfl rfl k) ?_
  obtain ⟨T64, X64, e64, st64⟩ := getF X63 hx hZ hown (host := "") (Or.inl (ww hw 11 rfl)) Via.refl e63 P1 (g := (mkF m 45 (Sh9 a1 0 0 20000 0) [(.ref a1), (.ref a1)])) rfl rfl (hb hby d6_45)
  refine GoW.sg (mkF m 48 (Sh9 a1 0 0 20000 0) [(.double 4605071356474687488), (.ref a1)]) (fun t k => st64 t k) ?_
  refine GoW.sg (mkF m 50 (Sh9 a1 0 0 20000 0) [(.int 0), (.double 4605071356474687488), (.ref a1)]) (fun t k => XS.iload X64.here hx rfl (hb hby d6_48) rfl k) ?_
  refine GoW.sg (mkF m 57 (Sh9 a1 0 0 20000 0) [(.double 4605071356474687488), (.ref a1)]) (fun t k => XS.ifYes X64.here hx rfl (pc0 := 50) (pc' := 57) rfl (hb hby d6_50) rfl (by decide) (by decide) (by decide) k) ?_
  refine GoW.sg (mkF m 58 (Sh9 a1 0 0 20000 0) [(.int 0), (.double 4605071356474687488), (.ref a1)]) (fun t k => XS.iconst X64.here hx rfl (hb hby d6_57) k) ?_
  refine GoW.sg (mkF m 59 (Sh9 a1 0 0 20000 0) [(.double 0), (.double 4605071356474687488), (.ref a1)]) (fun t k => XS.i2dS X64.here hx rfl (hb hby d6_58) rfl (v := (0 : UInt64)) (by decide +kernel) k) ?_
  refine GoW.sg (mkF m 60 (Sh9 a1 0 0 20000 0) [(.ref a1), (.double 0), (.double 4605071356474687488), (.ref a1)]) (fun t k => XS.aloadN X64.here hx rfl (hb hby d6_59) rfl rfl k) ?_
  obtain ⟨T65, X65, e65, st65⟩ := getF X64 hx hZ hown (host := "") (Or.inl (ww hw 11 rfl)) Via.refl e64 P1 (g := (mkF m 60 (Sh9 a1 0 0 20000 0) [(.ref a1), (.double 0), (.double 4605071356474687488), (.ref a1)])) rfl rfl (hb hby d6_60)
  refine GoW.sg (mkF m 63 (Sh9 a1 0 0 20000 0) [(.double 4605071356474687488), (.double 0), (.double 4605071356474687488), (.ref a1)]) (fun t k => st65 t k) ?_
  refine GoW.sg (mkF m 64 (Sh9 a1 0 0 20000 0) [(.double 13828443393329463296), (.double 4605071356474687488), (.ref a1)]) (fun t k => XS.dsubS X65.here hx rfl (hb hby d6_63) rfl (v := (13828443393329463296 : UInt64)) (by decide +kernel) (by decide +kernel) k) ?_
  refine GoW.sg (mkF m 67 (Sh9 a1 0 0 20000 0) [(.double 4593671619917905920), (.double 13828443393329463296), (.double 4605071356474687488), (.ref a1)]) (fun t k => X65.ldc2DoubleC hx hown (mvT hZ (ww hw 40 rfl)) (g := (mkF m 64 (Sh9 a1 0 0 20000 0) [(.double 13828443393329463296), (.double 4605071356474687488), (.ref a1)])) rfl (hb hby d6_64) t k) ?_
  refine GoW.sg (mkF m 68 (Sh9 a1 0 0 20000 0) [(.double 13814932594447351808), (.double 4605071356474687488), (.ref a1)]) (fun t k => XS.dmulS X65.here hx rfl (hb hby d6_67) rfl (v := (13814932594447351808 : UInt64)) (by decide +kernel) (by decide +kernel) k) ?_
  refine GoW.sg (mkF m 69 (Sh9 a1 0 0 20000 0) [(.double 4604209339358511104), (.ref a1)]) (fun t k => XS.daddS X65.here hx rfl (hb hby d6_68) rfl (v := (4604209339358511104 : UInt64)) (by decide +kernel) (by decide +kernel) k) ?_
  obtain ⟨T66, h66, X66, e66, W66, st66⟩ := putF X65 hx hZ hown (host := "") (Or.inl (ww hw 11 rfl)) Via.refl e65 P1 P0 (Or.inl (ww hw 12 rfl)) (ww hw 3 rfl) (ty := .double) (by decide) rfl rfl (g := (mkF m 69 (Sh9 a1 0 0 20000 0) [(.double 4604209339358511104), (.ref a1)])) rfl rfl (hb hby d6_69)
  have N66 := Fr.snoc X66 N0 g_a1
  have Exa_a1_66 : Exa Z h66 a1 "com/example/spindle/spindle/SpinRule" := P0.wr W66
  have Fld_a1_handedOn_66 : Fld Z h66 a1 "com/example/spindle/spindle/SpinRule" "handedOn" "Z" (.int (0 : Int32)) := P2.other W66 (Or.inr (slot_ne (t := .boolean) (t' := .double) (Or.inl (ww hw 19 rfl)) (Or.inl (ww hw 12 rfl)) (by decide) (by decide) (by decide)))
  have Fld_a1_awaitsAnswer_66 : Fld Z h66 a1 "com/example/spindle/spindle/SpinRule" "awaitsAnswer" "Z" (.int (1 : Int32)) := P3.other W66 (Or.inr (slot_ne (t := .boolean) (t' := .double) (Or.inl (ww hw 27 rfl)) (Or.inl (ww hw 12 rfl)) (by decide) (by decide) (by decide)))
  have Keep_66 : Keep h0 h66 [a1] := (Keep.refl h0 [a1]).wr W66 (Or.inl (List.mem_of_getElem? (i := 0) rfl))
  have Fld_a1_answeredShare_66 : Fld Z h66 a1 "com/example/spindle/spindle/SpinRule" "answeredShare" "D" (.double (4604209339358511104 : UInt64)) := P1.same W66
  refine GoW.sg (mkF m 72 (Sh9 a1 0 0 20000 0) []) (fun t k => st66 t k) ?_
  refine GoW.retV X66 hx Bd.returns (hb hby d6_72) Bd.notSynchronized ?_ (by decide) (by decide)
  rw [e66]
  exact ⟨rfl, N66, Keep_66, Exa_a1_66, Fld_a1_answeredShare_66, Fld_a1_handedOn_66, Fld_a1_awaitsAnswer_66⟩
def Q6_7 (Z : State) (a1 : Addr) (h0 : Heap) (n0 : Nat) (v : Option Value) (h : Heap) (L : List Loc) : Prop := v = none ∧ Fr n0 L ∧ (Keep h0 h [a1]) ∧ (Exa Z h a1 "com/example/spindle/spindle/SpinRule") ∧ (Fld Z h a1 "com/example/spindle/spindle/SpinRule" "answeredShare" "D" (.double (4603455074381856768 : UInt64))) ∧ (Fld Z h a1 "com/example/spindle/spindle/SpinRule" "handedOn" "Z" (.int (0 : Int32))) ∧ (Fld Z h a1 "com/example/spindle/spindle/SpinRule" "awaitsAnswer" "Z" (.int (1 : Int32)))
theorem ef6_rm6_7 (m : MethodId) (a1 : Addr) : entryFrame m #[(.ref a1), (.int (0 : Int32)), (.int (0 : Int32)), (.long (20000 : Int64))] 6 = (mkF m 0 #[.val (.ref a1), .val (.int 0), .val (.int 0), .val (.long 20000), .second, .unset] []) := by first | (simp [entryFrame, mkF, argsToLocals, Value.category, maxLocals]; done) | rfl
set_option maxRecDepth 65536 in
set_option maxHeartbeats 40000000 in
theorem rm6_7 (l : Launch) (Z : State) (a0 : Array Value) (hw : ∀ d ∈ tables_1, d.before a0 Z = true) (ws : List Jvm.Cond) (a1 : Addr)  (h0 : Heap) (n0 : Nat) (P0 : Exa Z h0 a1 "com/example/spindle/spindle/SpinRule") (P1 : Fld Z h0 a1 "com/example/spindle/spindle/SpinRule" "answeredShare" "D" (.double (4604209339358511104 : UInt64))) (P2 : Fld Z h0 a1 "com/example/spindle/spindle/SpinRule" "handedOn" "Z" (.int (0 : Int32))) (P3 : Fld Z h0 a1 "com/example/spindle/spindle/SpinRule" "awaitsAnswer" "Z" (.int (1 : Int32))) (g_a1 : n0 ≤ a1)    :
    MetFree l (⟨"com/example/spindle/spindle/SpinRule", "countWait", "(ZZJ)V"⟩ : MethodName) (head1 (Jvm.Cond.code (⟨"com/example/spindle/spindle/SpinRule", "countWait", "(ZZJ)V"⟩ : MethodName) prog_40_method_5_code 6 none :: ws) ({ frames := 0, cells := 0, slots := 0, locals := 0 } : Room)) (fun a U => a = #[(.ref a1), (.int (0 : Int32)), (.int (0 : Int32)), (.long (20000 : Int64))] ∧ Z.Warmed39 U.vm ∧ U.heap = h0) (fun _ _ _ _ _ => True) (fun _ U o U' => ∃ v L, o = .returned v ∧ (Q6_7 Z a1 h0 n0) v U'.heap L ∧ FrameEnd U o U' L 0 0) := by
  refine MetFree.of_bodySF (plainFor_of_name pn_com_example_spindle_spindle_SpinRule) hisR ?_
  intro p e s m args below meth c s₁ Bd hml0 hP hK
  obtain ⟨rfl, hZ, hh⟩ := hP
  have hx := Bd.exec
  have hby := Bd.bytes
  have hml : c.maxLocals = 6 := hml0
  have hown : s.vm.findClass "com/example/spindle/spindle/SpinRule" = some m.cls := findClass_of_methodNamed Bd.named
  have hnm := (name_of_methodNamed Bd.named Bd.method).1
  have X0 : Stand p l e ({ frames := 0, cells := 0, slots := 0, locals := 0 } : Room) s m #[(.ref a1), (.int (0 : Int32)), (.int (0 : Int32)), (.long (20000 : Int64))] below meth c s₁ [] 0 0 := Stand.of_body Bd
  have e0 : s₁.heap = h0 := by rw [← hh, Bd.state]; rfl
  have N0 := Fr.nil n0
  refine GoW.mk ?_
  refine GoW.st (fun t k => castTop (ef6_rm6_7 m a1) k) ?_
  show GoW p e below s (Q6_7 Z a1 h0 n0) 0 0 (s₁.setTop (mkF m 0 (Sh8 a1 0 0 20000) []))
  refine GoW.sg (mkF m 1 (Sh8 a1 0 0 20000) [(.ref a1)]) (fun t k => XS.aloadN X0.here hx rfl (hb hby d6_0) rfl rfl k) ?_
  obtain ⟨T72, X72, e72, st72⟩ := getF X0 hx hZ hown (host := "") (Or.inl (ww hw 26 rfl)) Via.refl e0 P3 (g := (mkF m 1 (Sh8 a1 0 0 20000) [(.ref a1)])) rfl rfl (hb hby d6_1)
  refine GoW.sg (mkF m 4 (Sh8 a1 0 0 20000) [(.int 1)]) (fun t k => st72 t k) ?_
  refine GoW.sg (mkF m 7 (Sh8 a1 0 0 20000) []) (fun t k => XS.ifNo X72.here hx rfl (hb hby d6_4) rfl (by decide) k) ?_
  refine GoW.sg (mkF m 8 (Sh8 a1 0 0 20000) [(.int 0)]) (fun t k => XS.iloadN X72.here hx rfl (hb hby d6_7) rfl k) ?_
  refine GoW.sg (mkF m 11 (Sh8 a1 0 0 20000) []) (fun t k => XS.ifNo X72.here hx rfl (hb hby d6_8) rfl (by decide) k) ?_
  refine GoW.sg (mkF m 12 (Sh8 a1 0 0 20000) [(.long 20000)]) (fun t k => XS.lloadN X72.here hx rfl (hb hby d6_11) rfl k) ?_
  refine GoW.sg (mkF m 15 (Sh8 a1 0 0 20000) [(.long 20000), (.long 20000)]) (fun t k => X72.ldc2Long hx hown (mvT hZ (ww hw 28 rfl)) (g := (mkF m 12 (Sh8 a1 0 0 20000) [(.long 20000)])) rfl (hb hby d6_12) t k) ?_
  refine GoW.sg (mkF m 16 (Sh8 a1 0 0 20000) [(.int (lcmpW (20000 : Int64) (20000 : Int64)))]) (fun t k => XS.lcmp X72.here hx rfl (hb hby d6_15) rfl k) ?_
  refine GoW.sg (mkF m 20 (Sh8 a1 0 0 20000) []) (fun t k => XS.ifYes X72.here hx rfl (pc0 := 16) (pc' := 20) rfl (hb hby d6_16) rfl (by decide) (by decide) (by decide) k) ?_
  refine GoW.sg (mkF m 21 (Sh8 a1 0 0 20000) [(.int 0)]) (fun t k => XS.iloadN X72.here hx rfl (hb hby d6_20) rfl k) ?_
  refine GoW.sg (mkF m 40 (Sh8 a1 0 0 20000) []) (fun t k => XS.ifYes X72.here hx rfl (pc0 := 21) (pc' := 40) rfl (hb hby d6_21) rfl (by decide) (by decide) (by decide) k) ?_
  refine GoW.sg (mkF m 41 (Sh8 a1 0 0 20000) [(.int 0)]) (fun t k => XS.iconst X72.here hx rfl (hb hby d6_40) k) ?_
  refine GoW.sg (mkF m 43 (Sh9 a1 0 0 20000 0) []) (fun t k => XS.istore X72.here hx rfl (hb hby d6_41) rfl (l' := (Sh9 a1 0 0 20000 0)) rfl k) ?_
  refine GoW.sg (mkF m 44 (Sh9 a1 0 0 20000 0) [(.ref a1)]) (fun t k => XS.aloadN X72.here hx rfl (hb hby d6_43) rfl rfl k) ?_
  refine GoW.sg (mkF m 45 (Sh9 a1 0 0 20000 0) [(.ref a1), (.ref a1)]) (fun t k => XS.dup X72.here hx rfl (hb hby d6_44) rfl rfl k) ?_
  obtain ⟨T73, X73, e73, st73⟩ := getF X72 hx hZ hown (host := "") (Or.inl (ww hw 11 rfl)) Via.refl e72 P1 (g := (mkF m 45 (Sh9 a1 0 0 20000 0) [(.ref a1), (.ref a1)])) rfl rfl (hb hby d6_45)
  refine GoW.sg (mkF m 48 (Sh9 a1 0 0 20000 0) [(.double 4604209339358511104), (.ref a1)]) (fun t k => st73 t k) ?_
  refine GoW.sg (mkF m 50 (Sh9 a1 0 0 20000 0) [(.int 0), (.double 4604209339358511104), (.ref a1)]) (fun t k => XS.iload X73.here hx rfl (hb hby d6_48) rfl k) ?_
  refine GoW.sg (mkF m 57 (Sh9 a1 0 0 20000 0) [(.double 4604209339358511104), (.ref a1)]) (fun t k => XS.ifYes X73.here hx rfl (pc0 := 50) (pc' := 57) rfl (hb hby d6_50) rfl (by decide) (by decide) (by decide) k) ?_
  refine GoW.sg (mkF m 58 (Sh9 a1 0 0 20000 0) [(.int 0), (.double 4604209339358511104), (.ref a1)]) (fun t k => XS.iconst X73.here hx rfl (hb hby d6_57) k) ?_
  refine GoW.sg (mkF m 59 (Sh9 a1 0 0 20000 0) [(.double 0), (.double 4604209339358511104), (.ref a1)]) (fun t k => XS.i2dS X73.here hx rfl (hb hby d6_58) rfl (v := (0 : UInt64)) (by decide +kernel) k) ?_
  refine GoW.sg (mkF m 60 (Sh9 a1 0 0 20000 0) [(.ref a1), (.double 0), (.double 4604209339358511104), (.ref a1)]) (fun t k => XS.aloadN X73.here hx rfl (hb hby d6_59) rfl rfl k) ?_
  obtain ⟨T74, X74, e74, st74⟩ := getF X73 hx hZ hown (host := "") (Or.inl (ww hw 11 rfl)) Via.refl e73 P1 (g := (mkF m 60 (Sh9 a1 0 0 20000 0) [(.ref a1), (.double 0), (.double 4604209339358511104), (.ref a1)])) rfl rfl (hb hby d6_60)
  refine GoW.sg (mkF m 63 (Sh9 a1 0 0 20000 0) [(.double 4604209339358511104), (.double 0), (.double 4604209339358511104), (.ref a1)]) (fun t k => st74 t k) ?_
  refine GoW.sg (mkF m 64 (Sh9 a1 0 0 20000 0) [(.double 13827581376213286912), (.double 4604209339358511104), (.ref a1)]) (fun t k => XS.dsubS X74.here hx rfl (hb hby d6_63) rfl (v := (13827581376213286912 : UInt64)) (by decide +kernel) (by decide +kernel) k) ?_
  refine GoW.sg (mkF m 67 (Sh9 a1 0 0 20000 0) [(.double 4593671619917905920), (.double 13827581376213286912), (.double 4604209339358511104), (.ref a1)]) (fun t k => X74.ldc2DoubleC hx hown (mvT hZ (ww hw 40 rfl)) (g := (mkF m 64 (Sh9 a1 0 0 20000 0) [(.double 13827581376213286912), (.double 4604209339358511104), (.ref a1)])) rfl (hb hby d6_64) t k) ?_
  refine GoW.sg (mkF m 68 (Sh9 a1 0 0 20000 0) [(.double 13814070577331175424), (.double 4604209339358511104), (.ref a1)]) (fun t k => XS.dmulS X74.here hx rfl (hb hby d6_67) rfl (v := (13814070577331175424 : UInt64)) (by decide +kernel) (by decide +kernel) k) ?_
  refine GoW.sg (mkF m 69 (Sh9 a1 0 0 20000 0) [(.double 4603455074381856768), (.ref a1)]) (fun t k => XS.daddS X74.here hx rfl (hb hby d6_68) rfl (v := (4603455074381856768 : UInt64)) (by decide +kernel) (by decide +kernel) k) ?_
  obtain ⟨T75, h75, X75, e75, W75, st75⟩ := putF X74 hx hZ hown (host := "") (Or.inl (ww hw 11 rfl)) Via.refl e74 P1 P0 (Or.inl (ww hw 12 rfl)) (ww hw 3 rfl) (ty := .double) (by decide) rfl rfl (g := (mkF m 69 (Sh9 a1 0 0 20000 0) [(.double 4603455074381856768), (.ref a1)])) rfl rfl (hb hby d6_69)
  have N75 := Fr.snoc X75 N0 g_a1
  have Exa_a1_75 : Exa Z h75 a1 "com/example/spindle/spindle/SpinRule" := P0.wr W75
  have Fld_a1_handedOn_75 : Fld Z h75 a1 "com/example/spindle/spindle/SpinRule" "handedOn" "Z" (.int (0 : Int32)) := P2.other W75 (Or.inr (slot_ne (t := .boolean) (t' := .double) (Or.inl (ww hw 19 rfl)) (Or.inl (ww hw 12 rfl)) (by decide) (by decide) (by decide)))
  have Fld_a1_awaitsAnswer_75 : Fld Z h75 a1 "com/example/spindle/spindle/SpinRule" "awaitsAnswer" "Z" (.int (1 : Int32)) := P3.other W75 (Or.inr (slot_ne (t := .boolean) (t' := .double) (Or.inl (ww hw 27 rfl)) (Or.inl (ww hw 12 rfl)) (by decide) (by decide) (by decide)))
  have Keep_75 : Keep h0 h75 [a1] := (Keep.refl h0 [a1]).wr W75 (Or.inl (List.mem_of_getElem? (i := 0) rfl))
  have Fld_a1_answeredShare_75 : Fld Z h75 a1 "com/example/spindle/spindle/SpinRule" "answeredShare" "D" (.double (4603455074381856768 : UInt64)) := P1.same W75
  refine GoW.sg (mkF m 72 (Sh9 a1 0 0 20000 0) []) (fun t k => st75 t k) ?_
  refine GoW.retV X75 hx Bd.returns (hb hby d6_72) Bd.notSynchronized ?_ (by decide) (by decide)
  rw [e75]
  exact ⟨rfl, N75, Keep_75, Exa_a1_75, Fld_a1_answeredShare_75, Fld_a1_handedOn_75, Fld_a1_awaitsAnswer_75⟩
def Q6_8 (Z : State) (a1 : Addr) (h0 : Heap) (n0 : Nat) (v : Option Value) (h : Heap) (L : List Loc) : Prop := v = none ∧ Fr n0 L ∧ (Keep h0 h [a1]) ∧ (Exa Z h a1 "com/example/spindle/spindle/SpinRule") ∧ (Fld Z h a1 "com/example/spindle/spindle/SpinRule" "answeredShare" "D" (.double (4602795092527284224 : UInt64))) ∧ (Fld Z h a1 "com/example/spindle/spindle/SpinRule" "handedOn" "Z" (.int (0 : Int32))) ∧ (Fld Z h a1 "com/example/spindle/spindle/SpinRule" "awaitsAnswer" "Z" (.int (1 : Int32)))
theorem ef6_rm6_8 (m : MethodId) (a1 : Addr) : entryFrame m #[(.ref a1), (.int (0 : Int32)), (.int (0 : Int32)), (.long (20000 : Int64))] 6 = (mkF m 0 #[.val (.ref a1), .val (.int 0), .val (.int 0), .val (.long 20000), .second, .unset] []) := by first | (simp [entryFrame, mkF, argsToLocals, Value.category, maxLocals]; done) | rfl
set_option maxRecDepth 65536 in
set_option maxHeartbeats 40000000 in
theorem rm6_8 (l : Launch) (Z : State) (a0 : Array Value) (hw : ∀ d ∈ tables_1, d.before a0 Z = true) (ws : List Jvm.Cond) (a1 : Addr)  (h0 : Heap) (n0 : Nat) (P0 : Exa Z h0 a1 "com/example/spindle/spindle/SpinRule") (P1 : Fld Z h0 a1 "com/example/spindle/spindle/SpinRule" "answeredShare" "D" (.double (4603455074381856768 : UInt64))) (P2 : Fld Z h0 a1 "com/example/spindle/spindle/SpinRule" "handedOn" "Z" (.int (0 : Int32))) (P3 : Fld Z h0 a1 "com/example/spindle/spindle/SpinRule" "awaitsAnswer" "Z" (.int (1 : Int32))) (g_a1 : n0 ≤ a1)    :
    MetFree l (⟨"com/example/spindle/spindle/SpinRule", "countWait", "(ZZJ)V"⟩ : MethodName) (head1 (Jvm.Cond.code (⟨"com/example/spindle/spindle/SpinRule", "countWait", "(ZZJ)V"⟩ : MethodName) prog_40_method_5_code 6 none :: ws) ({ frames := 0, cells := 0, slots := 0, locals := 0 } : Room)) (fun a U => a = #[(.ref a1), (.int (0 : Int32)), (.int (0 : Int32)), (.long (20000 : Int64))] ∧ Z.Warmed39 U.vm ∧ U.heap = h0) (fun _ _ _ _ _ => True) (fun _ U o U' => ∃ v L, o = .returned v ∧ (Q6_8 Z a1 h0 n0) v U'.heap L ∧ FrameEnd U o U' L 0 0) := by
  refine MetFree.of_bodySF (plainFor_of_name pn_com_example_spindle_spindle_SpinRule) hisR ?_
  intro p e s m args below meth c s₁ Bd hml0 hP hK
  obtain ⟨rfl, hZ, hh⟩ := hP
  have hx := Bd.exec
  have hby := Bd.bytes
  have hml : c.maxLocals = 6 := hml0
  have hown : s.vm.findClass "com/example/spindle/spindle/SpinRule" = some m.cls := findClass_of_methodNamed Bd.named
  have hnm := (name_of_methodNamed Bd.named Bd.method).1
  have X0 : Stand p l e ({ frames := 0, cells := 0, slots := 0, locals := 0 } : Room) s m #[(.ref a1), (.int (0 : Int32)), (.int (0 : Int32)), (.long (20000 : Int64))] below meth c s₁ [] 0 0 := Stand.of_body Bd
  have e0 : s₁.heap = h0 := by rw [← hh, Bd.state]; rfl
  have N0 := Fr.nil n0
  refine GoW.mk ?_
  refine GoW.st (fun t k => castTop (ef6_rm6_8 m a1) k) ?_
  show GoW p e below s (Q6_8 Z a1 h0 n0) 0 0 (s₁.setTop (mkF m 0 (Sh8 a1 0 0 20000) []))
  refine GoW.sg (mkF m 1 (Sh8 a1 0 0 20000) [(.ref a1)]) (fun t k => XS.aloadN X0.here hx rfl (hb hby d6_0) rfl rfl k) ?_
  obtain ⟨T81, X81, e81, st81⟩ := getF X0 hx hZ hown (host := "") (Or.inl (ww hw 26 rfl)) Via.refl e0 P3 (g := (mkF m 1 (Sh8 a1 0 0 20000) [(.ref a1)])) rfl rfl (hb hby d6_1)
  refine GoW.sg (mkF m 4 (Sh8 a1 0 0 20000) [(.int 1)]) (fun t k => st81 t k) ?_
  refine GoW.sg (mkF m 7 (Sh8 a1 0 0 20000) []) (fun t k => XS.ifNo X81.here hx rfl (hb hby d6_4) rfl (by decide) k) ?_
  refine GoW.sg (mkF m 8 (Sh8 a1 0 0 20000) [(.int 0)]) (fun t k => XS.iloadN X81.here hx rfl (hb hby d6_7) rfl k) ?_
  refine GoW.sg (mkF m 11 (Sh8 a1 0 0 20000) []) (fun t k => XS.ifNo X81.here hx rfl (hb hby d6_8) rfl (by decide) k) ?_
  refine GoW.sg (mkF m 12 (Sh8 a1 0 0 20000) [(.long 20000)]) (fun t k => XS.lloadN X81.here hx rfl (hb hby d6_11) rfl k) ?_
  refine GoW.sg (mkF m 15 (Sh8 a1 0 0 20000) [(.long 20000), (.long 20000)]) (fun t k => X81.ldc2Long hx hown (mvT hZ (ww hw 28 rfl)) (g := (mkF m 12 (Sh8 a1 0 0 20000) [(.long 20000)])) rfl (hb hby d6_12) t k) ?_
  refine GoW.sg (mkF m 16 (Sh8 a1 0 0 20000) [(.int (lcmpW (20000 : Int64) (20000 : Int64)))]) (fun t k => XS.lcmp X81.here hx rfl (hb hby d6_15) rfl k) ?_
  refine GoW.sg (mkF m 20 (Sh8 a1 0 0 20000) []) (fun t k => XS.ifYes X81.here hx rfl (pc0 := 16) (pc' := 20) rfl (hb hby d6_16) rfl (by decide) (by decide) (by decide) k) ?_
  refine GoW.sg (mkF m 21 (Sh8 a1 0 0 20000) [(.int 0)]) (fun t k => XS.iloadN X81.here hx rfl (hb hby d6_20) rfl k) ?_
  refine GoW.sg (mkF m 40 (Sh8 a1 0 0 20000) []) (fun t k => XS.ifYes X81.here hx rfl (pc0 := 21) (pc' := 40) rfl (hb hby d6_21) rfl (by decide) (by decide) (by decide) k) ?_
  refine GoW.sg (mkF m 41 (Sh8 a1 0 0 20000) [(.int 0)]) (fun t k => XS.iconst X81.here hx rfl (hb hby d6_40) k) ?_
  refine GoW.sg (mkF m 43 (Sh9 a1 0 0 20000 0) []) (fun t k => XS.istore X81.here hx rfl (hb hby d6_41) rfl (l' := (Sh9 a1 0 0 20000 0)) rfl k) ?_
  refine GoW.sg (mkF m 44 (Sh9 a1 0 0 20000 0) [(.ref a1)]) (fun t k => XS.aloadN X81.here hx rfl (hb hby d6_43) rfl rfl k) ?_
  refine GoW.sg (mkF m 45 (Sh9 a1 0 0 20000 0) [(.ref a1), (.ref a1)]) (fun t k => XS.dup X81.here hx rfl (hb hby d6_44) rfl rfl k) ?_
  obtain ⟨T82, X82, e82, st82⟩ := getF X81 hx hZ hown (host := "") (Or.inl (ww hw 11 rfl)) Via.refl e81 P1 (g := (mkF m 45 (Sh9 a1 0 0 20000 0) [(.ref a1), (.ref a1)])) rfl rfl (hb hby d6_45)
  refine GoW.sg (mkF m 48 (Sh9 a1 0 0 20000 0) [(.double 4603455074381856768), (.ref a1)]) (fun t k => st82 t k) ?_
  refine GoW.sg (mkF m 50 (Sh9 a1 0 0 20000 0) [(.int 0), (.double 4603455074381856768), (.ref a1)]) (fun t k => XS.iload X82.here hx rfl (hb hby d6_48) rfl k) ?_
  refine GoW.sg (mkF m 57 (Sh9 a1 0 0 20000 0) [(.double 4603455074381856768), (.ref a1)]) (fun t k => XS.ifYes X82.here hx rfl (pc0 := 50) (pc' := 57) rfl (hb hby d6_50) rfl (by decide) (by decide) (by decide) k) ?_
  refine GoW.sg (mkF m 58 (Sh9 a1 0 0 20000 0) [(.int 0), (.double 4603455074381856768), (.ref a1)]) (fun t k => XS.iconst X82.here hx rfl (hb hby d6_57) k) ?_
  refine GoW.sg (mkF m 59 (Sh9 a1 0 0 20000 0) [(.double 0), (.double 4603455074381856768), (.ref a1)]) (fun t k => XS.i2dS X82.here hx rfl (hb hby d6_58) rfl (v := (0 : UInt64)) (by decide +kernel) k) ?_
  refine GoW.sg (mkF m 60 (Sh9 a1 0 0 20000 0) [(.ref a1), (.double 0), (.double 4603455074381856768), (.ref a1)]) (fun t k => XS.aloadN X82.here hx rfl (hb hby d6_59) rfl rfl k) ?_
  obtain ⟨T83, X83, e83, st83⟩ := getF X82 hx hZ hown (host := "") (Or.inl (ww hw 11 rfl)) Via.refl e82 P1 (g := (mkF m 60 (Sh9 a1 0 0 20000 0) [(.ref a1), (.double 0), (.double 4603455074381856768), (.ref a1)])) rfl rfl (hb hby d6_60)
  refine GoW.sg (mkF m 63 (Sh9 a1 0 0 20000 0) [(.double 4603455074381856768), (.double 0), (.double 4603455074381856768), (.ref a1)]) (fun t k => st83 t k) ?_
  refine GoW.sg (mkF m 64 (Sh9 a1 0 0 20000 0) [(.double 13826827111236632576), (.double 4603455074381856768), (.ref a1)]) (fun t k => XS.dsubS X83.here hx rfl (hb hby d6_63) rfl (v := (13826827111236632576 : UInt64)) (by decide +kernel) (by decide +kernel) k) ?_
  refine GoW.sg (mkF m 67 (Sh9 a1 0 0 20000 0) [(.double 4593671619917905920), (.double 13826827111236632576), (.double 4603455074381856768), (.ref a1)]) (fun t k => X83.ldc2DoubleC hx hown (mvT hZ (ww hw 40 rfl)) (g := (mkF m 64 (Sh9 a1 0 0 20000 0) [(.double 13826827111236632576), (.double 4603455074381856768), (.ref a1)])) rfl (hb hby d6_64) t k) ?_
  refine GoW.sg (mkF m 68 (Sh9 a1 0 0 20000 0) [(.double 13813316312354521088), (.double 4603455074381856768), (.ref a1)]) (fun t k => XS.dmulS X83.here hx rfl (hb hby d6_67) rfl (v := (13813316312354521088 : UInt64)) (by decide +kernel) (by decide +kernel) k) ?_
  refine GoW.sg (mkF m 69 (Sh9 a1 0 0 20000 0) [(.double 4602795092527284224), (.ref a1)]) (fun t k => XS.daddS X83.here hx rfl (hb hby d6_68) rfl (v := (4602795092527284224 : UInt64)) (by decide +kernel) (by decide +kernel) k) ?_
  obtain ⟨T84, h84, X84, e84, W84, st84⟩ := putF X83 hx hZ hown (host := "") (Or.inl (ww hw 11 rfl)) Via.refl e83 P1 P0 (Or.inl (ww hw 12 rfl)) (ww hw 3 rfl) (ty := .double) (by decide) rfl rfl (g := (mkF m 69 (Sh9 a1 0 0 20000 0) [(.double 4602795092527284224), (.ref a1)])) rfl rfl (hb hby d6_69)
  have N84 := Fr.snoc X84 N0 g_a1
  have Exa_a1_84 : Exa Z h84 a1 "com/example/spindle/spindle/SpinRule" := P0.wr W84
  have Fld_a1_handedOn_84 : Fld Z h84 a1 "com/example/spindle/spindle/SpinRule" "handedOn" "Z" (.int (0 : Int32)) := P2.other W84 (Or.inr (slot_ne (t := .boolean) (t' := .double) (Or.inl (ww hw 19 rfl)) (Or.inl (ww hw 12 rfl)) (by decide) (by decide) (by decide)))
  have Fld_a1_awaitsAnswer_84 : Fld Z h84 a1 "com/example/spindle/spindle/SpinRule" "awaitsAnswer" "Z" (.int (1 : Int32)) := P3.other W84 (Or.inr (slot_ne (t := .boolean) (t' := .double) (Or.inl (ww hw 27 rfl)) (Or.inl (ww hw 12 rfl)) (by decide) (by decide) (by decide)))
  have Keep_84 : Keep h0 h84 [a1] := (Keep.refl h0 [a1]).wr W84 (Or.inl (List.mem_of_getElem? (i := 0) rfl))
  have Fld_a1_answeredShare_84 : Fld Z h84 a1 "com/example/spindle/spindle/SpinRule" "answeredShare" "D" (.double (4602795092527284224 : UInt64)) := P1.same W84
  refine GoW.sg (mkF m 72 (Sh9 a1 0 0 20000 0) []) (fun t k => st84 t k) ?_
  refine GoW.retV X84 hx Bd.returns (hb hby d6_72) Bd.notSynchronized ?_ (by decide) (by decide)
  rw [e84]
  exact ⟨rfl, N84, Keep_84, Exa_a1_84, Fld_a1_answeredShare_84, Fld_a1_handedOn_84, Fld_a1_awaitsAnswer_84⟩
def Q6_9 (Z : State) (a1 : Addr) (h0 : Heap) (n0 : Nat) (v : Option Value) (h : Heap) (L : List Loc) : Prop := v = none ∧ Fr n0 L ∧ (Keep h0 h [a1]) ∧ (Exa Z h a1 "com/example/spindle/spindle/SpinRule") ∧ (Fld Z h a1 "com/example/spindle/spindle/SpinRule" "answeredShare" "D" (.double (4601756397636419584 : UInt64))) ∧ (Fld Z h a1 "com/example/spindle/spindle/SpinRule" "handedOn" "Z" (.int (0 : Int32))) ∧ (Fld Z h a1 "com/example/spindle/spindle/SpinRule" "awaitsAnswer" "Z" (.int (1 : Int32)))
theorem ef6_rm6_9 (m : MethodId) (a1 : Addr) : entryFrame m #[(.ref a1), (.int (0 : Int32)), (.int (0 : Int32)), (.long (20000 : Int64))] 6 = (mkF m 0 #[.val (.ref a1), .val (.int 0), .val (.int 0), .val (.long 20000), .second, .unset] []) := by first | (simp [entryFrame, mkF, argsToLocals, Value.category, maxLocals]; done) | rfl
set_option maxRecDepth 65536 in
set_option maxHeartbeats 40000000 in
theorem rm6_9 (l : Launch) (Z : State) (a0 : Array Value) (hw : ∀ d ∈ tables_1, d.before a0 Z = true) (ws : List Jvm.Cond) (a1 : Addr)  (h0 : Heap) (n0 : Nat) (P0 : Exa Z h0 a1 "com/example/spindle/spindle/SpinRule") (P1 : Fld Z h0 a1 "com/example/spindle/spindle/SpinRule" "answeredShare" "D" (.double (4602795092527284224 : UInt64))) (P2 : Fld Z h0 a1 "com/example/spindle/spindle/SpinRule" "handedOn" "Z" (.int (0 : Int32))) (P3 : Fld Z h0 a1 "com/example/spindle/spindle/SpinRule" "awaitsAnswer" "Z" (.int (1 : Int32))) (g_a1 : n0 ≤ a1)    :
    MetFree l (⟨"com/example/spindle/spindle/SpinRule", "countWait", "(ZZJ)V"⟩ : MethodName) (head1 (Jvm.Cond.code (⟨"com/example/spindle/spindle/SpinRule", "countWait", "(ZZJ)V"⟩ : MethodName) prog_40_method_5_code 6 none :: ws) ({ frames := 0, cells := 0, slots := 0, locals := 0 } : Room)) (fun a U => a = #[(.ref a1), (.int (0 : Int32)), (.int (0 : Int32)), (.long (20000 : Int64))] ∧ Z.Warmed39 U.vm ∧ U.heap = h0) (fun _ _ _ _ _ => True) (fun _ U o U' => ∃ v L, o = .returned v ∧ (Q6_9 Z a1 h0 n0) v U'.heap L ∧ FrameEnd U o U' L 0 0) := by
  refine MetFree.of_bodySF (plainFor_of_name pn_com_example_spindle_spindle_SpinRule) hisR ?_
  intro p e s m args below meth c s₁ Bd hml0 hP hK
  obtain ⟨rfl, hZ, hh⟩ := hP
  have hx := Bd.exec
  have hby := Bd.bytes
  have hml : c.maxLocals = 6 := hml0
  have hown : s.vm.findClass "com/example/spindle/spindle/SpinRule" = some m.cls := findClass_of_methodNamed Bd.named
  have hnm := (name_of_methodNamed Bd.named Bd.method).1
  have X0 : Stand p l e ({ frames := 0, cells := 0, slots := 0, locals := 0 } : Room) s m #[(.ref a1), (.int (0 : Int32)), (.int (0 : Int32)), (.long (20000 : Int64))] below meth c s₁ [] 0 0 := Stand.of_body Bd
  have e0 : s₁.heap = h0 := by rw [← hh, Bd.state]; rfl
  have N0 := Fr.nil n0
  refine GoW.mk ?_
  refine GoW.st (fun t k => castTop (ef6_rm6_9 m a1) k) ?_
  show GoW p e below s (Q6_9 Z a1 h0 n0) 0 0 (s₁.setTop (mkF m 0 (Sh8 a1 0 0 20000) []))
  refine GoW.sg (mkF m 1 (Sh8 a1 0 0 20000) [(.ref a1)]) (fun t k => XS.aloadN X0.here hx rfl (hb hby d6_0) rfl rfl k) ?_
  obtain ⟨T90, X90, e90, st90⟩ := getF X0 hx hZ hown (host := "") (Or.inl (ww hw 26 rfl)) Via.refl e0 P3 (g := (mkF m 1 (Sh8 a1 0 0 20000) [(.ref a1)])) rfl rfl (hb hby d6_1)
  refine GoW.sg (mkF m 4 (Sh8 a1 0 0 20000) [(.int 1)]) (fun t k => st90 t k) ?_
  refine GoW.sg (mkF m 7 (Sh8 a1 0 0 20000) []) (fun t k => XS.ifNo X90.here hx rfl (hb hby d6_4) rfl (by decide) k) ?_
  refine GoW.sg (mkF m 8 (Sh8 a1 0 0 20000) [(.int 0)]) (fun t k => XS.iloadN X90.here hx rfl (hb hby d6_7) rfl k) ?_
  refine GoW.sg (mkF m 11 (Sh8 a1 0 0 20000) []) (fun t k => XS.ifNo X90.here hx rfl (hb hby d6_8) rfl (by decide) k) ?_
  refine GoW.sg (mkF m 12 (Sh8 a1 0 0 20000) [(.long 20000)]) (fun t k => XS.lloadN X90.here hx rfl (hb hby d6_11) rfl k) ?_
  refine GoW.sg (mkF m 15 (Sh8 a1 0 0 20000) [(.long 20000), (.long 20000)]) (fun t k => X90.ldc2Long hx hown (mvT hZ (ww hw 28 rfl)) (g := (mkF m 12 (Sh8 a1 0 0 20000) [(.long 20000)])) rfl (hb hby d6_12) t k) ?_
  refine GoW.sg (mkF m 16 (Sh8 a1 0 0 20000) [(.int (lcmpW (20000 : Int64) (20000 : Int64)))]) (fun t k => XS.lcmp X90.here hx rfl (hb hby d6_15) rfl k) ?_
  refine GoW.sg (mkF m 20 (Sh8 a1 0 0 20000) []) (fun t k => XS.ifYes X90.here hx rfl (pc0 := 16) (pc' := 20) rfl (hb hby d6_16) rfl (by decide) (by decide) (by decide) k) ?_
  refine GoW.sg (mkF m 21 (Sh8 a1 0 0 20000) [(.int 0)]) (fun t k => XS.iloadN X90.here hx rfl (hb hby d6_20) rfl k) ?_
  refine GoW.sg (mkF m 40 (Sh8 a1 0 0 20000) []) (fun t k => XS.ifYes X90.here hx rfl (pc0 := 21) (pc' := 40) rfl (hb hby d6_21) rfl (by decide) (by decide) (by decide) k) ?_
  refine GoW.sg (mkF m 41 (Sh8 a1 0 0 20000) [(.int 0)]) (fun t k => XS.iconst X90.here hx rfl (hb hby d6_40) k) ?_
  refine GoW.sg (mkF m 43 (Sh9 a1 0 0 20000 0) []) (fun t k => XS.istore X90.here hx rfl (hb hby d6_41) rfl (l' := (Sh9 a1 0 0 20000 0)) rfl k) ?_
  refine GoW.sg (mkF m 44 (Sh9 a1 0 0 20000 0) [(.ref a1)]) (fun t k => XS.aloadN X90.here hx rfl (hb hby d6_43) rfl rfl k) ?_
  refine GoW.sg (mkF m 45 (Sh9 a1 0 0 20000 0) [(.ref a1), (.ref a1)]) (fun t k => XS.dup X90.here hx rfl (hb hby d6_44) rfl rfl k) ?_
  obtain ⟨T91, X91, e91, st91⟩ := getF X90 hx hZ hown (host := "") (Or.inl (ww hw 11 rfl)) Via.refl e90 P1 (g := (mkF m 45 (Sh9 a1 0 0 20000 0) [(.ref a1), (.ref a1)])) rfl rfl (hb hby d6_45)
  refine GoW.sg (mkF m 48 (Sh9 a1 0 0 20000 0) [(.double 4602795092527284224), (.ref a1)]) (fun t k => st91 t k) ?_
  refine GoW.sg (mkF m 50 (Sh9 a1 0 0 20000 0) [(.int 0), (.double 4602795092527284224), (.ref a1)]) (fun t k => XS.iload X91.here hx rfl (hb hby d6_48) rfl k) ?_
  refine GoW.sg (mkF m 57 (Sh9 a1 0 0 20000 0) [(.double 4602795092527284224), (.ref a1)]) (fun t k => XS.ifYes X91.here hx rfl (pc0 := 50) (pc' := 57) rfl (hb hby d6_50) rfl (by decide) (by decide) (by decide) k) ?_
  refine GoW.sg (mkF m 58 (Sh9 a1 0 0 20000 0) [(.int 0), (.double 4602795092527284224), (.ref a1)]) (fun t k => XS.iconst X91.here hx rfl (hb hby d6_57) k) ?_
  refine GoW.sg (mkF m 59 (Sh9 a1 0 0 20000 0) [(.double 0), (.double 4602795092527284224), (.ref a1)]) (fun t k => XS.i2dS X91.here hx rfl (hb hby d6_58) rfl (v := (0 : UInt64)) (by decide +kernel) k) ?_
  refine GoW.sg (mkF m 60 (Sh9 a1 0 0 20000 0) [(.ref a1), (.double 0), (.double 4602795092527284224), (.ref a1)]) (fun t k => XS.aloadN X91.here hx rfl (hb hby d6_59) rfl rfl k) ?_
  obtain ⟨T92, X92, e92, st92⟩ := getF X91 hx hZ hown (host := "") (Or.inl (ww hw 11 rfl)) Via.refl e91 P1 (g := (mkF m 60 (Sh9 a1 0 0 20000 0) [(.ref a1), (.double 0), (.double 4602795092527284224), (.ref a1)])) rfl rfl (hb hby d6_60)
  refine GoW.sg (mkF m 63 (Sh9 a1 0 0 20000 0) [(.double 4602795092527284224), (.double 0), (.double 4602795092527284224), (.ref a1)]) (fun t k => st92 t k) ?_
  refine GoW.sg (mkF m 64 (Sh9 a1 0 0 20000 0) [(.double 13826167129382060032), (.double 4602795092527284224), (.ref a1)]) (fun t k => XS.dsubS X92.here hx rfl (hb hby d6_63) rfl (v := (13826167129382060032 : UInt64)) (by decide +kernel) (by decide +kernel) k) ?_
  refine GoW.sg (mkF m 67 (Sh9 a1 0 0 20000 0) [(.double 4593671619917905920), (.double 13826167129382060032), (.double 4602795092527284224), (.ref a1)]) (fun t k => X92.ldc2DoubleC hx hown (mvT hZ (ww hw 40 rfl)) (g := (mkF m 64 (Sh9 a1 0 0 20000 0) [(.double 13826167129382060032), (.double 4602795092527284224), (.ref a1)])) rfl (hb hby d6_64) t k) ?_
  refine GoW.sg (mkF m 68 (Sh9 a1 0 0 20000 0) [(.double 13812656330499948544), (.double 4602795092527284224), (.ref a1)]) (fun t k => XS.dmulS X92.here hx rfl (hb hby d6_67) rfl (v := (13812656330499948544 : UInt64)) (by decide +kernel) (by decide +kernel) k) ?_
  refine GoW.sg (mkF m 69 (Sh9 a1 0 0 20000 0) [(.double 4601756397636419584), (.ref a1)]) (fun t k => XS.daddS X92.here hx rfl (hb hby d6_68) rfl (v := (4601756397636419584 : UInt64)) (by decide +kernel) (by decide +kernel) k) ?_
  obtain ⟨T93, h93, X93, e93, W93, st93⟩ := putF X92 hx hZ hown (host := "") (Or.inl (ww hw 11 rfl)) Via.refl e92 P1 P0 (Or.inl (ww hw 12 rfl)) (ww hw 3 rfl) (ty := .double) (by decide) rfl rfl (g := (mkF m 69 (Sh9 a1 0 0 20000 0) [(.double 4601756397636419584), (.ref a1)])) rfl rfl (hb hby d6_69)
  have N93 := Fr.snoc X93 N0 g_a1
  have Exa_a1_93 : Exa Z h93 a1 "com/example/spindle/spindle/SpinRule" := P0.wr W93
  have Fld_a1_handedOn_93 : Fld Z h93 a1 "com/example/spindle/spindle/SpinRule" "handedOn" "Z" (.int (0 : Int32)) := P2.other W93 (Or.inr (slot_ne (t := .boolean) (t' := .double) (Or.inl (ww hw 19 rfl)) (Or.inl (ww hw 12 rfl)) (by decide) (by decide) (by decide)))
  have Fld_a1_awaitsAnswer_93 : Fld Z h93 a1 "com/example/spindle/spindle/SpinRule" "awaitsAnswer" "Z" (.int (1 : Int32)) := P3.other W93 (Or.inr (slot_ne (t := .boolean) (t' := .double) (Or.inl (ww hw 27 rfl)) (Or.inl (ww hw 12 rfl)) (by decide) (by decide) (by decide)))
  have Keep_93 : Keep h0 h93 [a1] := (Keep.refl h0 [a1]).wr W93 (Or.inl (List.mem_of_getElem? (i := 0) rfl))
  have Fld_a1_answeredShare_93 : Fld Z h93 a1 "com/example/spindle/spindle/SpinRule" "answeredShare" "D" (.double (4601756397636419584 : UInt64)) := P1.same W93
  refine GoW.sg (mkF m 72 (Sh9 a1 0 0 20000 0) []) (fun t k => st93 t k) ?_
  refine GoW.retV X93 hx Bd.returns (hb hby d6_72) Bd.notSynchronized ?_ (by decide) (by decide)
  rw [e93]
  exact ⟨rfl, N93, Keep_93, Exa_a1_93, Fld_a1_answeredShare_93, Fld_a1_handedOn_93, Fld_a1_awaitsAnswer_93⟩
def Q6_10 (Z : State) (a1 : Addr) (h0 : Heap) (n0 : Nat) (v : Option Value) (h : Heap) (L : List Loc) : Prop := v = none ∧ Fr n0 L ∧ (Keep h0 h [a1]) ∧ (Exa Z h a1 "com/example/spindle/spindle/SpinRule") ∧ (Fld Z h a1 "com/example/spindle/spindle/SpinRule" "answeredShare" "D" (.double (4600745800421605376 : UInt64))) ∧ (Fld Z h a1 "com/example/spindle/spindle/SpinRule" "handedOn" "Z" (.int (0 : Int32))) ∧ (Fld Z h a1 "com/example/spindle/spindle/SpinRule" "awaitsAnswer" "Z" (.int (1 : Int32)))
theorem ef6_rm6_10 (m : MethodId) (a1 : Addr) : entryFrame m #[(.ref a1), (.int (0 : Int32)), (.int (0 : Int32)), (.long (20000 : Int64))] 6 = (mkF m 0 #[.val (.ref a1), .val (.int 0), .val (.int 0), .val (.long 20000), .second, .unset] []) := by first | (simp [entryFrame, mkF, argsToLocals, Value.category, maxLocals]; done) | rfl
set_option maxRecDepth 65536 in
set_option maxHeartbeats 40000000 in
theorem rm6_10 (l : Launch) (Z : State) (a0 : Array Value) (hw : ∀ d ∈ tables_1, d.before a0 Z = true) (ws : List Jvm.Cond) (a1 : Addr)  (h0 : Heap) (n0 : Nat) (P0 : Exa Z h0 a1 "com/example/spindle/spindle/SpinRule") (P1 : Fld Z h0 a1 "com/example/spindle/spindle/SpinRule" "answeredShare" "D" (.double (4601756397636419584 : UInt64))) (P2 : Fld Z h0 a1 "com/example/spindle/spindle/SpinRule" "handedOn" "Z" (.int (0 : Int32))) (P3 : Fld Z h0 a1 "com/example/spindle/spindle/SpinRule" "awaitsAnswer" "Z" (.int (1 : Int32))) (g_a1 : n0 ≤ a1)    :
    MetFree l (⟨"com/example/spindle/spindle/SpinRule", "countWait", "(ZZJ)V"⟩ : MethodName) (head1 (Jvm.Cond.code (⟨"com/example/spindle/spindle/SpinRule", "countWait", "(ZZJ)V"⟩ : MethodName) prog_40_method_5_code 6 none :: ws) ({ frames := 0, cells := 0, slots := 0, locals := 0 } : Room)) (fun a U => a = #[(.ref a1), (.int (0 : Int32)), (.int (0 : Int32)), (.long (20000 : Int64))] ∧ Z.Warmed39 U.vm ∧ U.heap = h0) (fun _ _ _ _ _ => True) (fun _ U o U' => ∃ v L, o = .returned v ∧ (Q6_10 Z a1 h0 n0) v U'.heap L ∧ FrameEnd U o U' L 0 0) := by
  refine MetFree.of_bodySF (plainFor_of_name pn_com_example_spindle_spindle_SpinRule) hisR ?_
  intro p e s m args below meth c s₁ Bd hml0 hP hK
  obtain ⟨rfl, hZ, hh⟩ := hP
  have hx := Bd.exec
  have hby := Bd.bytes
  have hml : c.maxLocals = 6 := hml0
  have hown : s.vm.findClass "com/example/spindle/spindle/SpinRule" = some m.cls := findClass_of_methodNamed Bd.named
  have hnm := (name_of_methodNamed Bd.named Bd.method).1
  have X0 : Stand p l e ({ frames := 0, cells := 0, slots := 0, locals := 0 } : Room) s m #[(.ref a1), (.int (0 : Int32)), (.int (0 : Int32)), (.long (20000 : Int64))] below meth c s₁ [] 0 0 := Stand.of_body Bd
  have e0 : s₁.heap = h0 := by rw [← hh, Bd.state]; rfl
  have N0 := Fr.nil n0
  refine GoW.mk ?_
  refine GoW.st (fun t k => castTop (ef6_rm6_10 m a1) k) ?_
  show GoW p e below s (Q6_10 Z a1 h0 n0) 0 0 (s₁.setTop (mkF m 0 (Sh8 a1 0 0 20000) []))
  refine GoW.sg (mkF m 1 (Sh8 a1 0 0 20000) [(.ref a1)]) (fun t k => XS.aloadN X0.here hx rfl (hb hby d6_0) rfl rfl k) ?_
  obtain ⟨T99, X99, e99, st99⟩ := getF X0 hx hZ hown (host := "") (Or.inl (ww hw 26 rfl)) Via.refl e0 P3 (g := (mkF m 1 (Sh8 a1 0 0 20000) [(.ref a1)])) rfl rfl (hb hby d6_1)
  refine GoW.sg (mkF m 4 (Sh8 a1 0 0 20000) [(.int 1)]) (fun t k => st99 t k) ?_
  refine GoW.sg (mkF m 7 (Sh8 a1 0 0 20000) []) (fun t k => XS.ifNo X99.here hx rfl (hb hby d6_4) rfl (by decide) k) ?_
  refine GoW.sg (mkF m 8 (Sh8 a1 0 0 20000) [(.int 0)]) (fun t k => XS.iloadN X99.here hx rfl (hb hby d6_7) rfl k) ?_
  refine GoW.sg (mkF m 11 (Sh8 a1 0 0 20000) []) (fun t k => XS.ifNo X99.here hx rfl (hb hby d6_8) rfl (by decide) k) ?_
  refine GoW.sg (mkF m 12 (Sh8 a1 0 0 20000) [(.long 20000)]) (fun t k => XS.lloadN X99.here hx rfl (hb hby d6_11) rfl k) ?_
  refine GoW.sg (mkF m 15 (Sh8 a1 0 0 20000) [(.long 20000), (.long 20000)]) (fun t k => X99.ldc2Long hx hown (mvT hZ (ww hw 28 rfl)) (g := (mkF m 12 (Sh8 a1 0 0 20000) [(.long 20000)])) rfl (hb hby d6_12) t k) ?_
  refine GoW.sg (mkF m 16 (Sh8 a1 0 0 20000) [(.int (lcmpW (20000 : Int64) (20000 : Int64)))]) (fun t k => XS.lcmp X99.here hx rfl (hb hby d6_15) rfl k) ?_
  refine GoW.sg (mkF m 20 (Sh8 a1 0 0 20000) []) (fun t k => XS.ifYes X99.here hx rfl (pc0 := 16) (pc' := 20) rfl (hb hby d6_16) rfl (by decide) (by decide) (by decide) k) ?_
  refine GoW.sg (mkF m 21 (Sh8 a1 0 0 20000) [(.int 0)]) (fun t k => XS.iloadN X99.here hx rfl (hb hby d6_20) rfl k) ?_
  refine GoW.sg (mkF m 40 (Sh8 a1 0 0 20000) []) (fun t k => XS.ifYes X99.here hx rfl (pc0 := 21) (pc' := 40) rfl (hb hby d6_21) rfl (by decide) (by decide) (by decide) k) ?_
  refine GoW.sg (mkF m 41 (Sh8 a1 0 0 20000) [(.int 0)]) (fun t k => XS.iconst X99.here hx rfl (hb hby d6_40) k) ?_
  refine GoW.sg (mkF m 43 (Sh9 a1 0 0 20000 0) []) (fun t k => XS.istore X99.here hx rfl (hb hby d6_41) rfl (l' := (Sh9 a1 0 0 20000 0)) rfl k) ?_
  refine GoW.sg (mkF m 44 (Sh9 a1 0 0 20000 0) [(.ref a1)]) (fun t k => XS.aloadN X99.here hx rfl (hb hby d6_43) rfl rfl k) ?_
  refine GoW.sg (mkF m 45 (Sh9 a1 0 0 20000 0) [(.ref a1), (.ref a1)]) (fun t k => XS.dup X99.here hx rfl (hb hby d6_44) rfl rfl k) ?_
  obtain ⟨T100, X100, e100, st100⟩ := getF X99 hx hZ hown (host := "") (Or.inl (ww hw 11 rfl)) Via.refl e99 P1 (g := (mkF m 45 (Sh9 a1 0 0 20000 0) [(.ref a1), (.ref a1)])) rfl rfl (hb hby d6_45)
  refine GoW.sg (mkF m 48 (Sh9 a1 0 0 20000 0) [(.double 4601756397636419584), (.ref a1)]) (fun t k => st100 t k) ?_
  refine GoW.sg (mkF m 50 (Sh9 a1 0 0 20000 0) [(.int 0), (.double 4601756397636419584), (.ref a1)]) (fun t k => XS.iload X100.here hx rfl (hb hby d6_48) rfl k) ?_
  refine GoW.sg (mkF m 57 (Sh9 a1 0 0 20000 0) [(.double 4601756397636419584), (.ref a1)]) (fun t k => XS.ifYes X100.here hx rfl (pc0 := 50) (pc' := 57) rfl (hb hby d6_50) rfl (by decide) (by decide) (by decide) k) ?_
  refine GoW.sg (mkF m 58 (Sh9 a1 0 0 20000 0) [(.int 0), (.double 4601756397636419584), (.ref a1)]) (fun t k => XS.iconst X100.here hx rfl (hb hby d6_57) k) ?_
  refine GoW.sg (mkF m 59 (Sh9 a1 0 0 20000 0) [(.double 0), (.double 4601756397636419584), (.ref a1)]) (fun t k => XS.i2dS X100.here hx rfl (hb hby d6_58) rfl (v := (0 : UInt64)) (by decide +kernel) k) ?_
  refine GoW.sg (mkF m 60 (Sh9 a1 0 0 20000 0) [(.ref a1), (.double 0), (.double 4601756397636419584), (.ref a1)]) (fun t k => XS.aloadN X100.here hx rfl (hb hby d6_59) rfl rfl k) ?_
  obtain ⟨T101, X101, e101, st101⟩ := getF X100 hx hZ hown (host := "") (Or.inl (ww hw 11 rfl)) Via.refl e100 P1 (g := (mkF m 60 (Sh9 a1 0 0 20000 0) [(.ref a1), (.double 0), (.double 4601756397636419584), (.ref a1)])) rfl rfl (hb hby d6_60)
  refine GoW.sg (mkF m 63 (Sh9 a1 0 0 20000 0) [(.double 4601756397636419584), (.double 0), (.double 4601756397636419584), (.ref a1)]) (fun t k => st101 t k) ?_
  refine GoW.sg (mkF m 64 (Sh9 a1 0 0 20000 0) [(.double 13825128434491195392), (.double 4601756397636419584), (.ref a1)]) (fun t k => XS.dsubS X101.here hx rfl (hb hby d6_63) rfl (v := (13825128434491195392 : UInt64)) (by decide +kernel) (by decide +kernel) k) ?_
  refine GoW.sg (mkF m 67 (Sh9 a1 0 0 20000 0) [(.double 4593671619917905920), (.double 13825128434491195392), (.double 4601756397636419584), (.ref a1)]) (fun t k => X101.ldc2DoubleC hx hown (mvT hZ (ww hw 40 rfl)) (g := (mkF m 64 (Sh9 a1 0 0 20000 0) [(.double 13825128434491195392), (.double 4601756397636419584), (.ref a1)])) rfl (hb hby d6_64) t k) ?_
  refine GoW.sg (mkF m 68 (Sh9 a1 0 0 20000 0) [(.double 13811617635609083904), (.double 4601756397636419584), (.ref a1)]) (fun t k => XS.dmulS X101.here hx rfl (hb hby d6_67) rfl (v := (13811617635609083904 : UInt64)) (by decide +kernel) (by decide +kernel) k) ?_
  refine GoW.sg (mkF m 69 (Sh9 a1 0 0 20000 0) [(.double 4600745800421605376), (.ref a1)]) (fun t k => XS.daddS X101.here hx rfl (hb hby d6_68) rfl (v := (4600745800421605376 : UInt64)) (by decide +kernel) (by decide +kernel) k) ?_
  obtain ⟨T102, h102, X102, e102, W102, st102⟩ := putF X101 hx hZ hown (host := "") (Or.inl (ww hw 11 rfl)) Via.refl e101 P1 P0 (Or.inl (ww hw 12 rfl)) (ww hw 3 rfl) (ty := .double) (by decide) rfl rfl (g := (mkF m 69 (Sh9 a1 0 0 20000 0) [(.double 4600745800421605376), (.ref a1)])) rfl rfl (hb hby d6_69)
  have N102 := Fr.snoc X102 N0 g_a1
  have Exa_a1_102 : Exa Z h102 a1 "com/example/spindle/spindle/SpinRule" := P0.wr W102
  have Fld_a1_handedOn_102 : Fld Z h102 a1 "com/example/spindle/spindle/SpinRule" "handedOn" "Z" (.int (0 : Int32)) := P2.other W102 (Or.inr (slot_ne (t := .boolean) (t' := .double) (Or.inl (ww hw 19 rfl)) (Or.inl (ww hw 12 rfl)) (by decide) (by decide) (by decide)))
  have Fld_a1_awaitsAnswer_102 : Fld Z h102 a1 "com/example/spindle/spindle/SpinRule" "awaitsAnswer" "Z" (.int (1 : Int32)) := P3.other W102 (Or.inr (slot_ne (t := .boolean) (t' := .double) (Or.inl (ww hw 27 rfl)) (Or.inl (ww hw 12 rfl)) (by decide) (by decide) (by decide)))
  have Keep_102 : Keep h0 h102 [a1] := (Keep.refl h0 [a1]).wr W102 (Or.inl (List.mem_of_getElem? (i := 0) rfl))
  have Fld_a1_answeredShare_102 : Fld Z h102 a1 "com/example/spindle/spindle/SpinRule" "answeredShare" "D" (.double (4600745800421605376 : UInt64)) := P1.same W102
  refine GoW.sg (mkF m 72 (Sh9 a1 0 0 20000 0) []) (fun t k => st102 t k) ?_
  refine GoW.retV X102 hx Bd.returns (hb hby d6_72) Bd.notSynchronized ?_ (by decide) (by decide)
  rw [e102]
  exact ⟨rfl, N102, Keep_102, Exa_a1_102, Fld_a1_answeredShare_102, Fld_a1_handedOn_102, Fld_a1_awaitsAnswer_102⟩
def Q6_11 (Z : State) (a1 : Addr) (h0 : Heap) (n0 : Nat) (v : Option Value) (h : Heap) (L : List Loc) : Prop := v = none ∧ Fr n0 L ∧ (Keep h0 h [a1]) ∧ (Exa Z h a1 "com/example/spindle/spindle/SpinRule") ∧ (Fld Z h a1 "com/example/spindle/spindle/SpinRule" "answeredShare" "D" (.double (4599861527858642944 : UInt64))) ∧ (Fld Z h a1 "com/example/spindle/spindle/SpinRule" "handedOn" "Z" (.int (0 : Int32))) ∧ (Fld Z h a1 "com/example/spindle/spindle/SpinRule" "awaitsAnswer" "Z" (.int (1 : Int32)))
theorem ef6_rm6_11 (m : MethodId) (a1 : Addr) : entryFrame m #[(.ref a1), (.int (0 : Int32)), (.int (0 : Int32)), (.long (20000 : Int64))] 6 = (mkF m 0 #[.val (.ref a1), .val (.int 0), .val (.int 0), .val (.long 20000), .second, .unset] []) := by first | (simp [entryFrame, mkF, argsToLocals, Value.category, maxLocals]; done) | rfl
set_option maxRecDepth 65536 in
set_option maxHeartbeats 40000000 in
theorem rm6_11 (l : Launch) (Z : State) (a0 : Array Value) (hw : ∀ d ∈ tables_1, d.before a0 Z = true) (ws : List Jvm.Cond) (a1 : Addr)  (h0 : Heap) (n0 : Nat) (P0 : Exa Z h0 a1 "com/example/spindle/spindle/SpinRule") (P1 : Fld Z h0 a1 "com/example/spindle/spindle/SpinRule" "answeredShare" "D" (.double (4600745800421605376 : UInt64))) (P2 : Fld Z h0 a1 "com/example/spindle/spindle/SpinRule" "handedOn" "Z" (.int (0 : Int32))) (P3 : Fld Z h0 a1 "com/example/spindle/spindle/SpinRule" "awaitsAnswer" "Z" (.int (1 : Int32))) (g_a1 : n0 ≤ a1)    :
    MetFree l (⟨"com/example/spindle/spindle/SpinRule", "countWait", "(ZZJ)V"⟩ : MethodName) (head1 (Jvm.Cond.code (⟨"com/example/spindle/spindle/SpinRule", "countWait", "(ZZJ)V"⟩ : MethodName) prog_40_method_5_code 6 none :: ws) ({ frames := 0, cells := 0, slots := 0, locals := 0 } : Room)) (fun a U => a = #[(.ref a1), (.int (0 : Int32)), (.int (0 : Int32)), (.long (20000 : Int64))] ∧ Z.Warmed39 U.vm ∧ U.heap = h0) (fun _ _ _ _ _ => True) (fun _ U o U' => ∃ v L, o = .returned v ∧ (Q6_11 Z a1 h0 n0) v U'.heap L ∧ FrameEnd U o U' L 0 0) := by
  refine MetFree.of_bodySF (plainFor_of_name pn_com_example_spindle_spindle_SpinRule) hisR ?_
  intro p e s m args below meth c s₁ Bd hml0 hP hK
  obtain ⟨rfl, hZ, hh⟩ := hP
  have hx := Bd.exec
  have hby := Bd.bytes
  have hml : c.maxLocals = 6 := hml0
  have hown : s.vm.findClass "com/example/spindle/spindle/SpinRule" = some m.cls := findClass_of_methodNamed Bd.named
  have hnm := (name_of_methodNamed Bd.named Bd.method).1
  have X0 : Stand p l e ({ frames := 0, cells := 0, slots := 0, locals := 0 } : Room) s m #[(.ref a1), (.int (0 : Int32)), (.int (0 : Int32)), (.long (20000 : Int64))] below meth c s₁ [] 0 0 := Stand.of_body Bd
  have e0 : s₁.heap = h0 := by rw [← hh, Bd.state]; rfl
  have N0 := Fr.nil n0
  refine GoW.mk ?_
  refine GoW.st (fun t k => castTop (ef6_rm6_11 m a1) k) ?_
  show GoW p e below s (Q6_11 Z a1 h0 n0) 0 0 (s₁.setTop (mkF m 0 (Sh8 a1 0 0 20000) []))
  refine GoW.sg (mkF m 1 (Sh8 a1 0 0 20000) [(.ref a1)]) (fun t k => XS.aloadN X0.here hx rfl (hb hby d6_0) rfl rfl k) ?_
  obtain ⟨T108, X108, e108, st108⟩ := getF X0 hx hZ hown (host := "") (Or.inl (ww hw 26 rfl)) Via.refl e0 P3 (g := (mkF m 1 (Sh8 a1 0 0 20000) [(.ref a1)])) rfl rfl (hb hby d6_1)
  refine GoW.sg (mkF m 4 (Sh8 a1 0 0 20000) [(.int 1)]) (fun t k => st108 t k) ?_
  refine GoW.sg (mkF m 7 (Sh8 a1 0 0 20000) []) (fun t k => XS.ifNo X108.here hx rfl (hb hby d6_4) rfl (by decide) k) ?_
  refine GoW.sg (mkF m 8 (Sh8 a1 0 0 20000) [(.int 0)]) (fun t k => XS.iloadN X108.here hx rfl (hb hby d6_7) rfl k) ?_
  refine GoW.sg (mkF m 11 (Sh8 a1 0 0 20000) []) (fun t k => XS.ifNo X108.here hx rfl (hb hby d6_8) rfl (by decide) k) ?_
  refine GoW.sg (mkF m 12 (Sh8 a1 0 0 20000) [(.long 20000)]) (fun t k => XS.lloadN X108.here hx rfl (hb hby d6_11) rfl k) ?_
  refine GoW.sg (mkF m 15 (Sh8 a1 0 0 20000) [(.long 20000), (.long 20000)]) (fun t k => X108.ldc2Long hx hown (mvT hZ (ww hw 28 rfl)) (g := (mkF m 12 (Sh8 a1 0 0 20000) [(.long 20000)])) rfl (hb hby d6_12) t k) ?_
  refine GoW.sg (mkF m 16 (Sh8 a1 0 0 20000) [(.int (lcmpW (20000 : Int64) (20000 : Int64)))]) (fun t k => XS.lcmp X108.here hx rfl (hb hby d6_15) rfl k) ?_
  refine GoW.sg (mkF m 20 (Sh8 a1 0 0 20000) []) (fun t k => XS.ifYes X108.here hx rfl (pc0 := 16) (pc' := 20) rfl (hb hby d6_16) rfl (by decide) (by decide) (by decide) k) ?_
  refine GoW.sg (mkF m 21 (Sh8 a1 0 0 20000) [(.int 0)]) (fun t k => XS.iloadN X108.here hx rfl (hb hby d6_20) rfl k) ?_
  refine GoW.sg (mkF m 40 (Sh8 a1 0 0 20000) []) (fun t k => XS.ifYes X108.here hx rfl (pc0 := 21) (pc' := 40) rfl (hb hby d6_21) rfl (by decide) (by decide) (by decide) k) ?_
  refine GoW.sg (mkF m 41 (Sh8 a1 0 0 20000) [(.int 0)]) (fun t k => XS.iconst X108.here hx rfl (hb hby d6_40) k) ?_
  refine GoW.sg (mkF m 43 (Sh9 a1 0 0 20000 0) []) (fun t k => XS.istore X108.here hx rfl (hb hby d6_41) rfl (l' := (Sh9 a1 0 0 20000 0)) rfl k) ?_
  refine GoW.sg (mkF m 44 (Sh9 a1 0 0 20000 0) [(.ref a1)]) (fun t k => XS.aloadN X108.here hx rfl (hb hby d6_43) rfl rfl k) ?_
  refine GoW.sg (mkF m 45 (Sh9 a1 0 0 20000 0) [(.ref a1), (.ref a1)]) (fun t k => XS.dup X108.here hx rfl (hb hby d6_44) rfl rfl k) ?_
  obtain ⟨T109, X109, e109, st109⟩ := getF X108 hx hZ hown (host := "") (Or.inl (ww hw 11 rfl)) Via.refl e108 P1 (g := (mkF m 45 (Sh9 a1 0 0 20000 0) [(.ref a1), (.ref a1)])) rfl rfl (hb hby d6_45)
  refine GoW.sg (mkF m 48 (Sh9 a1 0 0 20000 0) [(.double 4600745800421605376), (.ref a1)]) (fun t k => st109 t k) ?_
  refine GoW.sg (mkF m 50 (Sh9 a1 0 0 20000 0) [(.int 0), (.double 4600745800421605376), (.ref a1)]) (fun t k => XS.iload X109.here hx rfl (hb hby d6_48) rfl k) ?_
  refine GoW.sg (mkF m 57 (Sh9 a1 0 0 20000 0) [(.double 4600745800421605376), (.ref a1)]) (fun t k => XS.ifYes X109.here hx rfl (pc0 := 50) (pc' := 57) rfl (hb hby d6_50) rfl (by decide) (by decide) (by decide) k) ?_
  refine GoW.sg (mkF m 58 (Sh9 a1 0 0 20000 0) [(.int 0), (.double 4600745800421605376), (.ref a1)]) (fun t k => XS.iconst X109.here hx rfl (hb hby d6_57) k) ?_
  refine GoW.sg (mkF m 59 (Sh9 a1 0 0 20000 0) [(.double 0), (.double 4600745800421605376), (.ref a1)]) (fun t k => XS.i2dS X109.here hx rfl (hb hby d6_58) rfl (v := (0 : UInt64)) (by decide +kernel) k) ?_
  refine GoW.sg (mkF m 60 (Sh9 a1 0 0 20000 0) [(.ref a1), (.double 0), (.double 4600745800421605376), (.ref a1)]) (fun t k => XS.aloadN X109.here hx rfl (hb hby d6_59) rfl rfl k) ?_
  obtain ⟨T110, X110, e110, st110⟩ := getF X109 hx hZ hown (host := "") (Or.inl (ww hw 11 rfl)) Via.refl e109 P1 (g := (mkF m 60 (Sh9 a1 0 0 20000 0) [(.ref a1), (.double 0), (.double 4600745800421605376), (.ref a1)])) rfl rfl (hb hby d6_60)
  refine GoW.sg (mkF m 63 (Sh9 a1 0 0 20000 0) [(.double 4600745800421605376), (.double 0), (.double 4600745800421605376), (.ref a1)]) (fun t k => st110 t k) ?_
  refine GoW.sg (mkF m 64 (Sh9 a1 0 0 20000 0) [(.double 13824117837276381184), (.double 4600745800421605376), (.ref a1)]) (fun t k => XS.dsubS X110.here hx rfl (hb hby d6_63) rfl (v := (13824117837276381184 : UInt64)) (by decide +kernel) (by decide +kernel) k) ?_
  refine GoW.sg (mkF m 67 (Sh9 a1 0 0 20000 0) [(.double 4593671619917905920), (.double 13824117837276381184), (.double 4600745800421605376), (.ref a1)]) (fun t k => X110.ldc2DoubleC hx hown (mvT hZ (ww hw 40 rfl)) (g := (mkF m 64 (Sh9 a1 0 0 20000 0) [(.double 13824117837276381184), (.double 4600745800421605376), (.ref a1)])) rfl (hb hby d6_64) t k) ?_
  refine GoW.sg (mkF m 68 (Sh9 a1 0 0 20000 0) [(.double 13810607038394269696), (.double 4600745800421605376), (.ref a1)]) (fun t k => XS.dmulS X110.here hx rfl (hb hby d6_67) rfl (v := (13810607038394269696 : UInt64)) (by decide +kernel) (by decide +kernel) k) ?_
  refine GoW.sg (mkF m 69 (Sh9 a1 0 0 20000 0) [(.double 4599861527858642944), (.ref a1)]) (fun t k => XS.daddS X110.here hx rfl (hb hby d6_68) rfl (v := (4599861527858642944 : UInt64)) (by decide +kernel) (by decide +kernel) k) ?_
  obtain ⟨T111, h111, X111, e111, W111, st111⟩ := putF X110 hx hZ hown (host := "") (Or.inl (ww hw 11 rfl)) Via.refl e110 P1 P0 (Or.inl (ww hw 12 rfl)) (ww hw 3 rfl) (ty := .double) (by decide) rfl rfl (g := (mkF m 69 (Sh9 a1 0 0 20000 0) [(.double 4599861527858642944), (.ref a1)])) rfl rfl (hb hby d6_69)
  have N111 := Fr.snoc X111 N0 g_a1
  have Exa_a1_111 : Exa Z h111 a1 "com/example/spindle/spindle/SpinRule" := P0.wr W111
  have Fld_a1_handedOn_111 : Fld Z h111 a1 "com/example/spindle/spindle/SpinRule" "handedOn" "Z" (.int (0 : Int32)) := P2.other W111 (Or.inr (slot_ne (t := .boolean) (t' := .double) (Or.inl (ww hw 19 rfl)) (Or.inl (ww hw 12 rfl)) (by decide) (by decide) (by decide)))
  have Fld_a1_awaitsAnswer_111 : Fld Z h111 a1 "com/example/spindle/spindle/SpinRule" "awaitsAnswer" "Z" (.int (1 : Int32)) := P3.other W111 (Or.inr (slot_ne (t := .boolean) (t' := .double) (Or.inl (ww hw 27 rfl)) (Or.inl (ww hw 12 rfl)) (by decide) (by decide) (by decide)))
  have Keep_111 : Keep h0 h111 [a1] := (Keep.refl h0 [a1]).wr W111 (Or.inl (List.mem_of_getElem? (i := 0) rfl))
  have Fld_a1_answeredShare_111 : Fld Z h111 a1 "com/example/spindle/spindle/SpinRule" "answeredShare" "D" (.double (4599861527858642944 : UInt64)) := P1.same W111
  refine GoW.sg (mkF m 72 (Sh9 a1 0 0 20000 0) []) (fun t k => st111 t k) ?_
  refine GoW.retV X111 hx Bd.returns (hb hby d6_72) Bd.notSynchronized ?_ (by decide) (by decide)
  rw [e111]
  exact ⟨rfl, N111, Keep_111, Exa_a1_111, Fld_a1_answeredShare_111, Fld_a1_handedOn_111, Fld_a1_awaitsAnswer_111⟩
def Q6_12 (Z : State) (a1 : Addr) (h0 : Heap) (n0 : Nat) (v : Option Value) (h : Heap) (L : List Loc) : Prop := v = none ∧ Fr n0 L ∧ (Keep h0 h [a1]) ∧ (Exa Z h a1 "com/example/spindle/spindle/SpinRule") ∧ (Fld Z h a1 "com/example/spindle/spindle/SpinRule" "answeredShare" "D" (.double (4599087789366050816 : UInt64))) ∧ (Fld Z h a1 "com/example/spindle/spindle/SpinRule" "handedOn" "Z" (.int (0 : Int32))) ∧ (Fld Z h a1 "com/example/spindle/spindle/SpinRule" "awaitsAnswer" "Z" (.int (1 : Int32)))
theorem ef6_rm6_12 (m : MethodId) (a1 : Addr) : entryFrame m #[(.ref a1), (.int (0 : Int32)), (.int (0 : Int32)), (.long (20000 : Int64))] 6 = (mkF m 0 #[.val (.ref a1), .val (.int 0), .val (.int 0), .val (.long 20000), .second, .unset] []) := by first | (simp [entryFrame, mkF, argsToLocals, Value.category, maxLocals]; done) | rfl
set_option maxRecDepth 65536 in
set_option maxHeartbeats 40000000 in
theorem rm6_12 (l : Launch) (Z : State) (a0 : Array Value) (hw : ∀ d ∈ tables_1, d.before a0 Z = true) (ws : List Jvm.Cond) (a1 : Addr)  (h0 : Heap) (n0 : Nat) (P0 : Exa Z h0 a1 "com/example/spindle/spindle/SpinRule") (P1 : Fld Z h0 a1 "com/example/spindle/spindle/SpinRule" "answeredShare" "D" (.double (4599861527858642944 : UInt64))) (P2 : Fld Z h0 a1 "com/example/spindle/spindle/SpinRule" "handedOn" "Z" (.int (0 : Int32))) (P3 : Fld Z h0 a1 "com/example/spindle/spindle/SpinRule" "awaitsAnswer" "Z" (.int (1 : Int32))) (g_a1 : n0 ≤ a1)    :
    MetFree l (⟨"com/example/spindle/spindle/SpinRule", "countWait", "(ZZJ)V"⟩ : MethodName) (head1 (Jvm.Cond.code (⟨"com/example/spindle/spindle/SpinRule", "countWait", "(ZZJ)V"⟩ : MethodName) prog_40_method_5_code 6 none :: ws) ({ frames := 0, cells := 0, slots := 0, locals := 0 } : Room)) (fun a U => a = #[(.ref a1), (.int (0 : Int32)), (.int (0 : Int32)), (.long (20000 : Int64))] ∧ Z.Warmed39 U.vm ∧ U.heap = h0) (fun _ _ _ _ _ => True) (fun _ U o U' => ∃ v L, o = .returned v ∧ (Q6_12 Z a1 h0 n0) v U'.heap L ∧ FrameEnd U o U' L 0 0) := by
  refine MetFree.of_bodySF (plainFor_of_name pn_com_example_spindle_spindle_SpinRule) hisR ?_
  intro p e s m args below meth c s₁ Bd hml0 hP hK
  obtain ⟨rfl, hZ, hh⟩ := hP
  have hx := Bd.exec
  have hby := Bd.bytes
  have hml : c.maxLocals = 6 := hml0
  have hown : s.vm.findClass "com/example/spindle/spindle/SpinRule" = some m.cls := findClass_of_methodNamed Bd.named
  have hnm := (name_of_methodNamed Bd.named Bd.method).1
  have X0 : Stand p l e ({ frames := 0, cells := 0, slots := 0, locals := 0 } : Room) s m #[(.ref a1), (.int (0 : Int32)), (.int (0 : Int32)), (.long (20000 : Int64))] below meth c s₁ [] 0 0 := Stand.of_body Bd
  have e0 : s₁.heap = h0 := by rw [← hh, Bd.state]; rfl
  have N0 := Fr.nil n0
  refine GoW.mk ?_
  refine GoW.st (fun t k => castTop (ef6_rm6_12 m a1) k) ?_
  show GoW p e below s (Q6_12 Z a1 h0 n0) 0 0 (s₁.setTop (mkF m 0 (Sh8 a1 0 0 20000) []))
  refine GoW.sg (mkF m 1 (Sh8 a1 0 0 20000) [(.ref a1)]) (fun t k => XS.aloadN X0.here hx rfl (hb hby d6_0) rfl rfl k) ?_
  obtain ⟨T117, X117, e117, st117⟩ := getF X0 hx hZ hown (host := "") (Or.inl (ww hw 26 rfl)) Via.refl e0 P3 (g := (mkF m 1 (Sh8 a1 0 0 20000) [(.ref a1)])) rfl rfl (hb hby d6_1)
  refine GoW.sg (mkF m 4 (Sh8 a1 0 0 20000) [(.int 1)]) (fun t k => st117 t k) ?_
  refine GoW.sg (mkF m 7 (Sh8 a1 0 0 20000) []) (fun t k => XS.ifNo X117.here hx rfl (hb hby d6_4) rfl (by decide) k) ?_
  refine GoW.sg (mkF m 8 (Sh8 a1 0 0 20000) [(.int 0)]) (fun t k => XS.iloadN X117.here hx rfl (hb hby d6_7) rfl k) ?_
  refine GoW.sg (mkF m 11 (Sh8 a1 0 0 20000) []) (fun t k => XS.ifNo X117.here hx rfl (hb hby d6_8) rfl (by decide) k) ?_
  refine GoW.sg (mkF m 12 (Sh8 a1 0 0 20000) [(.long 20000)]) (fun t k => XS.lloadN X117.here hx rfl (hb hby d6_11) rfl k) ?_
  refine GoW.sg (mkF m 15 (Sh8 a1 0 0 20000) [(.long 20000), (.long 20000)]) (fun t k => X117.ldc2Long hx hown (mvT hZ (ww hw 28 rfl)) (g := (mkF m 12 (Sh8 a1 0 0 20000) [(.long 20000)])) rfl (hb hby d6_12) t k) ?_
  refine GoW.sg (mkF m 16 (Sh8 a1 0 0 20000) [(.int (lcmpW (20000 : Int64) (20000 : Int64)))]) (fun t k => XS.lcmp X117.here hx rfl (hb hby d6_15) rfl k) ?_
  refine GoW.sg (mkF m 20 (Sh8 a1 0 0 20000) []) (fun t k => XS.ifYes X117.here hx rfl (pc0 := 16) (pc' := 20) rfl (hb hby d6_16) rfl (by decide) (by decide) (by decide) k) ?_
  refine GoW.sg (mkF m 21 (Sh8 a1 0 0 20000) [(.int 0)]) (fun t k => XS.iloadN X117.here hx rfl (hb hby d6_20) rfl k) ?_
  refine GoW.sg (mkF m 40 (Sh8 a1 0 0 20000) []) (fun t k => XS.ifYes X117.here hx rfl (pc0 := 21) (pc' := 40) rfl (hb hby d6_21) rfl (by decide) (by decide) (by decide) k) ?_
  refine GoW.sg (mkF m 41 (Sh8 a1 0 0 20000) [(.int 0)]) (fun t k => XS.iconst X117.here hx rfl (hb hby d6_40) k) ?_
  refine GoW.sg (mkF m 43 (Sh9 a1 0 0 20000 0) []) (fun t k => XS.istore X117.here hx rfl (hb hby d6_41) rfl (l' := (Sh9 a1 0 0 20000 0)) rfl k) ?_
  refine GoW.sg (mkF m 44 (Sh9 a1 0 0 20000 0) [(.ref a1)]) (fun t k => XS.aloadN X117.here hx rfl (hb hby d6_43) rfl rfl k) ?_
  refine GoW.sg (mkF m 45 (Sh9 a1 0 0 20000 0) [(.ref a1), (.ref a1)]) (fun t k => XS.dup X117.here hx rfl (hb hby d6_44) rfl rfl k) ?_
  obtain ⟨T118, X118, e118, st118⟩ := getF X117 hx hZ hown (host := "") (Or.inl (ww hw 11 rfl)) Via.refl e117 P1 (g := (mkF m 45 (Sh9 a1 0 0 20000 0) [(.ref a1), (.ref a1)])) rfl rfl (hb hby d6_45)
  refine GoW.sg (mkF m 48 (Sh9 a1 0 0 20000 0) [(.double 4599861527858642944), (.ref a1)]) (fun t k => st118 t k) ?_
  refine GoW.sg (mkF m 50 (Sh9 a1 0 0 20000 0) [(.int 0), (.double 4599861527858642944), (.ref a1)]) (fun t k => XS.iload X118.here hx rfl (hb hby d6_48) rfl k) ?_
  refine GoW.sg (mkF m 57 (Sh9 a1 0 0 20000 0) [(.double 4599861527858642944), (.ref a1)]) (fun t k => XS.ifYes X118.here hx rfl (pc0 := 50) (pc' := 57) rfl (hb hby d6_50) rfl (by decide) (by decide) (by decide) k) ?_
  refine GoW.sg (mkF m 58 (Sh9 a1 0 0 20000 0) [(.int 0), (.double 4599861527858642944), (.ref a1)]) (fun t k => XS.iconst X118.here hx rfl (hb hby d6_57) k) ?_
  refine GoW.sg (mkF m 59 (Sh9 a1 0 0 20000 0) [(.double 0), (.double 4599861527858642944), (.ref a1)]) (fun t k => XS.i2dS X118.here hx rfl (hb hby d6_58) rfl (v := (0 : UInt64)) (by decide +kernel) k) ?_
  refine GoW.sg (mkF m 60 (Sh9 a1 0 0 20000 0) [(.ref a1), (.double 0), (.double 4599861527858642944), (.ref a1)]) (fun t k => XS.aloadN X118.here hx rfl (hb hby d6_59) rfl rfl k) ?_
  obtain ⟨T119, X119, e119, st119⟩ := getF X118 hx hZ hown (host := "") (Or.inl (ww hw 11 rfl)) Via.refl e118 P1 (g := (mkF m 60 (Sh9 a1 0 0 20000 0) [(.ref a1), (.double 0), (.double 4599861527858642944), (.ref a1)])) rfl rfl (hb hby d6_60)
  refine GoW.sg (mkF m 63 (Sh9 a1 0 0 20000 0) [(.double 4599861527858642944), (.double 0), (.double 4599861527858642944), (.ref a1)]) (fun t k => st119 t k) ?_
  refine GoW.sg (mkF m 64 (Sh9 a1 0 0 20000 0) [(.double 13823233564713418752), (.double 4599861527858642944), (.ref a1)]) (fun t k => XS.dsubS X119.here hx rfl (hb hby d6_63) rfl (v := (13823233564713418752 : UInt64)) (by decide +kernel) (by decide +kernel) k) ?_
  refine GoW.sg (mkF m 67 (Sh9 a1 0 0 20000 0) [(.double 4593671619917905920), (.double 13823233564713418752), (.double 4599861527858642944), (.ref a1)]) (fun t k => X119.ldc2DoubleC hx hown (mvT hZ (ww hw 40 rfl)) (g := (mkF m 64 (Sh9 a1 0 0 20000 0) [(.double 13823233564713418752), (.double 4599861527858642944), (.ref a1)])) rfl (hb hby d6_64) t k) ?_
  refine GoW.sg (mkF m 68 (Sh9 a1 0 0 20000 0) [(.double 13809722765831307264), (.double 4599861527858642944), (.ref a1)]) (fun t k => XS.dmulS X119.here hx rfl (hb hby d6_67) rfl (v := (13809722765831307264 : UInt64)) (by decide +kernel) (by decide +kernel) k) ?_
  refine GoW.sg (mkF m 69 (Sh9 a1 0 0 20000 0) [(.double 4599087789366050816), (.ref a1)]) (fun t k => XS.daddS X119.here hx rfl (hb hby d6_68) rfl (v := (4599087789366050816 : UInt64)) (by decide +kernel) (by decide +kernel) k) ?_
  obtain ⟨T120, h120, X120, e120, W120, st120⟩ := putF X119 hx hZ hown (host := "") (Or.inl (ww hw 11 rfl)) Via.refl e119 P1 P0 (Or.inl (ww hw 12 rfl)) (ww hw 3 rfl) (ty := .double) (by decide) rfl rfl (g := (mkF m 69 (Sh9 a1 0 0 20000 0) [(.double 4599087789366050816), (.ref a1)])) rfl rfl (hb hby d6_69)
  have N120 := Fr.snoc X120 N0 g_a1
  have Exa_a1_120 : Exa Z h120 a1 "com/example/spindle/spindle/SpinRule" := P0.wr W120
  have Fld_a1_handedOn_120 : Fld Z h120 a1 "com/example/spindle/spindle/SpinRule" "handedOn" "Z" (.int (0 : Int32)) := P2.other W120 (Or.inr (slot_ne (t := .boolean) (t' := .double) (Or.inl (ww hw 19 rfl)) (Or.inl (ww hw 12 rfl)) (by decide) (by decide) (by decide)))
  have Fld_a1_awaitsAnswer_120 : Fld Z h120 a1 "com/example/spindle/spindle/SpinRule" "awaitsAnswer" "Z" (.int (1 : Int32)) := P3.other W120 (Or.inr (slot_ne (t := .boolean) (t' := .double) (Or.inl (ww hw 27 rfl)) (Or.inl (ww hw 12 rfl)) (by decide) (by decide) (by decide)))
  have Keep_120 : Keep h0 h120 [a1] := (Keep.refl h0 [a1]).wr W120 (Or.inl (List.mem_of_getElem? (i := 0) rfl))
  have Fld_a1_answeredShare_120 : Fld Z h120 a1 "com/example/spindle/spindle/SpinRule" "answeredShare" "D" (.double (4599087789366050816 : UInt64)) := P1.same W120
  refine GoW.sg (mkF m 72 (Sh9 a1 0 0 20000 0) []) (fun t k => st120 t k) ?_
  refine GoW.retV X120 hx Bd.returns (hb hby d6_72) Bd.notSynchronized ?_ (by decide) (by decide)
  rw [e120]
  exact ⟨rfl, N120, Keep_120, Exa_a1_120, Fld_a1_answeredShare_120, Fld_a1_handedOn_120, Fld_a1_awaitsAnswer_120⟩
def Q6_13 (Z : State) (a1 : Addr) (h0 : Heap) (n0 : Nat) (v : Option Value) (h : Heap) (L : List Loc) : Prop := v = none ∧ Fr n0 L ∧ (Keep h0 h [a1]) ∧ (Exa Z h a1 "com/example/spindle/spindle/SpinRule") ∧ (Fld Z h a1 "com/example/spindle/spindle/SpinRule" "answeredShare" "D" (.double (4598410768185032704 : UInt64))) ∧ (Fld Z h a1 "com/example/spindle/spindle/SpinRule" "handedOn" "Z" (.int (0 : Int32))) ∧ (Fld Z h a1 "com/example/spindle/spindle/SpinRule" "awaitsAnswer" "Z" (.int (1 : Int32)))
theorem ef6_rm6_13 (m : MethodId) (a1 : Addr) : entryFrame m #[(.ref a1), (.int (0 : Int32)), (.int (0 : Int32)), (.long (20000 : Int64))] 6 = (mkF m 0 #[.val (.ref a1), .val (.int 0), .val (.int 0), .val (.long 20000), .second, .unset] []) := by first | (simp [entryFrame, mkF, argsToLocals, Value.category, maxLocals]; done) | rfl
set_option maxRecDepth 65536 in
set_option maxHeartbeats 40000000 in
theorem rm6_13 (l : Launch) (Z : State) (a0 : Array Value) (hw : ∀ d ∈ tables_1, d.before a0 Z = true) (ws : List Jvm.Cond) (a1 : Addr)  (h0 : Heap) (n0 : Nat) (P0 : Exa Z h0 a1 "com/example/spindle/spindle/SpinRule") (P1 : Fld Z h0 a1 "com/example/spindle/spindle/SpinRule" "answeredShare" "D" (.double (4599087789366050816 : UInt64))) (P2 : Fld Z h0 a1 "com/example/spindle/spindle/SpinRule" "handedOn" "Z" (.int (0 : Int32))) (P3 : Fld Z h0 a1 "com/example/spindle/spindle/SpinRule" "awaitsAnswer" "Z" (.int (1 : Int32))) (g_a1 : n0 ≤ a1)    :
    MetFree l (⟨"com/example/spindle/spindle/SpinRule", "countWait", "(ZZJ)V"⟩ : MethodName) (head1 (Jvm.Cond.code (⟨"com/example/spindle/spindle/SpinRule", "countWait", "(ZZJ)V"⟩ : MethodName) prog_40_method_5_code 6 none :: ws) ({ frames := 0, cells := 0, slots := 0, locals := 0 } : Room)) (fun a U => a = #[(.ref a1), (.int (0 : Int32)), (.int (0 : Int32)), (.long (20000 : Int64))] ∧ Z.Warmed39 U.vm ∧ U.heap = h0) (fun _ _ _ _ _ => True) (fun _ U o U' => ∃ v L, o = .returned v ∧ (Q6_13 Z a1 h0 n0) v U'.heap L ∧ FrameEnd U o U' L 0 0) := by
  refine MetFree.of_bodySF (plainFor_of_name pn_com_example_spindle_spindle_SpinRule) hisR ?_
  intro p e s m args below meth c s₁ Bd hml0 hP hK
  obtain ⟨rfl, hZ, hh⟩ := hP
  have hx := Bd.exec
  have hby := Bd.bytes
  have hml : c.maxLocals = 6 := hml0
  have hown : s.vm.findClass "com/example/spindle/spindle/SpinRule" = some m.cls := findClass_of_methodNamed Bd.named
  have hnm := (name_of_methodNamed Bd.named Bd.method).1
  have X0 : Stand p l e ({ frames := 0, cells := 0, slots := 0, locals := 0 } : Room) s m #[(.ref a1), (.int (0 : Int32)), (.int (0 : Int32)), (.long (20000 : Int64))] below meth c s₁ [] 0 0 := Stand.of_body Bd
  have e0 : s₁.heap = h0 := by rw [← hh, Bd.state]; rfl
  have N0 := Fr.nil n0
  refine GoW.mk ?_
  refine GoW.st (fun t k => castTop (ef6_rm6_13 m a1) k) ?_
  show GoW p e below s (Q6_13 Z a1 h0 n0) 0 0 (s₁.setTop (mkF m 0 (Sh8 a1 0 0 20000) []))
  refine GoW.sg (mkF m 1 (Sh8 a1 0 0 20000) [(.ref a1)]) (fun t k => XS.aloadN X0.here hx rfl (hb hby d6_0) rfl rfl k) ?_
  obtain ⟨T126, X126, e126, st126⟩ := getF X0 hx hZ hown (host := "") (Or.inl (ww hw 26 rfl)) Via.refl e0 P3 (g := (mkF m 1 (Sh8 a1 0 0 20000) [(.ref a1)])) rfl rfl (hb hby d6_1)
  refine GoW.sg (mkF m 4 (Sh8 a1 0 0 20000) [(.int 1)]) (fun t k => st126 t k) ?_
  refine GoW.sg (mkF m 7 (Sh8 a1 0 0 20000) []) (fun t k => XS.ifNo X126.here hx rfl (hb hby d6_4) rfl (by decide) k) ?_
  refine GoW.sg (mkF m 8 (Sh8 a1 0 0 20000) [(.int 0)]) (fun t k => XS.iloadN X126.here hx rfl (hb hby d6_7) rfl k) ?_
  refine GoW.sg (mkF m 11 (Sh8 a1 0 0 20000) []) (fun t k => XS.ifNo X126.here hx rfl (hb hby d6_8) rfl (by decide) k) ?_
  refine GoW.sg (mkF m 12 (Sh8 a1 0 0 20000) [(.long 20000)]) (fun t k => XS.lloadN X126.here hx rfl (hb hby d6_11) rfl k) ?_
  refine GoW.sg (mkF m 15 (Sh8 a1 0 0 20000) [(.long 20000), (.long 20000)]) (fun t k => X126.ldc2Long hx hown (mvT hZ (ww hw 28 rfl)) (g := (mkF m 12 (Sh8 a1 0 0 20000) [(.long 20000)])) rfl (hb hby d6_12) t k) ?_
  refine GoW.sg (mkF m 16 (Sh8 a1 0 0 20000) [(.int (lcmpW (20000 : Int64) (20000 : Int64)))]) (fun t k => XS.lcmp X126.here hx rfl (hb hby d6_15) rfl k) ?_
  refine GoW.sg (mkF m 20 (Sh8 a1 0 0 20000) []) (fun t k => XS.ifYes X126.here hx rfl (pc0 := 16) (pc' := 20) rfl (hb hby d6_16) rfl (by decide) (by decide) (by decide) k) ?_
  refine GoW.sg (mkF m 21 (Sh8 a1 0 0 20000) [(.int 0)]) (fun t k => XS.iloadN X126.here hx rfl (hb hby d6_20) rfl k) ?_
  refine GoW.sg (mkF m 40 (Sh8 a1 0 0 20000) []) (fun t k => XS.ifYes X126.here hx rfl (pc0 := 21) (pc' := 40) rfl (hb hby d6_21) rfl (by decide) (by decide) (by decide) k) ?_
  refine GoW.sg (mkF m 41 (Sh8 a1 0 0 20000) [(.int 0)]) (fun t k => XS.iconst X126.here hx rfl (hb hby d6_40) k) ?_
  refine GoW.sg (mkF m 43 (Sh9 a1 0 0 20000 0) []) (fun t k => XS.istore X126.here hx rfl (hb hby d6_41) rfl (l' := (Sh9 a1 0 0 20000 0)) rfl k) ?_
  refine GoW.sg (mkF m 44 (Sh9 a1 0 0 20000 0) [(.ref a1)]) (fun t k => XS.aloadN X126.here hx rfl (hb hby d6_43) rfl rfl k) ?_
  refine GoW.sg (mkF m 45 (Sh9 a1 0 0 20000 0) [(.ref a1), (.ref a1)]) (fun t k => XS.dup X126.here hx rfl (hb hby d6_44) rfl rfl k) ?_
  obtain ⟨T127, X127, e127, st127⟩ := getF X126 hx hZ hown (host := "") (Or.inl (ww hw 11 rfl)) Via.refl e126 P1 (g := (mkF m 45 (Sh9 a1 0 0 20000 0) [(.ref a1), (.ref a1)])) rfl rfl (hb hby d6_45)
  refine GoW.sg (mkF m 48 (Sh9 a1 0 0 20000 0) [(.double 4599087789366050816), (.ref a1)]) (fun t k => st127 t k) ?_
  refine GoW.sg (mkF m 50 (Sh9 a1 0 0 20000 0) [(.int 0), (.double 4599087789366050816), (.ref a1)]) (fun t k => XS.iload X127.here hx rfl (hb hby d6_48) rfl k) ?_
  refine GoW.sg (mkF m 57 (Sh9 a1 0 0 20000 0) [(.double 4599087789366050816), (.ref a1)]) (fun t k => XS.ifYes X127.here hx rfl (pc0 := 50) (pc' := 57) rfl (hb hby d6_50) rfl (by decide) (by decide) (by decide) k) ?_
  refine GoW.sg (mkF m 58 (Sh9 a1 0 0 20000 0) [(.int 0), (.double 4599087789366050816), (.ref a1)]) (fun t k => XS.iconst X127.here hx rfl (hb hby d6_57) k) ?_
  refine GoW.sg (mkF m 59 (Sh9 a1 0 0 20000 0) [(.double 0), (.double 4599087789366050816), (.ref a1)]) (fun t k => XS.i2dS X127.here hx rfl (hb hby d6_58) rfl (v := (0 : UInt64)) (by decide +kernel) k) ?_
  refine GoW.sg (mkF m 60 (Sh9 a1 0 0 20000 0) [(.ref a1), (.double 0), (.double 4599087789366050816), (.ref a1)]) (fun t k => XS.aloadN X127.here hx rfl (hb hby d6_59) rfl rfl k) ?_
  obtain ⟨T128, X128, e128, st128⟩ := getF X127 hx hZ hown (host := "") (Or.inl (ww hw 11 rfl)) Via.refl e127 P1 (g := (mkF m 60 (Sh9 a1 0 0 20000 0) [(.ref a1), (.double 0), (.double 4599087789366050816), (.ref a1)])) rfl rfl (hb hby d6_60)
  refine GoW.sg (mkF m 63 (Sh9 a1 0 0 20000 0) [(.double 4599087789366050816), (.double 0), (.double 4599087789366050816), (.ref a1)]) (fun t k => st128 t k) ?_
  refine GoW.sg (mkF m 64 (Sh9 a1 0 0 20000 0) [(.double 13822459826220826624), (.double 4599087789366050816), (.ref a1)]) (fun t k => XS.dsubS X128.here hx rfl (hb hby d6_63) rfl (v := (13822459826220826624 : UInt64)) (by decide +kernel) (by decide +kernel) k) ?_
  refine GoW.sg (mkF m 67 (Sh9 a1 0 0 20000 0) [(.double 4593671619917905920), (.double 13822459826220826624), (.double 4599087789366050816), (.ref a1)]) (fun t k => X128.ldc2DoubleC hx hown (mvT hZ (ww hw 40 rfl)) (g := (mkF m 64 (Sh9 a1 0 0 20000 0) [(.double 13822459826220826624), (.double 4599087789366050816), (.ref a1)])) rfl (hb hby d6_64) t k) ?_
  refine GoW.sg (mkF m 68 (Sh9 a1 0 0 20000 0) [(.double 13808949027338715136), (.double 4599087789366050816), (.ref a1)]) (fun t k => XS.dmulS X128.here hx rfl (hb hby d6_67) rfl (v := (13808949027338715136 : UInt64)) (by decide +kernel) (by decide +kernel) k) ?_
  refine GoW.sg (mkF m 69 (Sh9 a1 0 0 20000 0) [(.double 4598410768185032704), (.ref a1)]) (fun t k => XS.daddS X128.here hx rfl (hb hby d6_68) rfl (v := (4598410768185032704 : UInt64)) (by decide +kernel) (by decide +kernel) k) ?_
  obtain ⟨T129, h129, X129, e129, W129, st129⟩ := putF X128 hx hZ hown (host := "") (Or.inl (ww hw 11 rfl)) Via.refl e128 P1 P0 (Or.inl (ww hw 12 rfl)) (ww hw 3 rfl) (ty := .double) (by decide) rfl rfl (g := (mkF m 69 (Sh9 a1 0 0 20000 0) [(.double 4598410768185032704), (.ref a1)])) rfl rfl (hb hby d6_69)
  have N129 := Fr.snoc X129 N0 g_a1
  have Exa_a1_129 : Exa Z h129 a1 "com/example/spindle/spindle/SpinRule" := P0.wr W129
  have Fld_a1_handedOn_129 : Fld Z h129 a1 "com/example/spindle/spindle/SpinRule" "handedOn" "Z" (.int (0 : Int32)) := P2.other W129 (Or.inr (slot_ne (t := .boolean) (t' := .double) (Or.inl (ww hw 19 rfl)) (Or.inl (ww hw 12 rfl)) (by decide) (by decide) (by decide)))
  have Fld_a1_awaitsAnswer_129 : Fld Z h129 a1 "com/example/spindle/spindle/SpinRule" "awaitsAnswer" "Z" (.int (1 : Int32)) := P3.other W129 (Or.inr (slot_ne (t := .boolean) (t' := .double) (Or.inl (ww hw 27 rfl)) (Or.inl (ww hw 12 rfl)) (by decide) (by decide) (by decide)))
  have Keep_129 : Keep h0 h129 [a1] := (Keep.refl h0 [a1]).wr W129 (Or.inl (List.mem_of_getElem? (i := 0) rfl))
  have Fld_a1_answeredShare_129 : Fld Z h129 a1 "com/example/spindle/spindle/SpinRule" "answeredShare" "D" (.double (4598410768185032704 : UInt64)) := P1.same W129
  refine GoW.sg (mkF m 72 (Sh9 a1 0 0 20000 0) []) (fun t k => st129 t k) ?_
  refine GoW.retV X129 hx Bd.returns (hb hby d6_72) Bd.notSynchronized ?_ (by decide) (by decide)
  rw [e129]
  exact ⟨rfl, N129, Keep_129, Exa_a1_129, Fld_a1_answeredShare_129, Fld_a1_handedOn_129, Fld_a1_awaitsAnswer_129⟩
def Q5_14 (Z : State) (a1 : Addr) (h0 : Heap) (n0 : Nat) (v : Option Value) (h : Heap) (L : List Loc) : Prop := v = none ∧ Fr n0 L ∧ (Keep h0 h [a1]) ∧ (Exa Z h a1 "com/example/spindle/spindle/SpinRule") ∧ (Fld Z h a1 "com/example/spindle/spindle/SpinRule" "answeredShare" "D" (.double (4598410768185032704 : UInt64))) ∧ (Fld Z h a1 "com/example/spindle/spindle/SpinRule" "handedOn" "Z" (.int (0 : Int32))) ∧ (Fld Z h a1 "com/example/spindle/spindle/SpinRule" "awaitsAnswer" "Z" (.int (1 : Int32)))
theorem ef5_rm5_14 (m : MethodId) (a1 : Addr) : entryFrame m #[(.ref a1)] 1 = (mkF m 0 #[.val (.ref a1)] []) := by first | (simp [entryFrame, mkF, argsToLocals, Value.category, maxLocals]; done) | rfl
set_option maxRecDepth 65536 in
set_option maxHeartbeats 40000000 in
theorem rm5_14 (l : Launch) (Z : State) (a0 : Array Value) (hw : ∀ d ∈ tables_1, d.before a0 Z = true) (ws : List Jvm.Cond) (a1 : Addr)  (h0 : Heap) (n0 : Nat) (P0 : Exa Z h0 a1 "com/example/spindle/spindle/SpinRule") (P1 : Fld Z h0 a1 "com/example/spindle/spindle/SpinRule" "answeredShare" "D" (.double (4607182418800017408 : UInt64))) (P2 : Fld Z h0 a1 "com/example/spindle/spindle/SpinRule" "handedOn" "Z" (.int (0 : Int32))) (P3 : Fld Z h0 a1 "com/example/spindle/spindle/SpinRule" "awaitsAnswer" "Z" (.int (1 : Int32))) (g_a1 : n0 ≤ a1)    :
    MetFree l (⟨"com/example/spindle/spindle/SpinRuleCountWaitPinLaw", "decayTen", "(Lcom/example/spindle/spindle/SpinRule;)V"⟩ : MethodName) (head1 (Jvm.Cond.code (⟨"com/example/spindle/spindle/SpinRuleCountWaitPinLaw", "decayTen", "(Lcom/example/spindle/spindle/SpinRule;)V"⟩ : MethodName) method_3_code 1 none :: ws) ({ frames := 1, cells := 0, slots := 0, locals := 17 } : Room)) (fun a U => a = #[(.ref a1)] ∧ Z.Warmed39 U.vm ∧ U.heap = h0) (fun _ _ _ _ _ => True) (fun _ U o U' => ∃ v L, o = .returned v ∧ (Q5_14 Z a1 h0 n0) v U'.heap L ∧ FrameEnd U o U' L 0 0) := by
  refine MetFree.of_bodySF (plainFor_of_name pn_com_example_spindle_spindle_SpinRuleCountWaitPinLaw) hisR ?_
  intro p e s m args below meth c s₁ Bd hml0 hP hK
  obtain ⟨rfl, hZ, hh⟩ := hP
  have hx := Bd.exec
  have hby := Bd.bytes
  have hml : c.maxLocals = 1 := hml0
  have hown : s.vm.findClass "com/example/spindle/spindle/SpinRuleCountWaitPinLaw" = some m.cls := findClass_of_methodNamed Bd.named
  have hnm := (name_of_methodNamed Bd.named Bd.method).1
  have X0 : Stand p l e ({ frames := 1, cells := 0, slots := 0, locals := 17 } : Room) s m #[(.ref a1)] below meth c s₁ [] 0 0 := Stand.of_body Bd
  have e0 : s₁.heap = h0 := by rw [← hh, Bd.state]; rfl
  have N0 := Fr.nil n0
  refine GoW.mk ?_
  refine GoW.st (fun t k => castTop (ef5_rm5_14 m a1) k) ?_
  show GoW p e below s (Q5_14 Z a1 h0 n0) 0 0 (s₁.setTop (mkF m 0 #[.val (.ref a1)] []))
  refine GoW.sg (mkF m 1 #[.val (.ref a1)] [(.ref a1)]) (fun t k => XS.aloadN X0.here hx rfl (hb hby d5_0) rfl rfl k) ?_
  refine GoW.sg (mkF m 2 #[.val (.ref a1)] [(.int 0), (.ref a1)]) (fun t k => XS.iconst X0.here hx rfl (hb hby d5_1) k) ?_
  refine GoW.sg (mkF m 3 #[.val (.ref a1)] [(.int 0), (.int 0), (.ref a1)]) (fun t k => XS.iconst X0.here hx rfl (hb hby d5_2) k) ?_
  refine GoW.sg (mkF m 6 #[.val (.ref a1)] [(.long 20000), (.int 0), (.int 0), (.ref a1)]) (fun t k => X0.ldc2Long hx hown (mvT hZ (ww hw 34 rfl)) (g := (mkF m 3 #[.val (.ref a1)] [(.int 0), (.int 0), (.ref a1)])) rfl (hb hby d5_3) t k) ?_
  obtain ⟨cq131, kq131, q131a, q131b, q131c⟩ := isOf hZ e0 P0
  obtain ⟨_, _, ⟨T131, L131, k131, n131⟩, -, X131, ⟨Lc131, hQ131, l131, y131, z131⟩, st131⟩ := X0.virtualBack hx (y := (⟨"com/example/spindle/spindle/SpinRule", "countWait", "(ZZJ)V"⟩ : MethodName)) (z := (⟨"com/example/spindle/spindle/SpinRule", "countWait", "(ZZJ)V"⟩ : MethodName)) hown (mvT hZ (ww hw 35 rfl)) (mvT hZ (ww hw 36 rfl)) (notFace_of_selects (args := #[]) (mvT hZ (ww hw 38 rfl))) (mvT hZ (ww hw 38 rfl)) (mvT hZ (ww hw 37 rfl)) (by decide) (backOf (W := 0) (rm6_4 l Z a0 hw [] a1  h0 n0  P0 P1 P2 P3 g_a1   ) hZ (ww hw 39 rfl) (ww hw 4 rfl) (by decide) (by decide)) q131a q131c (g := (mkF m 6 #[.val (.ref a1)] [(.long 20000), (.int 0), (.int 0), (.ref a1)])) rfl (by rw [hml]; rfl) (Steps.refl _) (argsL := [(.int (0 : Int32)), (.int (0 : Int32)), (.long (20000 : Int64))]) (rest := []) (lenOf pd_28ZZJ29V rfl) rfl (by show 2 * 0 + _ ≤ _; exact Nat.le_of_eq rfl) (hb hby d5_6) (fun _ _ => ⟨rfl, e0, (by decide : 0 + 0 ≤ _), (by decide : 0 + 0 ≤ _)⟩)
  dsimp only [Pt.U, Pt.locs, Pt.cells, Pt.slots] at X131 l131 y131 z131 st131 hQ131
  subst l131 y131 z131
  obtain ⟨rfl, N131q, K131, p131_0, p131_1, p131_2, p131_3⟩ := hQ131
  have N131 := Fr.app N0 N131q
  have Keep_131 : Keep h0 T131.heap [a1] := (Keep.refl h0 [a1]).trans K131 (allS (Or.inl (List.mem_of_getElem? (i := 0) rfl)) all0)
  refine GoW.sg (mkF m 9 #[.val (.ref a1)] []) (fun t k => st131.trans k) ?_
  refine GoW.sg (mkF m 10 #[.val (.ref a1)] [(.ref a1)]) (fun t k => XS.aloadN X131.here hx rfl (hb hby d5_9) rfl rfl k) ?_
  refine GoW.sg (mkF m 11 #[.val (.ref a1)] [(.int 0), (.ref a1)]) (fun t k => XS.iconst X131.here hx rfl (hb hby d5_10) k) ?_
  refine GoW.sg (mkF m 12 #[.val (.ref a1)] [(.int 0), (.int 0), (.ref a1)]) (fun t k => XS.iconst X131.here hx rfl (hb hby d5_11) k) ?_
  refine GoW.sg (mkF m 15 #[.val (.ref a1)] [(.long 20000), (.int 0), (.int 0), (.ref a1)]) (fun t k => X131.ldc2Long hx hown (mvT hZ (ww hw 34 rfl)) (g := (mkF m 12 #[.val (.ref a1)] [(.int 0), (.int 0), (.ref a1)])) rfl (hb hby d5_12) t k) ?_
  obtain ⟨cq132, kq132, q132a, q132b, q132c⟩ := isOf hZ rfl p131_0
  obtain ⟨_, _, ⟨T132, L132, k132, n132⟩, -, X132, ⟨Lc132, hQ132, l132, y132, z132⟩, st132⟩ := X131.virtualBack hx (y := (⟨"com/example/spindle/spindle/SpinRule", "countWait", "(ZZJ)V"⟩ : MethodName)) (z := (⟨"com/example/spindle/spindle/SpinRule", "countWait", "(ZZJ)V"⟩ : MethodName)) hown (mvT hZ (ww hw 35 rfl)) (mvT hZ (ww hw 36 rfl)) (notFace_of_selects (args := #[]) (mvT hZ (ww hw 38 rfl))) (mvT hZ (ww hw 38 rfl)) (mvT hZ (ww hw 37 rfl)) (by decide) (backOf (W := 0) (rm6_5 l Z a0 hw [] a1  T131.heap n0  p131_0 p131_1 p131_2 p131_3 g_a1   ) hZ (ww hw 39 rfl) (ww hw 4 rfl) (by decide) (by decide)) q132a q132c (g := (mkF m 15 #[.val (.ref a1)] [(.long 20000), (.int 0), (.int 0), (.ref a1)])) rfl (by rw [hml]; rfl) (Steps.refl _) (argsL := [(.int (0 : Int32)), (.int (0 : Int32)), (.long (20000 : Int64))]) (rest := []) (lenOf pd_28ZZJ29V rfl) rfl (by show 2 * 0 + _ ≤ _; exact Nat.le_of_eq rfl) (hb hby d5_15) (fun _ _ => ⟨rfl, rfl, (by decide : 0 + 0 ≤ _), (by decide : 0 + 0 ≤ _)⟩)
  dsimp only [Pt.U, Pt.locs, Pt.cells, Pt.slots] at X132 l132 y132 z132 st132 hQ132
  subst l132 y132 z132
  obtain ⟨rfl, N132q, K132, p132_0, p132_1, p132_2, p132_3⟩ := hQ132
  have N132 := Fr.app N131 N132q
  have Keep_132 : Keep h0 T132.heap [a1] := Keep_131.trans K132 (allS (Or.inl (List.mem_of_getElem? (i := 0) rfl)) all0)
  refine GoW.sg (mkF m 18 #[.val (.ref a1)] []) (fun t k => st132.trans k) ?_
  refine GoW.sg (mkF m 19 #[.val (.ref a1)] [(.ref a1)]) (fun t k => XS.aloadN X132.here hx rfl (hb hby d5_18) rfl rfl k) ?_
  refine GoW.sg (mkF m 20 #[.val (.ref a1)] [(.int 0), (.ref a1)]) (fun t k => XS.iconst X132.here hx rfl (hb hby d5_19) k) ?_
  refine GoW.sg (mkF m 21 #[.val (.ref a1)] [(.int 0), (.int 0), (.ref a1)]) (fun t k => XS.iconst X132.here hx rfl (hb hby d5_20) k) ?_
  refine GoW.sg (mkF m 24 #[.val (.ref a1)] [(.long 20000), (.int 0), (.int 0), (.ref a1)]) (fun t k => X132.ldc2Long hx hown (mvT hZ (ww hw 34 rfl)) (g := (mkF m 21 #[.val (.ref a1)] [(.int 0), (.int 0), (.ref a1)])) rfl (hb hby d5_21) t k) ?_
  obtain ⟨cq133, kq133, q133a, q133b, q133c⟩ := isOf hZ rfl p132_0
  obtain ⟨_, _, ⟨T133, L133, k133, n133⟩, -, X133, ⟨Lc133, hQ133, l133, y133, z133⟩, st133⟩ := X132.virtualBack hx (y := (⟨"com/example/spindle/spindle/SpinRule", "countWait", "(ZZJ)V"⟩ : MethodName)) (z := (⟨"com/example/spindle/spindle/SpinRule", "countWait", "(ZZJ)V"⟩ : MethodName)) hown (mvT hZ (ww hw 35 rfl)) (mvT hZ (ww hw 36 rfl)) (notFace_of_selects (args := #[]) (mvT hZ (ww hw 38 rfl))) (mvT hZ (ww hw 38 rfl)) (mvT hZ (ww hw 37 rfl)) (by decide) (backOf (W := 0) (rm6_6 l Z a0 hw [] a1  T132.heap n0  p132_0 p132_1 p132_2 p132_3 g_a1   ) hZ (ww hw 39 rfl) (ww hw 4 rfl) (by decide) (by decide)) q133a q133c (g := (mkF m 24 #[.val (.ref a1)] [(.long 20000), (.int 0), (.int 0), (.ref a1)])) rfl (by rw [hml]; rfl) (Steps.refl _) (argsL := [(.int (0 : Int32)), (.int (0 : Int32)), (.long (20000 : Int64))]) (rest := []) (lenOf pd_28ZZJ29V rfl) rfl (by show 2 * 0 + _ ≤ _; exact Nat.le_of_eq rfl) (hb hby d5_24) (fun _ _ => ⟨rfl, rfl, (by decide : 0 + 0 ≤ _), (by decide : 0 + 0 ≤ _)⟩)
  dsimp only [Pt.U, Pt.locs, Pt.cells, Pt.slots] at X133 l133 y133 z133 st133 hQ133
  subst l133 y133 z133
  obtain ⟨rfl, N133q, K133, p133_0, p133_1, p133_2, p133_3⟩ := hQ133
  have N133 := Fr.app N132 N133q
  have Keep_133 : Keep h0 T133.heap [a1] := Keep_132.trans K133 (allS (Or.inl (List.mem_of_getElem? (i := 0) rfl)) all0)
  refine GoW.sg (mkF m 27 #[.val (.ref a1)] []) (fun t k => st133.trans k) ?_
  refine GoW.sg (mkF m 28 #[.val (.ref a1)] [(.ref a1)]) (fun t k => XS.aloadN X133.here hx rfl (hb hby d5_27) rfl rfl k) ?_
  refine GoW.sg (mkF m 29 #[.val (.ref a1)] [(.int 0), (.ref a1)]) (fun t k => XS.iconst X133.here hx rfl (hb hby d5_28) k) ?_
  refine GoW.sg (mkF m 30 #[.val (.ref a1)] [(.int 0), (.int 0), (.ref a1)]) (fun t k => XS.iconst X133.here hx rfl (hb hby d5_29) k) ?_
  refine GoW.sg (mkF m 33 #[.val (.ref a1)] [(.long 20000), (.int 0), (.int 0), (.ref a1)]) (fun t k => X133.ldc2Long hx hown (mvT hZ (ww hw 34 rfl)) (g := (mkF m 30 #[.val (.ref a1)] [(.int 0), (.int 0), (.ref a1)])) rfl (hb hby d5_30) t k) ?_
  obtain ⟨cq134, kq134, q134a, q134b, q134c⟩ := isOf hZ rfl p133_0
  obtain ⟨_, _, ⟨T134, L134, k134, n134⟩, -, X134, ⟨Lc134, hQ134, l134, y134, z134⟩, st134⟩ := X133.virtualBack hx (y := (⟨"com/example/spindle/spindle/SpinRule", "countWait", "(ZZJ)V"⟩ : MethodName)) (z := (⟨"com/example/spindle/spindle/SpinRule", "countWait", "(ZZJ)V"⟩ : MethodName)) hown (mvT hZ (ww hw 35 rfl)) (mvT hZ (ww hw 36 rfl)) (notFace_of_selects (args := #[]) (mvT hZ (ww hw 38 rfl))) (mvT hZ (ww hw 38 rfl)) (mvT hZ (ww hw 37 rfl)) (by decide) (backOf (W := 0) (rm6_7 l Z a0 hw [] a1  T133.heap n0  p133_0 p133_1 p133_2 p133_3 g_a1   ) hZ (ww hw 39 rfl) (ww hw 4 rfl) (by decide) (by decide)) q134a q134c (g := (mkF m 33 #[.val (.ref a1)] [(.long 20000), (.int 0), (.int 0), (.ref a1)])) rfl (by rw [hml]; rfl) (Steps.refl _) (argsL := [(.int (0 : Int32)), (.int (0 : Int32)), (.long (20000 : Int64))]) (rest := []) (lenOf pd_28ZZJ29V rfl) rfl (by show 2 * 0 + _ ≤ _; exact Nat.le_of_eq rfl) (hb hby d5_33) (fun _ _ => ⟨rfl, rfl, (by decide : 0 + 0 ≤ _), (by decide : 0 + 0 ≤ _)⟩)
  dsimp only [Pt.U, Pt.locs, Pt.cells, Pt.slots] at X134 l134 y134 z134 st134 hQ134
  subst l134 y134 z134
  obtain ⟨rfl, N134q, K134, p134_0, p134_1, p134_2, p134_3⟩ := hQ134
  have N134 := Fr.app N133 N134q
  have Keep_134 : Keep h0 T134.heap [a1] := Keep_133.trans K134 (allS (Or.inl (List.mem_of_getElem? (i := 0) rfl)) all0)
  refine GoW.sg (mkF m 36 #[.val (.ref a1)] []) (fun t k => st134.trans k) ?_
  refine GoW.sg (mkF m 37 #[.val (.ref a1)] [(.ref a1)]) (fun t k => XS.aloadN X134.here hx rfl (hb hby d5_36) rfl rfl k) ?_
  refine GoW.sg (mkF m 38 #[.val (.ref a1)] [(.int 0), (.ref a1)]) (fun t k => XS.iconst X134.here hx rfl (hb hby d5_37) k) ?_
  refine GoW.sg (mkF m 39 #[.val (.ref a1)] [(.int 0), (.int 0), (.ref a1)]) (fun t k => XS.iconst X134.here hx rfl (hb hby d5_38) k) ?_
  refine GoW.sg (mkF m 42 #[.val (.ref a1)] [(.long 20000), (.int 0), (.int 0), (.ref a1)]) (fun t k => X134.ldc2Long hx hown (mvT hZ (ww hw 34 rfl)) (g := (mkF m 39 #[.val (.ref a1)] [(.int 0), (.int 0), (.ref a1)])) rfl (hb hby d5_39) t k) ?_
  obtain ⟨cq135, kq135, q135a, q135b, q135c⟩ := isOf hZ rfl p134_0
  obtain ⟨_, _, ⟨T135, L135, k135, n135⟩, -, X135, ⟨Lc135, hQ135, l135, y135, z135⟩, st135⟩ := X134.virtualBack hx (y := (⟨"com/example/spindle/spindle/SpinRule", "countWait", "(ZZJ)V"⟩ : MethodName)) (z := (⟨"com/example/spindle/spindle/SpinRule", "countWait", "(ZZJ)V"⟩ : MethodName)) hown (mvT hZ (ww hw 35 rfl)) (mvT hZ (ww hw 36 rfl)) (notFace_of_selects (args := #[]) (mvT hZ (ww hw 38 rfl))) (mvT hZ (ww hw 38 rfl)) (mvT hZ (ww hw 37 rfl)) (by decide) (backOf (W := 0) (rm6_8 l Z a0 hw [] a1  T134.heap n0  p134_0 p134_1 p134_2 p134_3 g_a1   ) hZ (ww hw 39 rfl) (ww hw 4 rfl) (by decide) (by decide)) q135a q135c (g := (mkF m 42 #[.val (.ref a1)] [(.long 20000), (.int 0), (.int 0), (.ref a1)])) rfl (by rw [hml]; rfl) (Steps.refl _) (argsL := [(.int (0 : Int32)), (.int (0 : Int32)), (.long (20000 : Int64))]) (rest := []) (lenOf pd_28ZZJ29V rfl) rfl (by show 2 * 0 + _ ≤ _; exact Nat.le_of_eq rfl) (hb hby d5_42) (fun _ _ => ⟨rfl, rfl, (by decide : 0 + 0 ≤ _), (by decide : 0 + 0 ≤ _)⟩)
  dsimp only [Pt.U, Pt.locs, Pt.cells, Pt.slots] at X135 l135 y135 z135 st135 hQ135
  subst l135 y135 z135
  obtain ⟨rfl, N135q, K135, p135_0, p135_1, p135_2, p135_3⟩ := hQ135
  have N135 := Fr.app N134 N135q
  have Keep_135 : Keep h0 T135.heap [a1] := Keep_134.trans K135 (allS (Or.inl (List.mem_of_getElem? (i := 0) rfl)) all0)
  refine GoW.sg (mkF m 45 #[.val (.ref a1)] []) (fun t k => st135.trans k) ?_
  refine GoW.sg (mkF m 46 #[.val (.ref a1)] [(.ref a1)]) (fun t k => XS.aloadN X135.here hx rfl (hb hby d5_45) rfl rfl k) ?_
  refine GoW.sg (mkF m 47 #[.val (.ref a1)] [(.int 0), (.ref a1)]) (fun t k => XS.iconst X135.here hx rfl (hb hby d5_46) k) ?_
  refine GoW.sg (mkF m 48 #[.val (.ref a1)] [(.int 0), (.int 0), (.ref a1)]) (fun t k => XS.iconst X135.here hx rfl (hb hby d5_47) k) ?_
  refine GoW.sg (mkF m 51 #[.val (.ref a1)] [(.long 20000), (.int 0), (.int 0), (.ref a1)]) (fun t k => X135.ldc2Long hx hown (mvT hZ (ww hw 34 rfl)) (g := (mkF m 48 #[.val (.ref a1)] [(.int 0), (.int 0), (.ref a1)])) rfl (hb hby d5_48) t k) ?_
  obtain ⟨cq136, kq136, q136a, q136b, q136c⟩ := isOf hZ rfl p135_0
  obtain ⟨_, _, ⟨T136, L136, k136, n136⟩, -, X136, ⟨Lc136, hQ136, l136, y136, z136⟩, st136⟩ := X135.virtualBack hx (y := (⟨"com/example/spindle/spindle/SpinRule", "countWait", "(ZZJ)V"⟩ : MethodName)) (z := (⟨"com/example/spindle/spindle/SpinRule", "countWait", "(ZZJ)V"⟩ : MethodName)) hown (mvT hZ (ww hw 35 rfl)) (mvT hZ (ww hw 36 rfl)) (notFace_of_selects (args := #[]) (mvT hZ (ww hw 38 rfl))) (mvT hZ (ww hw 38 rfl)) (mvT hZ (ww hw 37 rfl)) (by decide) (backOf (W := 0) (rm6_9 l Z a0 hw [] a1  T135.heap n0  p135_0 p135_1 p135_2 p135_3 g_a1   ) hZ (ww hw 39 rfl) (ww hw 4 rfl) (by decide) (by decide)) q136a q136c (g := (mkF m 51 #[.val (.ref a1)] [(.long 20000), (.int 0), (.int 0), (.ref a1)])) rfl (by rw [hml]; rfl) (Steps.refl _) (argsL := [(.int (0 : Int32)), (.int (0 : Int32)), (.long (20000 : Int64))]) (rest := []) (lenOf pd_28ZZJ29V rfl) rfl (by show 2 * 0 + _ ≤ _; exact Nat.le_of_eq rfl) (hb hby d5_51) (fun _ _ => ⟨rfl, rfl, (by decide : 0 + 0 ≤ _), (by decide : 0 + 0 ≤ _)⟩)
  dsimp only [Pt.U, Pt.locs, Pt.cells, Pt.slots] at X136 l136 y136 z136 st136 hQ136
  subst l136 y136 z136
  obtain ⟨rfl, N136q, K136, p136_0, p136_1, p136_2, p136_3⟩ := hQ136
  have N136 := Fr.app N135 N136q
  have Keep_136 : Keep h0 T136.heap [a1] := Keep_135.trans K136 (allS (Or.inl (List.mem_of_getElem? (i := 0) rfl)) all0)
  refine GoW.sg (mkF m 54 #[.val (.ref a1)] []) (fun t k => st136.trans k) ?_
  refine GoW.sg (mkF m 55 #[.val (.ref a1)] [(.ref a1)]) (fun t k => XS.aloadN X136.here hx rfl (hb hby d5_54) rfl rfl k) ?_
  refine GoW.sg (mkF m 56 #[.val (.ref a1)] [(.int 0), (.ref a1)]) (fun t k => XS.iconst X136.here hx rfl (hb hby d5_55) k) ?_
  refine GoW.sg (mkF m 57 #[.val (.ref a1)] [(.int 0), (.int 0), (.ref a1)]) (fun t k => XS.iconst X136.here hx rfl (hb hby d5_56) k) ?_
  refine GoW.sg (mkF m 60 #[.val (.ref a1)] [(.long 20000), (.int 0), (.int 0), (.ref a1)]) (fun t k => X136.ldc2Long hx hown (mvT hZ (ww hw 34 rfl)) (g := (mkF m 57 #[.val (.ref a1)] [(.int 0), (.int 0), (.ref a1)])) rfl (hb hby d5_57) t k) ?_
  obtain ⟨cq137, kq137, q137a, q137b, q137c⟩ := isOf hZ rfl p136_0
  obtain ⟨_, _, ⟨T137, L137, k137, n137⟩, -, X137, ⟨Lc137, hQ137, l137, y137, z137⟩, st137⟩ := X136.virtualBack hx (y := (⟨"com/example/spindle/spindle/SpinRule", "countWait", "(ZZJ)V"⟩ : MethodName)) (z := (⟨"com/example/spindle/spindle/SpinRule", "countWait", "(ZZJ)V"⟩ : MethodName)) hown (mvT hZ (ww hw 35 rfl)) (mvT hZ (ww hw 36 rfl)) (notFace_of_selects (args := #[]) (mvT hZ (ww hw 38 rfl))) (mvT hZ (ww hw 38 rfl)) (mvT hZ (ww hw 37 rfl)) (by decide) (backOf (W := 0) (rm6_10 l Z a0 hw [] a1  T136.heap n0  p136_0 p136_1 p136_2 p136_3 g_a1   ) hZ (ww hw 39 rfl) (ww hw 4 rfl) (by decide) (by decide)) q137a q137c (g := (mkF m 60 #[.val (.ref a1)] [(.long 20000), (.int 0), (.int 0), (.ref a1)])) rfl (by rw [hml]; rfl) (Steps.refl _) (argsL := [(.int (0 : Int32)), (.int (0 : Int32)), (.long (20000 : Int64))]) (rest := []) (lenOf pd_28ZZJ29V rfl) rfl (by show 2 * 0 + _ ≤ _; exact Nat.le_of_eq rfl) (hb hby d5_60) (fun _ _ => ⟨rfl, rfl, (by decide : 0 + 0 ≤ _), (by decide : 0 + 0 ≤ _)⟩)
  dsimp only [Pt.U, Pt.locs, Pt.cells, Pt.slots] at X137 l137 y137 z137 st137 hQ137
  subst l137 y137 z137
  obtain ⟨rfl, N137q, K137, p137_0, p137_1, p137_2, p137_3⟩ := hQ137
  have N137 := Fr.app N136 N137q
  have Keep_137 : Keep h0 T137.heap [a1] := Keep_136.trans K137 (allS (Or.inl (List.mem_of_getElem? (i := 0) rfl)) all0)
  refine GoW.sg (mkF m 63 #[.val (.ref a1)] []) (fun t k => st137.trans k) ?_
  refine GoW.sg (mkF m 64 #[.val (.ref a1)] [(.ref a1)]) (fun t k => XS.aloadN X137.here hx rfl (hb hby d5_63) rfl rfl k) ?_
  refine GoW.sg (mkF m 65 #[.val (.ref a1)] [(.int 0), (.ref a1)]) (fun t k => XS.iconst X137.here hx rfl (hb hby d5_64) k) ?_
  refine GoW.sg (mkF m 66 #[.val (.ref a1)] [(.int 0), (.int 0), (.ref a1)]) (fun t k => XS.iconst X137.here hx rfl (hb hby d5_65) k) ?_
  refine GoW.sg (mkF m 69 #[.val (.ref a1)] [(.long 20000), (.int 0), (.int 0), (.ref a1)]) (fun t k => X137.ldc2Long hx hown (mvT hZ (ww hw 34 rfl)) (g := (mkF m 66 #[.val (.ref a1)] [(.int 0), (.int 0), (.ref a1)])) rfl (hb hby d5_66) t k) ?_
  obtain ⟨cq138, kq138, q138a, q138b, q138c⟩ := isOf hZ rfl p137_0
  obtain ⟨_, _, ⟨T138, L138, k138, n138⟩, -, X138, ⟨Lc138, hQ138, l138, y138, z138⟩, st138⟩ := X137.virtualBack hx (y := (⟨"com/example/spindle/spindle/SpinRule", "countWait", "(ZZJ)V"⟩ : MethodName)) (z := (⟨"com/example/spindle/spindle/SpinRule", "countWait", "(ZZJ)V"⟩ : MethodName)) hown (mvT hZ (ww hw 35 rfl)) (mvT hZ (ww hw 36 rfl)) (notFace_of_selects (args := #[]) (mvT hZ (ww hw 38 rfl))) (mvT hZ (ww hw 38 rfl)) (mvT hZ (ww hw 37 rfl)) (by decide) (backOf (W := 0) (rm6_11 l Z a0 hw [] a1  T137.heap n0  p137_0 p137_1 p137_2 p137_3 g_a1   ) hZ (ww hw 39 rfl) (ww hw 4 rfl) (by decide) (by decide)) q138a q138c (g := (mkF m 69 #[.val (.ref a1)] [(.long 20000), (.int 0), (.int 0), (.ref a1)])) rfl (by rw [hml]; rfl) (Steps.refl _) (argsL := [(.int (0 : Int32)), (.int (0 : Int32)), (.long (20000 : Int64))]) (rest := []) (lenOf pd_28ZZJ29V rfl) rfl (by show 2 * 0 + _ ≤ _; exact Nat.le_of_eq rfl) (hb hby d5_69) (fun _ _ => ⟨rfl, rfl, (by decide : 0 + 0 ≤ _), (by decide : 0 + 0 ≤ _)⟩)
  dsimp only [Pt.U, Pt.locs, Pt.cells, Pt.slots] at X138 l138 y138 z138 st138 hQ138
  subst l138 y138 z138
  obtain ⟨rfl, N138q, K138, p138_0, p138_1, p138_2, p138_3⟩ := hQ138
  have N138 := Fr.app N137 N138q
  have Keep_138 : Keep h0 T138.heap [a1] := Keep_137.trans K138 (allS (Or.inl (List.mem_of_getElem? (i := 0) rfl)) all0)
  refine GoW.sg (mkF m 72 #[.val (.ref a1)] []) (fun t k => st138.trans k) ?_
  refine GoW.sg (mkF m 73 #[.val (.ref a1)] [(.ref a1)]) (fun t k => XS.aloadN X138.here hx rfl (hb hby d5_72) rfl rfl k) ?_
  refine GoW.sg (mkF m 74 #[.val (.ref a1)] [(.int 0), (.ref a1)]) (fun t k => XS.iconst X138.here hx rfl (hb hby d5_73) k) ?_
  refine GoW.sg (mkF m 75 #[.val (.ref a1)] [(.int 0), (.int 0), (.ref a1)]) (fun t k => XS.iconst X138.here hx rfl (hb hby d5_74) k) ?_
  refine GoW.sg (mkF m 78 #[.val (.ref a1)] [(.long 20000), (.int 0), (.int 0), (.ref a1)]) (fun t k => X138.ldc2Long hx hown (mvT hZ (ww hw 34 rfl)) (g := (mkF m 75 #[.val (.ref a1)] [(.int 0), (.int 0), (.ref a1)])) rfl (hb hby d5_75) t k) ?_
  obtain ⟨cq139, kq139, q139a, q139b, q139c⟩ := isOf hZ rfl p138_0
  obtain ⟨_, _, ⟨T139, L139, k139, n139⟩, -, X139, ⟨Lc139, hQ139, l139, y139, z139⟩, st139⟩ := X138.virtualBack hx (y := (⟨"com/example/spindle/spindle/SpinRule", "countWait", "(ZZJ)V"⟩ : MethodName)) (z := (⟨"com/example/spindle/spindle/SpinRule", "countWait", "(ZZJ)V"⟩ : MethodName)) hown (mvT hZ (ww hw 35 rfl)) (mvT hZ (ww hw 36 rfl)) (notFace_of_selects (args := #[]) (mvT hZ (ww hw 38 rfl))) (mvT hZ (ww hw 38 rfl)) (mvT hZ (ww hw 37 rfl)) (by decide) (backOf (W := 0) (rm6_12 l Z a0 hw [] a1  T138.heap n0  p138_0 p138_1 p138_2 p138_3 g_a1   ) hZ (ww hw 39 rfl) (ww hw 4 rfl) (by decide) (by decide)) q139a q139c (g := (mkF m 78 #[.val (.ref a1)] [(.long 20000), (.int 0), (.int 0), (.ref a1)])) rfl (by rw [hml]; rfl) (Steps.refl _) (argsL := [(.int (0 : Int32)), (.int (0 : Int32)), (.long (20000 : Int64))]) (rest := []) (lenOf pd_28ZZJ29V rfl) rfl (by show 2 * 0 + _ ≤ _; exact Nat.le_of_eq rfl) (hb hby d5_78) (fun _ _ => ⟨rfl, rfl, (by decide : 0 + 0 ≤ _), (by decide : 0 + 0 ≤ _)⟩)
  dsimp only [Pt.U, Pt.locs, Pt.cells, Pt.slots] at X139 l139 y139 z139 st139 hQ139
  subst l139 y139 z139
  obtain ⟨rfl, N139q, K139, p139_0, p139_1, p139_2, p139_3⟩ := hQ139
  have N139 := Fr.app N138 N139q
  have Keep_139 : Keep h0 T139.heap [a1] := Keep_138.trans K139 (allS (Or.inl (List.mem_of_getElem? (i := 0) rfl)) all0)
  refine GoW.sg (mkF m 81 #[.val (.ref a1)] []) (fun t k => st139.trans k) ?_
  refine GoW.sg (mkF m 82 #[.val (.ref a1)] [(.ref a1)]) (fun t k => XS.aloadN X139.here hx rfl (hb hby d5_81) rfl rfl k) ?_
  refine GoW.sg (mkF m 83 #[.val (.ref a1)] [(.int 0), (.ref a1)]) (fun t k => XS.iconst X139.here hx rfl (hb hby d5_82) k) ?_
  refine GoW.sg (mkF m 84 #[.val (.ref a1)] [(.int 0), (.int 0), (.ref a1)]) (fun t k => XS.iconst X139.here hx rfl (hb hby d5_83) k) ?_
  refine GoW.sg (mkF m 87 #[.val (.ref a1)] [(.long 20000), (.int 0), (.int 0), (.ref a1)]) (fun t k => X139.ldc2Long hx hown (mvT hZ (ww hw 34 rfl)) (g := (mkF m 84 #[.val (.ref a1)] [(.int 0), (.int 0), (.ref a1)])) rfl (hb hby d5_84) t k) ?_
  obtain ⟨cq140, kq140, q140a, q140b, q140c⟩ := isOf hZ rfl p139_0
  obtain ⟨_, _, ⟨T140, L140, k140, n140⟩, -, X140, ⟨Lc140, hQ140, l140, y140, z140⟩, st140⟩ := X139.virtualBack hx (y := (⟨"com/example/spindle/spindle/SpinRule", "countWait", "(ZZJ)V"⟩ : MethodName)) (z := (⟨"com/example/spindle/spindle/SpinRule", "countWait", "(ZZJ)V"⟩ : MethodName)) hown (mvT hZ (ww hw 35 rfl)) (mvT hZ (ww hw 36 rfl)) (notFace_of_selects (args := #[]) (mvT hZ (ww hw 38 rfl))) (mvT hZ (ww hw 38 rfl)) (mvT hZ (ww hw 37 rfl)) (by decide) (backOf (W := 0) (rm6_13 l Z a0 hw [] a1  T139.heap n0  p139_0 p139_1 p139_2 p139_3 g_a1   ) hZ (ww hw 39 rfl) (ww hw 4 rfl) (by decide) (by decide)) q140a q140c (g := (mkF m 87 #[.val (.ref a1)] [(.long 20000), (.int 0), (.int 0), (.ref a1)])) rfl (by rw [hml]; rfl) (Steps.refl _) (argsL := [(.int (0 : Int32)), (.int (0 : Int32)), (.long (20000 : Int64))]) (rest := []) (lenOf pd_28ZZJ29V rfl) rfl (by show 2 * 0 + _ ≤ _; exact Nat.le_of_eq rfl) (hb hby d5_87) (fun _ _ => ⟨rfl, rfl, (by decide : 0 + 0 ≤ _), (by decide : 0 + 0 ≤ _)⟩)
  dsimp only [Pt.U, Pt.locs, Pt.cells, Pt.slots] at X140 l140 y140 z140 st140 hQ140
  subst l140 y140 z140
  obtain ⟨rfl, N140q, K140, p140_0, p140_1, p140_2, p140_3⟩ := hQ140
  have N140 := Fr.app N139 N140q
  have Keep_140 : Keep h0 T140.heap [a1] := Keep_139.trans K140 (allS (Or.inl (List.mem_of_getElem? (i := 0) rfl)) all0)
  refine GoW.sg (mkF m 90 #[.val (.ref a1)] []) (fun t k => st140.trans k) ?_
  refine GoW.retV X140 hx Bd.returns (hb hby d5_90) Bd.notSynchronized ?_ (by decide) (by decide)
  exact ⟨rfl, N140, Keep_140, p140_0, p140_1, p140_2, p140_3⟩
def Q4_15 (Z : State) (a1 : Addr) (h0 : Heap) (n0 : Nat) (v : Option Value) (h : Heap) (L : List Loc) : Prop := v = some (.long (0 : Int64)) ∧ Fr n0 L ∧ (Keep h0 h [a1]) ∧ (Exa Z h a1 "com/example/spindle/spindle/SpinRule") ∧ (Fld Z h a1 "com/example/spindle/spindle/SpinRule" "answeredShare" "D" (.double (4598410768185032704 : UInt64))) ∧ (Fld Z h a1 "com/example/spindle/spindle/SpinRule" "handedOn" "Z" (.int (0 : Int32))) ∧ (Fld Z h a1 "com/example/spindle/spindle/SpinRule" "awaitsAnswer" "Z" (.int (0 : Int32)))
theorem ef4_rm4_15 (m : MethodId) (a1 : Addr) : entryFrame m #[(.ref a1), (.long (9223372036854775807 : Int64))] 3 = (mkF m 0 #[.val (.ref a1), .val (.long 9223372036854775807), .second] []) := by first | (simp [entryFrame, mkF, argsToLocals, Value.category, maxLocals]; done) | rfl
set_option maxRecDepth 65536 in
set_option maxHeartbeats 40000000 in
theorem rm4_15 (l : Launch) (Z : State) (a0 : Array Value) (hw : ∀ d ∈ tables_1, d.before a0 Z = true) (ws : List Jvm.Cond) (a1 : Addr)  (h0 : Heap) (n0 : Nat) (P0 : Exa Z h0 a1 "com/example/spindle/spindle/SpinRule") (P1 : Fld Z h0 a1 "com/example/spindle/spindle/SpinRule" "answeredShare" "D" (.double (4598410768185032704 : UInt64))) (P2 : Fld Z h0 a1 "com/example/spindle/spindle/SpinRule" "handedOn" "Z" (.int (0 : Int32))) (P3 : Fld Z h0 a1 "com/example/spindle/spindle/SpinRule" "awaitsAnswer" "Z" (.int (1 : Int32))) (g_a1 : n0 ≤ a1)    :
    MetFree l (⟨"com/example/spindle/spindle/SpinRule", "spinNanos", "(J)J"⟩ : MethodName) (head1 (Jvm.Cond.code (⟨"com/example/spindle/spindle/SpinRule", "spinNanos", "(J)J"⟩ : MethodName) prog_40_method_3_code 3 (some .long) :: ws) ({ frames := 0, cells := 0, slots := 0, locals := 0 } : Room)) (fun a U => a = #[(.ref a1), (.long (9223372036854775807 : Int64))] ∧ Z.Warmed39 U.vm ∧ U.heap = h0) (fun _ _ _ _ _ => True) (fun _ U o U' => ∃ v L, o = .returned v ∧ (Q4_15 Z a1 h0 n0) v U'.heap L ∧ FrameEnd U o U' L 0 0) := by
  refine MetFree.of_bodySF (plainFor_of_name pn_com_example_spindle_spindle_SpinRule) hisR ?_
  intro p e s m args below meth c s₁ Bd hml0 hP hK
  obtain ⟨rfl, hZ, hh⟩ := hP
  have hx := Bd.exec
  have hby := Bd.bytes
  have hml : c.maxLocals = 3 := hml0
  have hown : s.vm.findClass "com/example/spindle/spindle/SpinRule" = some m.cls := findClass_of_methodNamed Bd.named
  have hnm := (name_of_methodNamed Bd.named Bd.method).1
  have X0 : Stand p l e ({ frames := 0, cells := 0, slots := 0, locals := 0 } : Room) s m #[(.ref a1), (.long (9223372036854775807 : Int64))] below meth c s₁ [] 0 0 := Stand.of_body Bd
  have e0 : s₁.heap = h0 := by rw [← hh, Bd.state]; rfl
  have N0 := Fr.nil n0
  refine GoW.mk ?_
  refine GoW.st (fun t k => castTop (ef4_rm4_15 m a1) k) ?_
  show GoW p e below s (Q4_15 Z a1 h0 n0) 0 0 (s₁.setTop (mkF m 0 (Sh7 a1 9223372036854775807) []))
  refine GoW.sg (mkF m 1 (Sh7 a1 9223372036854775807) [(.ref a1)]) (fun t k => XS.aloadN X0.here hx rfl (hb hby d4_0) rfl rfl k) ?_
  refine GoW.sg (mkF m 2 (Sh7 a1 9223372036854775807) [(.ref a1), (.ref a1)]) (fun t k => XS.aloadN X0.here hx rfl (hb hby d4_1) rfl rfl k) ?_
  obtain ⟨T148, X148, e148, st148⟩ := getF X0 hx hZ hown (host := "") (Or.inl (ww hw 18 rfl)) Via.refl e0 P2 (g := (mkF m 2 (Sh7 a1 9223372036854775807) [(.ref a1), (.ref a1)])) rfl rfl (hb hby d4_2)
  refine GoW.sg (mkF m 5 (Sh7 a1 9223372036854775807) [(.int 0), (.ref a1)]) (fun t k => st148 t k) ?_
  obtain ⟨T149, h149, X149, e149, W149, st149⟩ := putF X148 hx hZ hown (host := "") (Or.inl (ww hw 26 rfl)) Via.refl e148 P3 P0 (Or.inl (ww hw 27 rfl)) (ww hw 3 rfl) (ty := .boolean) (by decide) rfl rfl (g := (mkF m 5 (Sh7 a1 9223372036854775807) [(.int 0), (.ref a1)])) rfl rfl (hb hby d4_5)
  have N149 := Fr.snoc X149 N0 g_a1
  have Exa_a1_149 : Exa Z h149 a1 "com/example/spindle/spindle/SpinRule" := P0.wr W149
  have Fld_a1_answeredShare_149 : Fld Z h149 a1 "com/example/spindle/spindle/SpinRule" "answeredShare" "D" (.double (4598410768185032704 : UInt64)) := P1.other W149 (Or.inr (slot_ne (t := .double) (t' := .boolean) (Or.inl (ww hw 12 rfl)) (Or.inl (ww hw 27 rfl)) (by decide) (by decide) (by decide)))
  have Fld_a1_handedOn_149 : Fld Z h149 a1 "com/example/spindle/spindle/SpinRule" "handedOn" "Z" (.int (0 : Int32)) := P2.other W149 (Or.inr (slot_ne (t := .boolean) (t' := .boolean) (Or.inl (ww hw 19 rfl)) (Or.inl (ww hw 27 rfl)) (by decide) (by decide) (by decide)))
  have Keep_149 : Keep h0 h149 [a1] := (Keep.refl h0 [a1]).wr W149 (Or.inl (List.mem_of_getElem? (i := 0) rfl))
  have Fld_a1_awaitsAnswer_149 : Fld Z h149 a1 "com/example/spindle/spindle/SpinRule" "awaitsAnswer" "Z" (.int (0 : Int32)) := P3.same W149
  refine GoW.sg (mkF m 8 (Sh7 a1 9223372036854775807) []) (fun t k => st149 t k) ?_
  refine GoW.sg (mkF m 9 (Sh7 a1 9223372036854775807) [(.ref a1)]) (fun t k => XS.aloadN X149.here hx rfl (hb hby d4_8) rfl rfl k) ?_
  refine GoW.sg (mkF m 10 (Sh7 a1 9223372036854775807) [(.int 0), (.ref a1)]) (fun t k => XS.iconst X149.here hx rfl (hb hby d4_9) k) ?_
  obtain ⟨T150, h150, X150, e150, W150, st150⟩ := putF X149 hx hZ hown (host := "") (Or.inl (ww hw 18 rfl)) Via.refl e149 Fld_a1_handedOn_149 Exa_a1_149 (Or.inl (ww hw 19 rfl)) (ww hw 3 rfl) (ty := .boolean) (by decide) rfl rfl (g := (mkF m 10 (Sh7 a1 9223372036854775807) [(.int 0), (.ref a1)])) rfl rfl (hb hby d4_10)
  have N150 := Fr.snoc X150 N149 g_a1
  have Exa_a1_150 : Exa Z h150 a1 "com/example/spindle/spindle/SpinRule" := Exa_a1_149.wr W150
  have Fld_a1_answeredShare_150 : Fld Z h150 a1 "com/example/spindle/spindle/SpinRule" "answeredShare" "D" (.double (4598410768185032704 : UInt64)) := Fld_a1_answeredShare_149.other W150 (Or.inr (slot_ne (t := .double) (t' := .boolean) (Or.inl (ww hw 12 rfl)) (Or.inl (ww hw 19 rfl)) (by decide) (by decide) (by decide)))
  have Fld_a1_awaitsAnswer_150 : Fld Z h150 a1 "com/example/spindle/spindle/SpinRule" "awaitsAnswer" "Z" (.int (0 : Int32)) := Fld_a1_awaitsAnswer_149.other W150 (Or.inr (slot_ne (t := .boolean) (t' := .boolean) (Or.inl (ww hw 27 rfl)) (Or.inl (ww hw 19 rfl)) (by decide) (by decide) (by decide)))
  have Keep_150 : Keep h0 h150 [a1] := Keep_149.wr W150 (Or.inl (List.mem_of_getElem? (i := 0) rfl))
  have Fld_a1_handedOn_150 : Fld Z h150 a1 "com/example/spindle/spindle/SpinRule" "handedOn" "Z" (.int (0 : Int32)) := Fld_a1_handedOn_149.same W150
  refine GoW.sg (mkF m 13 (Sh7 a1 9223372036854775807) []) (fun t k => st150 t k) ?_
  refine GoW.sg (mkF m 14 (Sh7 a1 9223372036854775807) [(.long 9223372036854775807)]) (fun t k => XS.lloadN X150.here hx rfl (hb hby d4_13) rfl k) ?_
  refine GoW.sg (mkF m 17 (Sh7 a1 9223372036854775807) [(.long 20000), (.long 9223372036854775807)]) (fun t k => X150.ldc2Long hx hown (mvT hZ (ww hw 28 rfl)) (g := (mkF m 14 (Sh7 a1 9223372036854775807) [(.long 9223372036854775807)])) rfl (hb hby d4_14) t k) ?_
  refine GoW.sg (mkF m 18 (Sh7 a1 9223372036854775807) [(.int (lcmpW (9223372036854775807 : Int64) (20000 : Int64)))]) (fun t k => XS.lcmp X150.here hx rfl (hb hby d4_17) rfl k) ?_
  refine GoW.sg (mkF m 23 (Sh7 a1 9223372036854775807) []) (fun t k => XS.ifYes X150.here hx rfl (pc0 := 18) (pc' := 23) rfl (hb hby d4_18) rfl (by decide) (by decide) (by decide) k) ?_
  refine GoW.sg (mkF m 24 (Sh7 a1 9223372036854775807) [(.ref a1)]) (fun t k => XS.aloadN X150.here hx rfl (hb hby d4_23) rfl rfl k) ?_
  obtain ⟨T151, X151, e151, st151⟩ := getF X150 hx hZ hown (host := "") (Or.inl (ww hw 26 rfl)) Via.refl e150 Fld_a1_awaitsAnswer_150 (g := (mkF m 24 (Sh7 a1 9223372036854775807) [(.ref a1)])) rfl rfl (hb hby d4_24)
  refine GoW.sg (mkF m 27 (Sh7 a1 9223372036854775807) [(.int 0)]) (fun t k => st151 t k) ?_
  refine GoW.sg (mkF m 47 (Sh7 a1 9223372036854775807) []) (fun t k => XS.ifYes X151.here hx rfl (pc0 := 27) (pc' := 47) rfl (hb hby d4_27) rfl (by decide) (by decide) (by decide) k) ?_
  refine GoW.sg (mkF m 48 (Sh7 a1 9223372036854775807) [(.long 0)]) (fun t k => XS.lconst X151.here hx rfl (hb hby d4_47) k) ?_
  refine GoW.retL X151 hx Bd.returns (hb hby d4_48) Bd.notSynchronized ?_ (by decide) (by decide)
  rw [e151]
  exact ⟨rfl, N150, Keep_150, Exa_a1_150, Fld_a1_answeredShare_150, Fld_a1_handedOn_150, Fld_a1_awaitsAnswer_150⟩
def Q6_16 (Z : State) (a1 : Addr) (x2 : Int32) (x3 : Int32) (x4 : Int64) (h0 : Heap) (n0 : Nat) (v : Option Value) (h : Heap) (L : List Loc) : Prop := v = none ∧ Fr n0 L ∧ (h = h0)
theorem ef6_rm6_16 (m : MethodId) (a1 : Addr) (x2 : Int32) (x3 : Int32) (x4 : Int64) : entryFrame m #[(.ref a1), (.int x2), (.int x3), (.long x4)] 6 = (mkF m 0 #[.val (.ref a1), .val (.int x2), .val (.int x3), .val (.long x4), .second, .unset] []) := by first | (simp [entryFrame, mkF, argsToLocals, Value.category, maxLocals]; done) | rfl
set_option maxRecDepth 65536 in
set_option maxHeartbeats 40000000 in
theorem rm6_16 (l : Launch) (Z : State) (a0 : Array Value) (hw : ∀ d ∈ tables_1, d.before a0 Z = true) (ws : List Jvm.Cond) (a1 : Addr) (x2 : Int32) (x3 : Int32) (x4 : Int64)  (h0 : Heap) (n0 : Nat) (P0 : Exa Z h0 a1 "com/example/spindle/spindle/SpinRule") (P1 : Fld Z h0 a1 "com/example/spindle/spindle/SpinRule" "answeredShare" "D" (.double (4598410768185032704 : UInt64))) (P2 : Fld Z h0 a1 "com/example/spindle/spindle/SpinRule" "handedOn" "Z" (.int (0 : Int32))) (P3 : Fld Z h0 a1 "com/example/spindle/spindle/SpinRule" "awaitsAnswer" "Z" (.int (0 : Int32)))     :
    MetFree l (⟨"com/example/spindle/spindle/SpinRule", "countWait", "(ZZJ)V"⟩ : MethodName) (head1 (Jvm.Cond.code (⟨"com/example/spindle/spindle/SpinRule", "countWait", "(ZZJ)V"⟩ : MethodName) prog_40_method_5_code 6 none :: ws) ({ frames := 0, cells := 0, slots := 0, locals := 0 } : Room)) (fun a U => a = #[(.ref a1), (.int x2), (.int x3), (.long x4)] ∧ Z.Warmed39 U.vm ∧ U.heap = h0) (fun _ _ _ _ _ => True) (fun _ U o U' => ∃ v L, o = .returned v ∧ (Q6_16 Z a1 x2 x3 x4 h0 n0) v U'.heap L ∧ FrameEnd U o U' L 0 0) := by
  refine MetFree.of_bodySF (plainFor_of_name pn_com_example_spindle_spindle_SpinRule) hisR ?_
  intro p e s m args below meth c s₁ Bd hml0 hP hK
  obtain ⟨rfl, hZ, hh⟩ := hP
  have hx := Bd.exec
  have hby := Bd.bytes
  have hml : c.maxLocals = 6 := hml0
  have hown : s.vm.findClass "com/example/spindle/spindle/SpinRule" = some m.cls := findClass_of_methodNamed Bd.named
  have hnm := (name_of_methodNamed Bd.named Bd.method).1
  have X0 : Stand p l e ({ frames := 0, cells := 0, slots := 0, locals := 0 } : Room) s m #[(.ref a1), (.int x2), (.int x3), (.long x4)] below meth c s₁ [] 0 0 := Stand.of_body Bd
  have e0 : s₁.heap = h0 := by rw [← hh, Bd.state]; rfl
  have N0 := Fr.nil n0
  refine GoW.mk ?_
  refine GoW.st (fun t k => castTop (ef6_rm6_16 m a1 x2 x3 x4) k) ?_
  show GoW p e below s (Q6_16 Z a1 x2 x3 x4 h0 n0) 0 0 (s₁.setTop (mkF m 0 (Sh8 a1 x2 x3 x4) []))
  refine GoW.sg (mkF m 1 (Sh8 a1 x2 x3 x4) [(.ref a1)]) (fun t k => XS.aloadN X0.here hx rfl (hb hby d6_0) rfl rfl k) ?_
  obtain ⟨T154, X154, e154, st154⟩ := getF X0 hx hZ hown (host := "") (Or.inl (ww hw 26 rfl)) Via.refl e0 P3 (g := (mkF m 1 (Sh8 a1 x2 x3 x4) [(.ref a1)])) rfl rfl (hb hby d6_1)
  refine GoW.sg (mkF m 4 (Sh8 a1 x2 x3 x4) [(.int 0)]) (fun t k => st154 t k) ?_
  refine GoW.sg (mkF m 19 (Sh8 a1 x2 x3 x4) []) (fun t k => XS.ifYes X154.here hx rfl (pc0 := 4) (pc' := 19) rfl (hb hby d6_4) rfl (by decide) (by decide) (by decide) k) ?_
  refine GoW.retV X154 hx Bd.returns (hb hby d6_19) Bd.notSynchronized ?_ (by decide) (by decide)
  rw [e154]
  exact ⟨rfl, N0, rfl⟩
def Q3_17 (Z : State) (a1 : Addr) (h0 : Heap) (n0 : Nat) (v : Option Value) (h : Heap) (L : List Loc) : Prop := v = none ∧ Fr n0 L ∧ (Keep h0 h [a1]) ∧ (Exa Z h a1 "com/example/spindle/spindle/SpinRule") ∧ (Fld Z h a1 "com/example/spindle/spindle/SpinRule" "answeredShare" "D" (.double (4598410768185032704 : UInt64))) ∧ (Fld Z h a1 "com/example/spindle/spindle/SpinRule" "handedOn" "Z" (.int (1 : Int32))) ∧ (Fld Z h a1 "com/example/spindle/spindle/SpinRule" "awaitsAnswer" "Z" (.int (0 : Int32)))
theorem ef3_rm3_17 (m : MethodId) (a1 : Addr) : entryFrame m #[(.ref a1)] 1 = (mkF m 0 #[.val (.ref a1)] []) := by first | (simp [entryFrame, mkF, argsToLocals, Value.category, maxLocals]; done) | rfl
set_option maxRecDepth 65536 in
set_option maxHeartbeats 40000000 in
theorem rm3_17 (l : Launch) (Z : State) (a0 : Array Value) (hw : ∀ d ∈ tables_1, d.before a0 Z = true) (ws : List Jvm.Cond) (a1 : Addr)  (h0 : Heap) (n0 : Nat) (P0 : Exa Z h0 a1 "com/example/spindle/spindle/SpinRule") (P1 : Fld Z h0 a1 "com/example/spindle/spindle/SpinRule" "answeredShare" "D" (.double (4598410768185032704 : UInt64))) (P2 : Fld Z h0 a1 "com/example/spindle/spindle/SpinRule" "handedOn" "Z" (.int (0 : Int32))) (P3 : Fld Z h0 a1 "com/example/spindle/spindle/SpinRule" "awaitsAnswer" "Z" (.int (0 : Int32))) (g_a1 : n0 ≤ a1)    :
    MetFree l (⟨"com/example/spindle/spindle/SpinRule", "handedOn", "()V"⟩ : MethodName) (head1 (Jvm.Cond.code (⟨"com/example/spindle/spindle/SpinRule", "handedOn", "()V"⟩ : MethodName) prog_40_method_2_code 1 none :: ws) ({ frames := 0, cells := 0, slots := 0, locals := 0 } : Room)) (fun a U => a = #[(.ref a1)] ∧ Z.Warmed39 U.vm ∧ U.heap = h0) (fun _ _ _ _ _ => True) (fun _ U o U' => ∃ v L, o = .returned v ∧ (Q3_17 Z a1 h0 n0) v U'.heap L ∧ FrameEnd U o U' L 0 0) := by
  refine MetFree.of_bodySF (plainFor_of_name pn_com_example_spindle_spindle_SpinRule) hisR ?_
  intro p e s m args below meth c s₁ Bd hml0 hP hK
  obtain ⟨rfl, hZ, hh⟩ := hP
  have hx := Bd.exec
  have hby := Bd.bytes
  have hml : c.maxLocals = 1 := hml0
  have hown : s.vm.findClass "com/example/spindle/spindle/SpinRule" = some m.cls := findClass_of_methodNamed Bd.named
  have hnm := (name_of_methodNamed Bd.named Bd.method).1
  have X0 : Stand p l e ({ frames := 0, cells := 0, slots := 0, locals := 0 } : Room) s m #[(.ref a1)] below meth c s₁ [] 0 0 := Stand.of_body Bd
  have e0 : s₁.heap = h0 := by rw [← hh, Bd.state]; rfl
  have N0 := Fr.nil n0
  refine GoW.mk ?_
  refine GoW.st (fun t k => castTop (ef3_rm3_17 m a1) k) ?_
  show GoW p e below s (Q3_17 Z a1 h0 n0) 0 0 (s₁.setTop (mkF m 0 #[.val (.ref a1)] []))
  refine GoW.sg (mkF m 1 #[.val (.ref a1)] [(.ref a1)]) (fun t k => XS.aloadN X0.here hx rfl (hb hby d3_0) rfl rfl k) ?_
  refine GoW.sg (mkF m 2 #[.val (.ref a1)] [(.int 1), (.ref a1)]) (fun t k => XS.iconst X0.here hx rfl (hb hby d3_1) k) ?_
  obtain ⟨T157, h157, X157, e157, W157, st157⟩ := putF X0 hx hZ hown (host := "") (Or.inl (ww hw 18 rfl)) Via.refl e0 P2 P0 (Or.inl (ww hw 19 rfl)) (ww hw 3 rfl) (ty := .boolean) (by decide) rfl rfl (g := (mkF m 2 #[.val (.ref a1)] [(.int 1), (.ref a1)])) rfl rfl (hb hby d3_2)
  have N157 := Fr.snoc X157 N0 g_a1
  have Exa_a1_157 : Exa Z h157 a1 "com/example/spindle/spindle/SpinRule" := P0.wr W157
  have Fld_a1_answeredShare_157 : Fld Z h157 a1 "com/example/spindle/spindle/SpinRule" "answeredShare" "D" (.double (4598410768185032704 : UInt64)) := P1.other W157 (Or.inr (slot_ne (t := .double) (t' := .boolean) (Or.inl (ww hw 12 rfl)) (Or.inl (ww hw 19 rfl)) (by decide) (by decide) (by decide)))
  have Fld_a1_awaitsAnswer_157 : Fld Z h157 a1 "com/example/spindle/spindle/SpinRule" "awaitsAnswer" "Z" (.int (0 : Int32)) := P3.other W157 (Or.inr (slot_ne (t := .boolean) (t' := .boolean) (Or.inl (ww hw 27 rfl)) (Or.inl (ww hw 19 rfl)) (by decide) (by decide) (by decide)))
  have Keep_157 : Keep h0 h157 [a1] := (Keep.refl h0 [a1]).wr W157 (Or.inl (List.mem_of_getElem? (i := 0) rfl))
  have Fld_a1_handedOn_157 : Fld Z h157 a1 "com/example/spindle/spindle/SpinRule" "handedOn" "Z" (.int (1 : Int32)) := P2.same W157
  refine GoW.sg (mkF m 5 #[.val (.ref a1)] []) (fun t k => st157 t k) ?_
  refine GoW.retV X157 hx Bd.returns (hb hby d3_5) Bd.notSynchronized ?_ (by decide) (by decide)
  rw [e157]
  exact ⟨rfl, N157, Keep_157, Exa_a1_157, Fld_a1_answeredShare_157, Fld_a1_handedOn_157, Fld_a1_awaitsAnswer_157⟩
def Q4_18 (Z : State) (a1 : Addr) (h0 : Heap) (n0 : Nat) (v : Option Value) (h : Heap) (L : List Loc) : Prop := v = some (.long (20000 : Int64)) ∧ Fr n0 L ∧ (Keep h0 h [a1]) ∧ (Exa Z h a1 "com/example/spindle/spindle/SpinRule") ∧ (Fld Z h a1 "com/example/spindle/spindle/SpinRule" "answeredShare" "D" (.double (4598410768185032704 : UInt64))) ∧ (Fld Z h a1 "com/example/spindle/spindle/SpinRule" "handedOn" "Z" (.int (0 : Int32))) ∧ (Fld Z h a1 "com/example/spindle/spindle/SpinRule" "awaitsAnswer" "Z" (.int (1 : Int32)))
theorem ef4_rm4_18 (m : MethodId) (a1 : Addr) : entryFrame m #[(.ref a1), (.long (9223372036854775807 : Int64))] 3 = (mkF m 0 #[.val (.ref a1), .val (.long 9223372036854775807), .second] []) := by first | (simp [entryFrame, mkF, argsToLocals, Value.category, maxLocals]; done) | rfl
set_option maxRecDepth 65536 in
set_option maxHeartbeats 40000000 in
theorem rm4_18 (l : Launch) (Z : State) (a0 : Array Value) (hw : ∀ d ∈ tables_1, d.before a0 Z = true) (ws : List Jvm.Cond) (a1 : Addr)  (h0 : Heap) (n0 : Nat) (P0 : Exa Z h0 a1 "com/example/spindle/spindle/SpinRule") (P1 : Fld Z h0 a1 "com/example/spindle/spindle/SpinRule" "answeredShare" "D" (.double (4598410768185032704 : UInt64))) (P2 : Fld Z h0 a1 "com/example/spindle/spindle/SpinRule" "handedOn" "Z" (.int (1 : Int32))) (P3 : Fld Z h0 a1 "com/example/spindle/spindle/SpinRule" "awaitsAnswer" "Z" (.int (0 : Int32))) (g_a1 : n0 ≤ a1)    :
    MetFree l (⟨"com/example/spindle/spindle/SpinRule", "spinNanos", "(J)J"⟩ : MethodName) (head1 (Jvm.Cond.code (⟨"com/example/spindle/spindle/SpinRule", "spinNanos", "(J)J"⟩ : MethodName) prog_40_method_3_code 3 (some .long) :: ws) ({ frames := 0, cells := 0, slots := 0, locals := 0 } : Room)) (fun a U => a = #[(.ref a1), (.long (9223372036854775807 : Int64))] ∧ Z.Warmed39 U.vm ∧ U.heap = h0) (fun _ _ _ _ _ => True) (fun _ U o U' => ∃ v L, o = .returned v ∧ (Q4_18 Z a1 h0 n0) v U'.heap L ∧ FrameEnd U o U' L 0 0) := by
  refine MetFree.of_bodySF (plainFor_of_name pn_com_example_spindle_spindle_SpinRule) hisR ?_
  intro p e s m args below meth c s₁ Bd hml0 hP hK
  obtain ⟨rfl, hZ, hh⟩ := hP
  have hx := Bd.exec
  have hby := Bd.bytes
  have hml : c.maxLocals = 3 := hml0
  have hown : s.vm.findClass "com/example/spindle/spindle/SpinRule" = some m.cls := findClass_of_methodNamed Bd.named
  have hnm := (name_of_methodNamed Bd.named Bd.method).1
  have X0 : Stand p l e ({ frames := 0, cells := 0, slots := 0, locals := 0 } : Room) s m #[(.ref a1), (.long (9223372036854775807 : Int64))] below meth c s₁ [] 0 0 := Stand.of_body Bd
  have e0 : s₁.heap = h0 := by rw [← hh, Bd.state]; rfl
  have N0 := Fr.nil n0
  refine GoW.mk ?_
  refine GoW.st (fun t k => castTop (ef4_rm4_18 m a1) k) ?_
  show GoW p e below s (Q4_18 Z a1 h0 n0) 0 0 (s₁.setTop (mkF m 0 (Sh7 a1 9223372036854775807) []))
  refine GoW.sg (mkF m 1 (Sh7 a1 9223372036854775807) [(.ref a1)]) (fun t k => XS.aloadN X0.here hx rfl (hb hby d4_0) rfl rfl k) ?_
  refine GoW.sg (mkF m 2 (Sh7 a1 9223372036854775807) [(.ref a1), (.ref a1)]) (fun t k => XS.aloadN X0.here hx rfl (hb hby d4_1) rfl rfl k) ?_
  obtain ⟨T164, X164, e164, st164⟩ := getF X0 hx hZ hown (host := "") (Or.inl (ww hw 18 rfl)) Via.refl e0 P2 (g := (mkF m 2 (Sh7 a1 9223372036854775807) [(.ref a1), (.ref a1)])) rfl rfl (hb hby d4_2)
  refine GoW.sg (mkF m 5 (Sh7 a1 9223372036854775807) [(.int 1), (.ref a1)]) (fun t k => st164 t k) ?_
  obtain ⟨T165, h165, X165, e165, W165, st165⟩ := putF X164 hx hZ hown (host := "") (Or.inl (ww hw 26 rfl)) Via.refl e164 P3 P0 (Or.inl (ww hw 27 rfl)) (ww hw 3 rfl) (ty := .boolean) (by decide) rfl rfl (g := (mkF m 5 (Sh7 a1 9223372036854775807) [(.int 1), (.ref a1)])) rfl rfl (hb hby d4_5)
  have N165 := Fr.snoc X165 N0 g_a1
  have Exa_a1_165 : Exa Z h165 a1 "com/example/spindle/spindle/SpinRule" := P0.wr W165
  have Fld_a1_answeredShare_165 : Fld Z h165 a1 "com/example/spindle/spindle/SpinRule" "answeredShare" "D" (.double (4598410768185032704 : UInt64)) := P1.other W165 (Or.inr (slot_ne (t := .double) (t' := .boolean) (Or.inl (ww hw 12 rfl)) (Or.inl (ww hw 27 rfl)) (by decide) (by decide) (by decide)))
  have Fld_a1_handedOn_165 : Fld Z h165 a1 "com/example/spindle/spindle/SpinRule" "handedOn" "Z" (.int (1 : Int32)) := P2.other W165 (Or.inr (slot_ne (t := .boolean) (t' := .boolean) (Or.inl (ww hw 19 rfl)) (Or.inl (ww hw 27 rfl)) (by decide) (by decide) (by decide)))
  have Keep_165 : Keep h0 h165 [a1] := (Keep.refl h0 [a1]).wr W165 (Or.inl (List.mem_of_getElem? (i := 0) rfl))
  have Fld_a1_awaitsAnswer_165 : Fld Z h165 a1 "com/example/spindle/spindle/SpinRule" "awaitsAnswer" "Z" (.int (1 : Int32)) := P3.same W165
  refine GoW.sg (mkF m 8 (Sh7 a1 9223372036854775807) []) (fun t k => st165 t k) ?_
  refine GoW.sg (mkF m 9 (Sh7 a1 9223372036854775807) [(.ref a1)]) (fun t k => XS.aloadN X165.here hx rfl (hb hby d4_8) rfl rfl k) ?_
  refine GoW.sg (mkF m 10 (Sh7 a1 9223372036854775807) [(.int 0), (.ref a1)]) (fun t k => XS.iconst X165.here hx rfl (hb hby d4_9) k) ?_
  obtain ⟨T166, h166, X166, e166, W166, st166⟩ := putF X165 hx hZ hown (host := "") (Or.inl (ww hw 18 rfl)) Via.refl e165 Fld_a1_handedOn_165 Exa_a1_165 (Or.inl (ww hw 19 rfl)) (ww hw 3 rfl) (ty := .boolean) (by decide) rfl rfl (g := (mkF m 10 (Sh7 a1 9223372036854775807) [(.int 0), (.ref a1)])) rfl rfl (hb hby d4_10)
  have N166 := Fr.snoc X166 N165 g_a1
  have Exa_a1_166 : Exa Z h166 a1 "com/example/spindle/spindle/SpinRule" := Exa_a1_165.wr W166
  have Fld_a1_answeredShare_166 : Fld Z h166 a1 "com/example/spindle/spindle/SpinRule" "answeredShare" "D" (.double (4598410768185032704 : UInt64)) := Fld_a1_answeredShare_165.other W166 (Or.inr (slot_ne (t := .double) (t' := .boolean) (Or.inl (ww hw 12 rfl)) (Or.inl (ww hw 19 rfl)) (by decide) (by decide) (by decide)))
  have Fld_a1_awaitsAnswer_166 : Fld Z h166 a1 "com/example/spindle/spindle/SpinRule" "awaitsAnswer" "Z" (.int (1 : Int32)) := Fld_a1_awaitsAnswer_165.other W166 (Or.inr (slot_ne (t := .boolean) (t' := .boolean) (Or.inl (ww hw 27 rfl)) (Or.inl (ww hw 19 rfl)) (by decide) (by decide) (by decide)))
  have Keep_166 : Keep h0 h166 [a1] := Keep_165.wr W166 (Or.inl (List.mem_of_getElem? (i := 0) rfl))
  have Fld_a1_handedOn_166 : Fld Z h166 a1 "com/example/spindle/spindle/SpinRule" "handedOn" "Z" (.int (0 : Int32)) := Fld_a1_handedOn_165.same W166
  refine GoW.sg (mkF m 13 (Sh7 a1 9223372036854775807) []) (fun t k => st166 t k) ?_
  refine GoW.sg (mkF m 14 (Sh7 a1 9223372036854775807) [(.long 9223372036854775807)]) (fun t k => XS.lloadN X166.here hx rfl (hb hby d4_13) rfl k) ?_
  refine GoW.sg (mkF m 17 (Sh7 a1 9223372036854775807) [(.long 20000), (.long 9223372036854775807)]) (fun t k => X166.ldc2Long hx hown (mvT hZ (ww hw 28 rfl)) (g := (mkF m 14 (Sh7 a1 9223372036854775807) [(.long 9223372036854775807)])) rfl (hb hby d4_14) t k) ?_
  refine GoW.sg (mkF m 18 (Sh7 a1 9223372036854775807) [(.int (lcmpW (9223372036854775807 : Int64) (20000 : Int64)))]) (fun t k => XS.lcmp X166.here hx rfl (hb hby d4_17) rfl k) ?_
  refine GoW.sg (mkF m 23 (Sh7 a1 9223372036854775807) []) (fun t k => XS.ifYes X166.here hx rfl (pc0 := 18) (pc' := 23) rfl (hb hby d4_18) rfl (by decide) (by decide) (by decide) k) ?_
  refine GoW.sg (mkF m 24 (Sh7 a1 9223372036854775807) [(.ref a1)]) (fun t k => XS.aloadN X166.here hx rfl (hb hby d4_23) rfl rfl k) ?_
  obtain ⟨T167, X167, e167, st167⟩ := getF X166 hx hZ hown (host := "") (Or.inl (ww hw 26 rfl)) Via.refl e166 Fld_a1_awaitsAnswer_166 (g := (mkF m 24 (Sh7 a1 9223372036854775807) [(.ref a1)])) rfl rfl (hb hby d4_24)
  refine GoW.sg (mkF m 27 (Sh7 a1 9223372036854775807) [(.int 1)]) (fun t k => st167 t k) ?_
  refine GoW.sg (mkF m 30 (Sh7 a1 9223372036854775807) []) (fun t k => XS.ifNo X167.here hx rfl (hb hby d4_27) rfl (by decide) k) ?_
  refine GoW.sg (mkF m 31 (Sh7 a1 9223372036854775807) [(.ref a1)]) (fun t k => XS.aloadN X167.here hx rfl (hb hby d4_30) rfl rfl k) ?_
  obtain ⟨T168, X168, e168, st168⟩ := getF X167 hx hZ hown (host := "") (Or.inl (ww hw 11 rfl)) Via.refl e167 Fld_a1_answeredShare_166 (g := (mkF m 31 (Sh7 a1 9223372036854775807) [(.ref a1)])) rfl rfl (hb hby d4_31)
  refine GoW.sg (mkF m 34 (Sh7 a1 9223372036854775807) [(.double 4598410768185032704)]) (fun t k => st168 t k) ?_
  refine GoW.sg (mkF m 37 (Sh7 a1 9223372036854775807) [(.double 4598175219545276416), (.double 4598410768185032704)]) (fun t k => X168.ldc2DoubleC hx hown (mvT hZ (ww hw 29 rfl)) (g := (mkF m 34 (Sh7 a1 9223372036854775807) [(.double 4598410768185032704)])) rfl (hb hby d4_34) t k) ?_
  refine GoW.sg (mkF m 38 (Sh7 a1 9223372036854775807) [(.int 1)]) (fun t k => XS.dcmpS X168.here hx rfl (hb hby d4_37) rfl (v := (1 : Int32)) (by decide +kernel) k) ?_
  refine GoW.sg (mkF m 41 (Sh7 a1 9223372036854775807) []) (fun t k => XS.ifNo X168.here hx rfl (hb hby d4_38) rfl (by decide) k) ?_
  refine GoW.sg (mkF m 44 (Sh7 a1 9223372036854775807) [(.long 20000)]) (fun t k => X168.ldc2Long hx hown (mvT hZ (ww hw 28 rfl)) (g := (mkF m 41 (Sh7 a1 9223372036854775807) [])) rfl (hb hby d4_41) t k) ?_
  refine GoW.sg (mkF m 48 (Sh7 a1 9223372036854775807) [(.long 20000)]) (fun t k => XS.goto X168.here hx rfl (pc0 := 44) (pc' := 48) rfl (hb hby d4_44) (by decide) (by decide) k) ?_
  refine GoW.retL X168 hx Bd.returns (hb hby d4_48) Bd.notSynchronized ?_ (by decide) (by decide)
  rw [e168]
  exact ⟨rfl, N166, Keep_166, Exa_a1_166, Fld_a1_answeredShare_166, Fld_a1_handedOn_166, Fld_a1_awaitsAnswer_166⟩
def Q3_19 (Z : State) (a1 : Addr) (h0 : Heap) (n0 : Nat) (v : Option Value) (h : Heap) (L : List Loc) : Prop := v = none ∧ Fr n0 L ∧ (Keep h0 h [a1]) ∧ (Exa Z h a1 "com/example/spindle/spindle/SpinRule") ∧ (Fld Z h a1 "com/example/spindle/spindle/SpinRule" "answeredShare" "D" (.double (4598410768185032704 : UInt64))) ∧ (Fld Z h a1 "com/example/spindle/spindle/SpinRule" "handedOn" "Z" (.int (1 : Int32))) ∧ (Fld Z h a1 "com/example/spindle/spindle/SpinRule" "awaitsAnswer" "Z" (.int (1 : Int32)))
theorem ef3_rm3_19 (m : MethodId) (a1 : Addr) : entryFrame m #[(.ref a1)] 1 = (mkF m 0 #[.val (.ref a1)] []) := by first | (simp [entryFrame, mkF, argsToLocals, Value.category, maxLocals]; done) | rfl
set_option maxRecDepth 65536 in
set_option maxHeartbeats 40000000 in
theorem rm3_19 (l : Launch) (Z : State) (a0 : Array Value) (hw : ∀ d ∈ tables_1, d.before a0 Z = true) (ws : List Jvm.Cond) (a1 : Addr)  (h0 : Heap) (n0 : Nat) (P0 : Exa Z h0 a1 "com/example/spindle/spindle/SpinRule") (P1 : Fld Z h0 a1 "com/example/spindle/spindle/SpinRule" "answeredShare" "D" (.double (4598410768185032704 : UInt64))) (P2 : Fld Z h0 a1 "com/example/spindle/spindle/SpinRule" "handedOn" "Z" (.int (0 : Int32))) (P3 : Fld Z h0 a1 "com/example/spindle/spindle/SpinRule" "awaitsAnswer" "Z" (.int (1 : Int32))) (g_a1 : n0 ≤ a1)    :
    MetFree l (⟨"com/example/spindle/spindle/SpinRule", "handedOn", "()V"⟩ : MethodName) (head1 (Jvm.Cond.code (⟨"com/example/spindle/spindle/SpinRule", "handedOn", "()V"⟩ : MethodName) prog_40_method_2_code 1 none :: ws) ({ frames := 0, cells := 0, slots := 0, locals := 0 } : Room)) (fun a U => a = #[(.ref a1)] ∧ Z.Warmed39 U.vm ∧ U.heap = h0) (fun _ _ _ _ _ => True) (fun _ U o U' => ∃ v L, o = .returned v ∧ (Q3_19 Z a1 h0 n0) v U'.heap L ∧ FrameEnd U o U' L 0 0) := by
  refine MetFree.of_bodySF (plainFor_of_name pn_com_example_spindle_spindle_SpinRule) hisR ?_
  intro p e s m args below meth c s₁ Bd hml0 hP hK
  obtain ⟨rfl, hZ, hh⟩ := hP
  have hx := Bd.exec
  have hby := Bd.bytes
  have hml : c.maxLocals = 1 := hml0
  have hown : s.vm.findClass "com/example/spindle/spindle/SpinRule" = some m.cls := findClass_of_methodNamed Bd.named
  have hnm := (name_of_methodNamed Bd.named Bd.method).1
  have X0 : Stand p l e ({ frames := 0, cells := 0, slots := 0, locals := 0 } : Room) s m #[(.ref a1)] below meth c s₁ [] 0 0 := Stand.of_body Bd
  have e0 : s₁.heap = h0 := by rw [← hh, Bd.state]; rfl
  have N0 := Fr.nil n0
  refine GoW.mk ?_
  refine GoW.st (fun t k => castTop (ef3_rm3_19 m a1) k) ?_
  show GoW p e below s (Q3_19 Z a1 h0 n0) 0 0 (s₁.setTop (mkF m 0 #[.val (.ref a1)] []))
  refine GoW.sg (mkF m 1 #[.val (.ref a1)] [(.ref a1)]) (fun t k => XS.aloadN X0.here hx rfl (hb hby d3_0) rfl rfl k) ?_
  refine GoW.sg (mkF m 2 #[.val (.ref a1)] [(.int 1), (.ref a1)]) (fun t k => XS.iconst X0.here hx rfl (hb hby d3_1) k) ?_
  obtain ⟨T179, h179, X179, e179, W179, st179⟩ := putF X0 hx hZ hown (host := "") (Or.inl (ww hw 18 rfl)) Via.refl e0 P2 P0 (Or.inl (ww hw 19 rfl)) (ww hw 3 rfl) (ty := .boolean) (by decide) rfl rfl (g := (mkF m 2 #[.val (.ref a1)] [(.int 1), (.ref a1)])) rfl rfl (hb hby d3_2)
  have N179 := Fr.snoc X179 N0 g_a1
  have Exa_a1_179 : Exa Z h179 a1 "com/example/spindle/spindle/SpinRule" := P0.wr W179
  have Fld_a1_answeredShare_179 : Fld Z h179 a1 "com/example/spindle/spindle/SpinRule" "answeredShare" "D" (.double (4598410768185032704 : UInt64)) := P1.other W179 (Or.inr (slot_ne (t := .double) (t' := .boolean) (Or.inl (ww hw 12 rfl)) (Or.inl (ww hw 19 rfl)) (by decide) (by decide) (by decide)))
  have Fld_a1_awaitsAnswer_179 : Fld Z h179 a1 "com/example/spindle/spindle/SpinRule" "awaitsAnswer" "Z" (.int (1 : Int32)) := P3.other W179 (Or.inr (slot_ne (t := .boolean) (t' := .boolean) (Or.inl (ww hw 27 rfl)) (Or.inl (ww hw 19 rfl)) (by decide) (by decide) (by decide)))
  have Keep_179 : Keep h0 h179 [a1] := (Keep.refl h0 [a1]).wr W179 (Or.inl (List.mem_of_getElem? (i := 0) rfl))
  have Fld_a1_handedOn_179 : Fld Z h179 a1 "com/example/spindle/spindle/SpinRule" "handedOn" "Z" (.int (1 : Int32)) := P2.same W179
  refine GoW.sg (mkF m 5 #[.val (.ref a1)] []) (fun t k => st179 t k) ?_
  refine GoW.retV X179 hx Bd.returns (hb hby d3_5) Bd.notSynchronized ?_ (by decide) (by decide)
  rw [e179]
  exact ⟨rfl, N179, Keep_179, Exa_a1_179, Fld_a1_answeredShare_179, Fld_a1_handedOn_179, Fld_a1_awaitsAnswer_179⟩
def Q4_20 (Z : State) (a1 : Addr) (h0 : Heap) (n0 : Nat) (v : Option Value) (h : Heap) (L : List Loc) : Prop := v = some (.long (20000 : Int64)) ∧ Fr n0 L ∧ (Keep h0 h [a1]) ∧ (Exa Z h a1 "com/example/spindle/spindle/SpinRule") ∧ (Fld Z h a1 "com/example/spindle/spindle/SpinRule" "answeredShare" "D" (.double (4598410768185032704 : UInt64))) ∧ (Fld Z h a1 "com/example/spindle/spindle/SpinRule" "handedOn" "Z" (.int (0 : Int32))) ∧ (Fld Z h a1 "com/example/spindle/spindle/SpinRule" "awaitsAnswer" "Z" (.int (1 : Int32)))
theorem ef4_rm4_20 (m : MethodId) (a1 : Addr) : entryFrame m #[(.ref a1), (.long (9223372036854775807 : Int64))] 3 = (mkF m 0 #[.val (.ref a1), .val (.long 9223372036854775807), .second] []) := by first | (simp [entryFrame, mkF, argsToLocals, Value.category, maxLocals]; done) | rfl
set_option maxRecDepth 65536 in
set_option maxHeartbeats 40000000 in
theorem rm4_20 (l : Launch) (Z : State) (a0 : Array Value) (hw : ∀ d ∈ tables_1, d.before a0 Z = true) (ws : List Jvm.Cond) (a1 : Addr)  (h0 : Heap) (n0 : Nat) (P0 : Exa Z h0 a1 "com/example/spindle/spindle/SpinRule") (P1 : Fld Z h0 a1 "com/example/spindle/spindle/SpinRule" "answeredShare" "D" (.double (4598410768185032704 : UInt64))) (P2 : Fld Z h0 a1 "com/example/spindle/spindle/SpinRule" "handedOn" "Z" (.int (1 : Int32))) (P3 : Fld Z h0 a1 "com/example/spindle/spindle/SpinRule" "awaitsAnswer" "Z" (.int (1 : Int32))) (g_a1 : n0 ≤ a1)    :
    MetFree l (⟨"com/example/spindle/spindle/SpinRule", "spinNanos", "(J)J"⟩ : MethodName) (head1 (Jvm.Cond.code (⟨"com/example/spindle/spindle/SpinRule", "spinNanos", "(J)J"⟩ : MethodName) prog_40_method_3_code 3 (some .long) :: ws) ({ frames := 0, cells := 0, slots := 0, locals := 0 } : Room)) (fun a U => a = #[(.ref a1), (.long (9223372036854775807 : Int64))] ∧ Z.Warmed39 U.vm ∧ U.heap = h0) (fun _ _ _ _ _ => True) (fun _ U o U' => ∃ v L, o = .returned v ∧ (Q4_20 Z a1 h0 n0) v U'.heap L ∧ FrameEnd U o U' L 0 0) := by
  refine MetFree.of_bodySF (plainFor_of_name pn_com_example_spindle_spindle_SpinRule) hisR ?_
  intro p e s m args below meth c s₁ Bd hml0 hP hK
  obtain ⟨rfl, hZ, hh⟩ := hP
  have hx := Bd.exec
  have hby := Bd.bytes
  have hml : c.maxLocals = 3 := hml0
  have hown : s.vm.findClass "com/example/spindle/spindle/SpinRule" = some m.cls := findClass_of_methodNamed Bd.named
  have hnm := (name_of_methodNamed Bd.named Bd.method).1
  have X0 : Stand p l e ({ frames := 0, cells := 0, slots := 0, locals := 0 } : Room) s m #[(.ref a1), (.long (9223372036854775807 : Int64))] below meth c s₁ [] 0 0 := Stand.of_body Bd
  have e0 : s₁.heap = h0 := by rw [← hh, Bd.state]; rfl
  have N0 := Fr.nil n0
  refine GoW.mk ?_
  refine GoW.st (fun t k => castTop (ef4_rm4_20 m a1) k) ?_
  show GoW p e below s (Q4_20 Z a1 h0 n0) 0 0 (s₁.setTop (mkF m 0 (Sh7 a1 9223372036854775807) []))
  refine GoW.sg (mkF m 1 (Sh7 a1 9223372036854775807) [(.ref a1)]) (fun t k => XS.aloadN X0.here hx rfl (hb hby d4_0) rfl rfl k) ?_
  refine GoW.sg (mkF m 2 (Sh7 a1 9223372036854775807) [(.ref a1), (.ref a1)]) (fun t k => XS.aloadN X0.here hx rfl (hb hby d4_1) rfl rfl k) ?_
  obtain ⟨T186, X186, e186, st186⟩ := getF X0 hx hZ hown (host := "") (Or.inl (ww hw 18 rfl)) Via.refl e0 P2 (g := (mkF m 2 (Sh7 a1 9223372036854775807) [(.ref a1), (.ref a1)])) rfl rfl (hb hby d4_2)
  refine GoW.sg (mkF m 5 (Sh7 a1 9223372036854775807) [(.int 1), (.ref a1)]) (fun t k => st186 t k) ?_
  obtain ⟨T187, h187, X187, e187, W187, st187⟩ := putF X186 hx hZ hown (host := "") (Or.inl (ww hw 26 rfl)) Via.refl e186 P3 P0 (Or.inl (ww hw 27 rfl)) (ww hw 3 rfl) (ty := .boolean) (by decide) rfl rfl (g := (mkF m 5 (Sh7 a1 9223372036854775807) [(.int 1), (.ref a1)])) rfl rfl (hb hby d4_5)
  have N187 := Fr.snoc X187 N0 g_a1
  have Exa_a1_187 : Exa Z h187 a1 "com/example/spindle/spindle/SpinRule" := P0.wr W187
  have Fld_a1_answeredShare_187 : Fld Z h187 a1 "com/example/spindle/spindle/SpinRule" "answeredShare" "D" (.double (4598410768185032704 : UInt64)) := P1.other W187 (Or.inr (slot_ne (t := .double) (t' := .boolean) (Or.inl (ww hw 12 rfl)) (Or.inl (ww hw 27 rfl)) (by decide) (by decide) (by decide)))
  have Fld_a1_handedOn_187 : Fld Z h187 a1 "com/example/spindle/spindle/SpinRule" "handedOn" "Z" (.int (1 : Int32)) := P2.other W187 (Or.inr (slot_ne (t := .boolean) (t' := .boolean) (Or.inl (ww hw 19 rfl)) (Or.inl (ww hw 27 rfl)) (by decide) (by decide) (by decide)))
  have Keep_187 : Keep h0 h187 [a1] := (Keep.refl h0 [a1]).wr W187 (Or.inl (List.mem_of_getElem? (i := 0) rfl))
  have Fld_a1_awaitsAnswer_187 : Fld Z h187 a1 "com/example/spindle/spindle/SpinRule" "awaitsAnswer" "Z" (.int (1 : Int32)) := P3.same W187
  refine GoW.sg (mkF m 8 (Sh7 a1 9223372036854775807) []) (fun t k => st187 t k) ?_
  refine GoW.sg (mkF m 9 (Sh7 a1 9223372036854775807) [(.ref a1)]) (fun t k => XS.aloadN X187.here hx rfl (hb hby d4_8) rfl rfl k) ?_
  refine GoW.sg (mkF m 10 (Sh7 a1 9223372036854775807) [(.int 0), (.ref a1)]) (fun t k => XS.iconst X187.here hx rfl (hb hby d4_9) k) ?_
  obtain ⟨T188, h188, X188, e188, W188, st188⟩ := putF X187 hx hZ hown (host := "") (Or.inl (ww hw 18 rfl)) Via.refl e187 Fld_a1_handedOn_187 Exa_a1_187 (Or.inl (ww hw 19 rfl)) (ww hw 3 rfl) (ty := .boolean) (by decide) rfl rfl (g := (mkF m 10 (Sh7 a1 9223372036854775807) [(.int 0), (.ref a1)])) rfl rfl (hb hby d4_10)
  have N188 := Fr.snoc X188 N187 g_a1
  have Exa_a1_188 : Exa Z h188 a1 "com/example/spindle/spindle/SpinRule" := Exa_a1_187.wr W188
  have Fld_a1_answeredShare_188 : Fld Z h188 a1 "com/example/spindle/spindle/SpinRule" "answeredShare" "D" (.double (4598410768185032704 : UInt64)) := Fld_a1_answeredShare_187.other W188 (Or.inr (slot_ne (t := .double) (t' := .boolean) (Or.inl (ww hw 12 rfl)) (Or.inl (ww hw 19 rfl)) (by decide) (by decide) (by decide)))
  have Fld_a1_awaitsAnswer_188 : Fld Z h188 a1 "com/example/spindle/spindle/SpinRule" "awaitsAnswer" "Z" (.int (1 : Int32)) := Fld_a1_awaitsAnswer_187.other W188 (Or.inr (slot_ne (t := .boolean) (t' := .boolean) (Or.inl (ww hw 27 rfl)) (Or.inl (ww hw 19 rfl)) (by decide) (by decide) (by decide)))
  have Keep_188 : Keep h0 h188 [a1] := Keep_187.wr W188 (Or.inl (List.mem_of_getElem? (i := 0) rfl))
  have Fld_a1_handedOn_188 : Fld Z h188 a1 "com/example/spindle/spindle/SpinRule" "handedOn" "Z" (.int (0 : Int32)) := Fld_a1_handedOn_187.same W188
  refine GoW.sg (mkF m 13 (Sh7 a1 9223372036854775807) []) (fun t k => st188 t k) ?_
  refine GoW.sg (mkF m 14 (Sh7 a1 9223372036854775807) [(.long 9223372036854775807)]) (fun t k => XS.lloadN X188.here hx rfl (hb hby d4_13) rfl k) ?_
  refine GoW.sg (mkF m 17 (Sh7 a1 9223372036854775807) [(.long 20000), (.long 9223372036854775807)]) (fun t k => X188.ldc2Long hx hown (mvT hZ (ww hw 28 rfl)) (g := (mkF m 14 (Sh7 a1 9223372036854775807) [(.long 9223372036854775807)])) rfl (hb hby d4_14) t k) ?_
  refine GoW.sg (mkF m 18 (Sh7 a1 9223372036854775807) [(.int (lcmpW (9223372036854775807 : Int64) (20000 : Int64)))]) (fun t k => XS.lcmp X188.here hx rfl (hb hby d4_17) rfl k) ?_
  refine GoW.sg (mkF m 23 (Sh7 a1 9223372036854775807) []) (fun t k => XS.ifYes X188.here hx rfl (pc0 := 18) (pc' := 23) rfl (hb hby d4_18) rfl (by decide) (by decide) (by decide) k) ?_
  refine GoW.sg (mkF m 24 (Sh7 a1 9223372036854775807) [(.ref a1)]) (fun t k => XS.aloadN X188.here hx rfl (hb hby d4_23) rfl rfl k) ?_
  obtain ⟨T189, X189, e189, st189⟩ := getF X188 hx hZ hown (host := "") (Or.inl (ww hw 26 rfl)) Via.refl e188 Fld_a1_awaitsAnswer_188 (g := (mkF m 24 (Sh7 a1 9223372036854775807) [(.ref a1)])) rfl rfl (hb hby d4_24)
  refine GoW.sg (mkF m 27 (Sh7 a1 9223372036854775807) [(.int 1)]) (fun t k => st189 t k) ?_
  refine GoW.sg (mkF m 30 (Sh7 a1 9223372036854775807) []) (fun t k => XS.ifNo X189.here hx rfl (hb hby d4_27) rfl (by decide) k) ?_
  refine GoW.sg (mkF m 31 (Sh7 a1 9223372036854775807) [(.ref a1)]) (fun t k => XS.aloadN X189.here hx rfl (hb hby d4_30) rfl rfl k) ?_
  obtain ⟨T190, X190, e190, st190⟩ := getF X189 hx hZ hown (host := "") (Or.inl (ww hw 11 rfl)) Via.refl e189 Fld_a1_answeredShare_188 (g := (mkF m 31 (Sh7 a1 9223372036854775807) [(.ref a1)])) rfl rfl (hb hby d4_31)
  refine GoW.sg (mkF m 34 (Sh7 a1 9223372036854775807) [(.double 4598410768185032704)]) (fun t k => st190 t k) ?_
  refine GoW.sg (mkF m 37 (Sh7 a1 9223372036854775807) [(.double 4598175219545276416), (.double 4598410768185032704)]) (fun t k => X190.ldc2DoubleC hx hown (mvT hZ (ww hw 29 rfl)) (g := (mkF m 34 (Sh7 a1 9223372036854775807) [(.double 4598410768185032704)])) rfl (hb hby d4_34) t k) ?_
  refine GoW.sg (mkF m 38 (Sh7 a1 9223372036854775807) [(.int 1)]) (fun t k => XS.dcmpS X190.here hx rfl (hb hby d4_37) rfl (v := (1 : Int32)) (by decide +kernel) k) ?_
  refine GoW.sg (mkF m 41 (Sh7 a1 9223372036854775807) []) (fun t k => XS.ifNo X190.here hx rfl (hb hby d4_38) rfl (by decide) k) ?_
  refine GoW.sg (mkF m 44 (Sh7 a1 9223372036854775807) [(.long 20000)]) (fun t k => X190.ldc2Long hx hown (mvT hZ (ww hw 28 rfl)) (g := (mkF m 41 (Sh7 a1 9223372036854775807) [])) rfl (hb hby d4_41) t k) ?_
  refine GoW.sg (mkF m 48 (Sh7 a1 9223372036854775807) [(.long 20000)]) (fun t k => XS.goto X190.here hx rfl (pc0 := 44) (pc' := 48) rfl (hb hby d4_44) (by decide) (by decide) k) ?_
  refine GoW.retL X190 hx Bd.returns (hb hby d4_48) Bd.notSynchronized ?_ (by decide) (by decide)
  rw [e190]
  exact ⟨rfl, N188, Keep_188, Exa_a1_188, Fld_a1_answeredShare_188, Fld_a1_handedOn_188, Fld_a1_awaitsAnswer_188⟩
def Q6_21 (Z : State) (a1 : Addr) (x2 : Int64) (h0 : Heap) (n0 : Nat) (v : Option Value) (h : Heap) (L : List Loc) : Prop := v = none ∧ Fr n0 L ∧ (h = h0)
theorem ef6_rm6_21 (m : MethodId) (a1 : Addr) (x2 : Int64) : entryFrame m #[(.ref a1), (.int (0 : Int32)), (.int (0 : Int32)), (.long x2)] 6 = (mkF m 0 #[.val (.ref a1), .val (.int 0), .val (.int 0), .val (.long x2), .second, .unset] []) := by first | (simp [entryFrame, mkF, argsToLocals, Value.category, maxLocals]; done) | rfl
set_option maxRecDepth 65536 in
set_option maxHeartbeats 40000000 in
theorem rm6_21 (l : Launch) (Z : State) (a0 : Array Value) (hw : ∀ d ∈ tables_1, d.before a0 Z = true) (ws : List Jvm.Cond) (a1 : Addr) (x2 : Int64)  (h0 : Heap) (n0 : Nat) (P0 : Exa Z h0 a1 "com/example/spindle/spindle/SpinRule") (P1 : Fld Z h0 a1 "com/example/spindle/spindle/SpinRule" "answeredShare" "D" (.double (4598410768185032704 : UInt64))) (P2 : Fld Z h0 a1 "com/example/spindle/spindle/SpinRule" "handedOn" "Z" (.int (0 : Int32))) (P3 : Fld Z h0 a1 "com/example/spindle/spindle/SpinRule" "awaitsAnswer" "Z" (.int (1 : Int32)))   (u0 : x2 < (20000 : Int64))  :
    MetFree l (⟨"com/example/spindle/spindle/SpinRule", "countWait", "(ZZJ)V"⟩ : MethodName) (head1 (Jvm.Cond.code (⟨"com/example/spindle/spindle/SpinRule", "countWait", "(ZZJ)V"⟩ : MethodName) prog_40_method_5_code 6 none :: ws) ({ frames := 0, cells := 0, slots := 0, locals := 0 } : Room)) (fun a U => a = #[(.ref a1), (.int (0 : Int32)), (.int (0 : Int32)), (.long x2)] ∧ Z.Warmed39 U.vm ∧ U.heap = h0) (fun _ _ _ _ _ => True) (fun _ U o U' => ∃ v L, o = .returned v ∧ (Q6_21 Z a1 x2 h0 n0) v U'.heap L ∧ FrameEnd U o U' L 0 0) := by
  refine MetFree.of_bodySF (plainFor_of_name pn_com_example_spindle_spindle_SpinRule) hisR ?_
  intro p e s m args below meth c s₁ Bd hml0 hP hK
  obtain ⟨rfl, hZ, hh⟩ := hP
  have hx := Bd.exec
  have hby := Bd.bytes
  have hml : c.maxLocals = 6 := hml0
  have hown : s.vm.findClass "com/example/spindle/spindle/SpinRule" = some m.cls := findClass_of_methodNamed Bd.named
  have hnm := (name_of_methodNamed Bd.named Bd.method).1
  have X0 : Stand p l e ({ frames := 0, cells := 0, slots := 0, locals := 0 } : Room) s m #[(.ref a1), (.int (0 : Int32)), (.int (0 : Int32)), (.long x2)] below meth c s₁ [] 0 0 := Stand.of_body Bd
  have e0 : s₁.heap = h0 := by rw [← hh, Bd.state]; rfl
  have N0 := Fr.nil n0
  refine GoW.mk ?_
  refine GoW.st (fun t k => castTop (ef6_rm6_21 m a1 x2) k) ?_
  show GoW p e below s (Q6_21 Z a1 x2 h0 n0) 0 0 (s₁.setTop (mkF m 0 (Sh8 a1 0 0 x2) []))
  refine GoW.sg (mkF m 1 (Sh8 a1 0 0 x2) [(.ref a1)]) (fun t k => XS.aloadN X0.here hx rfl (hb hby d6_0) rfl rfl k) ?_
  obtain ⟨T194, X194, e194, st194⟩ := getF X0 hx hZ hown (host := "") (Or.inl (ww hw 26 rfl)) Via.refl e0 P3 (g := (mkF m 1 (Sh8 a1 0 0 x2) [(.ref a1)])) rfl rfl (hb hby d6_1)
  refine GoW.sg (mkF m 4 (Sh8 a1 0 0 x2) [(.int 1)]) (fun t k => st194 t k) ?_
  refine GoW.sg (mkF m 7 (Sh8 a1 0 0 x2) []) (fun t k => XS.ifNo X194.here hx rfl (hb hby d6_4) rfl (by decide) k) ?_
  refine GoW.sg (mkF m 8 (Sh8 a1 0 0 x2) [(.int 0)]) (fun t k => XS.iloadN X194.here hx rfl (hb hby d6_7) rfl k) ?_
  refine GoW.sg (mkF m 11 (Sh8 a1 0 0 x2) []) (fun t k => XS.ifNo X194.here hx rfl (hb hby d6_8) rfl (by decide) k) ?_
  refine GoW.sg (mkF m 12 (Sh8 a1 0 0 x2) [(.long x2)]) (fun t k => XS.lloadN X194.here hx rfl (hb hby d6_11) rfl k) ?_
  refine GoW.sg (mkF m 15 (Sh8 a1 0 0 x2) [(.long 20000), (.long x2)]) (fun t k => X194.ldc2Long hx hown (mvT hZ (ww hw 28 rfl)) (g := (mkF m 12 (Sh8 a1 0 0 x2) [(.long x2)])) rfl (hb hby d6_12) t k) ?_
  refine GoW.sg (mkF m 16 (Sh8 a1 0 0 x2) [(.int (lcmpW x2 (20000 : Int64)))]) (fun t k => XS.lcmp X194.here hx rfl (hb hby d6_15) rfl k) ?_
  refine GoW.sg (mkF m 19 (Sh8 a1 0 0 x2) []) (fun t k => XS.ifNo X194.here hx rfl (hb hby d6_16) rfl ((if0 _ _).trans (tlt ((lw_lt _ _).mpr u0)).2.1) k) ?_
  refine GoW.retV X194 hx Bd.returns (hb hby d6_19) Bd.notSynchronized ?_ (by decide) (by decide)
  rw [e194]
  exact ⟨rfl, N0, rfl⟩
def Q6_22 (Z : State) (a1 : Addr) (x2 : Int64) (h0 : Heap) (n0 : Nat) (v : Option Value) (h : Heap) (L : List Loc) : Prop := v = none ∧ Fr n0 L ∧ (h = h0)
theorem ef6_rm6_22 (m : MethodId) (a1 : Addr) (x2 : Int64) : entryFrame m #[(.ref a1), (.int (0 : Int32)), (.int (1 : Int32)), (.long x2)] 6 = (mkF m 0 #[.val (.ref a1), .val (.int 0), .val (.int 1), .val (.long x2), .second, .unset] []) := by first | (simp [entryFrame, mkF, argsToLocals, Value.category, maxLocals]; done) | rfl
set_option maxRecDepth 65536 in
set_option maxHeartbeats 40000000 in
theorem rm6_22 (l : Launch) (Z : State) (a0 : Array Value) (hw : ∀ d ∈ tables_1, d.before a0 Z = true) (ws : List Jvm.Cond) (a1 : Addr) (x2 : Int64)  (h0 : Heap) (n0 : Nat) (P0 : Exa Z h0 a1 "com/example/spindle/spindle/SpinRule") (P1 : Fld Z h0 a1 "com/example/spindle/spindle/SpinRule" "answeredShare" "D" (.double (4598410768185032704 : UInt64))) (P2 : Fld Z h0 a1 "com/example/spindle/spindle/SpinRule" "handedOn" "Z" (.int (0 : Int32))) (P3 : Fld Z h0 a1 "com/example/spindle/spindle/SpinRule" "awaitsAnswer" "Z" (.int (1 : Int32)))   (u0 : x2 < (20000 : Int64))  :
    MetFree l (⟨"com/example/spindle/spindle/SpinRule", "countWait", "(ZZJ)V"⟩ : MethodName) (head1 (Jvm.Cond.code (⟨"com/example/spindle/spindle/SpinRule", "countWait", "(ZZJ)V"⟩ : MethodName) prog_40_method_5_code 6 none :: ws) ({ frames := 0, cells := 0, slots := 0, locals := 0 } : Room)) (fun a U => a = #[(.ref a1), (.int (0 : Int32)), (.int (1 : Int32)), (.long x2)] ∧ Z.Warmed39 U.vm ∧ U.heap = h0) (fun _ _ _ _ _ => True) (fun _ U o U' => ∃ v L, o = .returned v ∧ (Q6_22 Z a1 x2 h0 n0) v U'.heap L ∧ FrameEnd U o U' L 0 0) := by
  refine MetFree.of_bodySF (plainFor_of_name pn_com_example_spindle_spindle_SpinRule) hisR ?_
  intro p e s m args below meth c s₁ Bd hml0 hP hK
  obtain ⟨rfl, hZ, hh⟩ := hP
  have hx := Bd.exec
  have hby := Bd.bytes
  have hml : c.maxLocals = 6 := hml0
  have hown : s.vm.findClass "com/example/spindle/spindle/SpinRule" = some m.cls := findClass_of_methodNamed Bd.named
  have hnm := (name_of_methodNamed Bd.named Bd.method).1
  have X0 : Stand p l e ({ frames := 0, cells := 0, slots := 0, locals := 0 } : Room) s m #[(.ref a1), (.int (0 : Int32)), (.int (1 : Int32)), (.long x2)] below meth c s₁ [] 0 0 := Stand.of_body Bd
  have e0 : s₁.heap = h0 := by rw [← hh, Bd.state]; rfl
  have N0 := Fr.nil n0
  refine GoW.mk ?_
  refine GoW.st (fun t k => castTop (ef6_rm6_22 m a1 x2) k) ?_
  show GoW p e below s (Q6_22 Z a1 x2 h0 n0) 0 0 (s₁.setTop (mkF m 0 (Sh8 a1 0 1 x2) []))
  refine GoW.sg (mkF m 1 (Sh8 a1 0 1 x2) [(.ref a1)]) (fun t k => XS.aloadN X0.here hx rfl (hb hby d6_0) rfl rfl k) ?_
  obtain ⟨T199, X199, e199, st199⟩ := getF X0 hx hZ hown (host := "") (Or.inl (ww hw 26 rfl)) Via.refl e0 P3 (g := (mkF m 1 (Sh8 a1 0 1 x2) [(.ref a1)])) rfl rfl (hb hby d6_1)
  refine GoW.sg (mkF m 4 (Sh8 a1 0 1 x2) [(.int 1)]) (fun t k => st199 t k) ?_
  refine GoW.sg (mkF m 7 (Sh8 a1 0 1 x2) []) (fun t k => XS.ifNo X199.here hx rfl (hb hby d6_4) rfl (by decide) k) ?_
  refine GoW.sg (mkF m 8 (Sh8 a1 0 1 x2) [(.int 0)]) (fun t k => XS.iloadN X199.here hx rfl (hb hby d6_7) rfl k) ?_
  refine GoW.sg (mkF m 11 (Sh8 a1 0 1 x2) []) (fun t k => XS.ifNo X199.here hx rfl (hb hby d6_8) rfl (by decide) k) ?_
  refine GoW.sg (mkF m 12 (Sh8 a1 0 1 x2) [(.long x2)]) (fun t k => XS.lloadN X199.here hx rfl (hb hby d6_11) rfl k) ?_
  refine GoW.sg (mkF m 15 (Sh8 a1 0 1 x2) [(.long 20000), (.long x2)]) (fun t k => X199.ldc2Long hx hown (mvT hZ (ww hw 28 rfl)) (g := (mkF m 12 (Sh8 a1 0 1 x2) [(.long x2)])) rfl (hb hby d6_12) t k) ?_
  refine GoW.sg (mkF m 16 (Sh8 a1 0 1 x2) [(.int (lcmpW x2 (20000 : Int64)))]) (fun t k => XS.lcmp X199.here hx rfl (hb hby d6_15) rfl k) ?_
  refine GoW.sg (mkF m 19 (Sh8 a1 0 1 x2) []) (fun t k => XS.ifNo X199.here hx rfl (hb hby d6_16) rfl ((if0 _ _).trans (tlt ((lw_lt _ _).mpr u0)).2.1) k) ?_
  refine GoW.retV X199 hx Bd.returns (hb hby d6_19) Bd.notSynchronized ?_ (by decide) (by decide)
  rw [e199]
  exact ⟨rfl, N0, rfl⟩
def Q6_23 (Z : State) (a1 : Addr) (x2 : Int64) (h0 : Heap) (n0 : Nat) (v : Option Value) (h : Heap) (L : List Loc) : Prop := v = none ∧ Fr n0 L ∧ (Keep h0 h [a1]) ∧ (Exa Z h a1 "com/example/spindle/spindle/SpinRule") ∧ (Fld Z h a1 "com/example/spindle/spindle/SpinRule" "answeredShare" "D" (.double (4597461529758007296 : UInt64))) ∧ (Fld Z h a1 "com/example/spindle/spindle/SpinRule" "handedOn" "Z" (.int (0 : Int32))) ∧ (Fld Z h a1 "com/example/spindle/spindle/SpinRule" "awaitsAnswer" "Z" (.int (1 : Int32)))
theorem ef6_rm6_23 (m : MethodId) (a1 : Addr) (x2 : Int64) : entryFrame m #[(.ref a1), (.int (1 : Int32)), (.int (0 : Int32)), (.long x2)] 6 = (mkF m 0 #[.val (.ref a1), .val (.int 1), .val (.int 0), .val (.long x2), .second, .unset] []) := by first | (simp [entryFrame, mkF, argsToLocals, Value.category, maxLocals]; done) | rfl
set_option maxRecDepth 65536 in
set_option maxHeartbeats 40000000 in
theorem rm6_23 (l : Launch) (Z : State) (a0 : Array Value) (hw : ∀ d ∈ tables_1, d.before a0 Z = true) (ws : List Jvm.Cond) (a1 : Addr) (x2 : Int64)  (h0 : Heap) (n0 : Nat) (P0 : Exa Z h0 a1 "com/example/spindle/spindle/SpinRule") (P1 : Fld Z h0 a1 "com/example/spindle/spindle/SpinRule" "answeredShare" "D" (.double (4598410768185032704 : UInt64))) (P2 : Fld Z h0 a1 "com/example/spindle/spindle/SpinRule" "handedOn" "Z" (.int (0 : Int32))) (P3 : Fld Z h0 a1 "com/example/spindle/spindle/SpinRule" "awaitsAnswer" "Z" (.int (1 : Int32))) (g_a1 : n0 ≤ a1)  (u0 : x2 < (20000 : Int64))  :
    MetFree l (⟨"com/example/spindle/spindle/SpinRule", "countWait", "(ZZJ)V"⟩ : MethodName) (head1 (Jvm.Cond.code (⟨"com/example/spindle/spindle/SpinRule", "countWait", "(ZZJ)V"⟩ : MethodName) prog_40_method_5_code 6 none :: ws) ({ frames := 0, cells := 0, slots := 0, locals := 0 } : Room)) (fun a U => a = #[(.ref a1), (.int (1 : Int32)), (.int (0 : Int32)), (.long x2)] ∧ Z.Warmed39 U.vm ∧ U.heap = h0) (fun _ _ _ _ _ => True) (fun _ U o U' => ∃ v L, o = .returned v ∧ (Q6_23 Z a1 x2 h0 n0) v U'.heap L ∧ FrameEnd U o U' L 0 0) := by
  refine MetFree.of_bodySF (plainFor_of_name pn_com_example_spindle_spindle_SpinRule) hisR ?_
  intro p e s m args below meth c s₁ Bd hml0 hP hK
  obtain ⟨rfl, hZ, hh⟩ := hP
  have hx := Bd.exec
  have hby := Bd.bytes
  have hml : c.maxLocals = 6 := hml0
  have hown : s.vm.findClass "com/example/spindle/spindle/SpinRule" = some m.cls := findClass_of_methodNamed Bd.named
  have hnm := (name_of_methodNamed Bd.named Bd.method).1
  have X0 : Stand p l e ({ frames := 0, cells := 0, slots := 0, locals := 0 } : Room) s m #[(.ref a1), (.int (1 : Int32)), (.int (0 : Int32)), (.long x2)] below meth c s₁ [] 0 0 := Stand.of_body Bd
  have e0 : s₁.heap = h0 := by rw [← hh, Bd.state]; rfl
  have N0 := Fr.nil n0
  refine GoW.mk ?_
  refine GoW.st (fun t k => castTop (ef6_rm6_23 m a1 x2) k) ?_
  show GoW p e below s (Q6_23 Z a1 x2 h0 n0) 0 0 (s₁.setTop (mkF m 0 (Sh8 a1 1 0 x2) []))
  refine GoW.sg (mkF m 1 (Sh8 a1 1 0 x2) [(.ref a1)]) (fun t k => XS.aloadN X0.here hx rfl (hb hby d6_0) rfl rfl k) ?_
  obtain ⟨T207, X207, e207, st207⟩ := getF X0 hx hZ hown (host := "") (Or.inl (ww hw 26 rfl)) Via.refl e0 P3 (g := (mkF m 1 (Sh8 a1 1 0 x2) [(.ref a1)])) rfl rfl (hb hby d6_1)
  refine GoW.sg (mkF m 4 (Sh8 a1 1 0 x2) [(.int 1)]) (fun t k => st207 t k) ?_
  refine GoW.sg (mkF m 7 (Sh8 a1 1 0 x2) []) (fun t k => XS.ifNo X207.here hx rfl (hb hby d6_4) rfl (by decide) k) ?_
  refine GoW.sg (mkF m 8 (Sh8 a1 1 0 x2) [(.int 1)]) (fun t k => XS.iloadN X207.here hx rfl (hb hby d6_7) rfl k) ?_
  refine GoW.sg (mkF m 20 (Sh8 a1 1 0 x2) []) (fun t k => XS.ifYes X207.here hx rfl (pc0 := 8) (pc' := 20) rfl (hb hby d6_8) rfl (by decide) (by decide) (by decide) k) ?_
  refine GoW.sg (mkF m 21 (Sh8 a1 1 0 x2) [(.int 1)]) (fun t k => XS.iloadN X207.here hx rfl (hb hby d6_20) rfl k) ?_
  refine GoW.sg (mkF m 24 (Sh8 a1 1 0 x2) []) (fun t k => XS.ifNo X207.here hx rfl (hb hby d6_21) rfl (by decide) k) ?_
  refine GoW.sg (mkF m 25 (Sh8 a1 1 0 x2) [(.int 0)]) (fun t k => XS.iloadN X207.here hx rfl (hb hby d6_24) rfl k) ?_
  refine GoW.sg (mkF m 40 (Sh8 a1 1 0 x2) []) (fun t k => XS.ifYes X207.here hx rfl (pc0 := 25) (pc' := 40) rfl (hb hby d6_25) rfl (by decide) (by decide) (by decide) k) ?_
  refine GoW.sg (mkF m 41 (Sh8 a1 1 0 x2) [(.int 0)]) (fun t k => XS.iconst X207.here hx rfl (hb hby d6_40) k) ?_
  refine GoW.sg (mkF m 43 (Sh9 a1 1 0 x2 0) []) (fun t k => XS.istore X207.here hx rfl (hb hby d6_41) rfl (l' := (Sh9 a1 1 0 x2 0)) rfl k) ?_
  refine GoW.sg (mkF m 44 (Sh9 a1 1 0 x2 0) [(.ref a1)]) (fun t k => XS.aloadN X207.here hx rfl (hb hby d6_43) rfl rfl k) ?_
  refine GoW.sg (mkF m 45 (Sh9 a1 1 0 x2 0) [(.ref a1), (.ref a1)]) (fun t k => XS.dup X207.here hx rfl (hb hby d6_44) rfl rfl k) ?_
  obtain ⟨T208, X208, e208, st208⟩ := getF X207 hx hZ hown (host := "") (Or.inl (ww hw 11 rfl)) Via.refl e207 P1 (g := (mkF m 45 (Sh9 a1 1 0 x2 0) [(.ref a1), (.ref a1)])) rfl rfl (hb hby d6_45)
  refine GoW.sg (mkF m 48 (Sh9 a1 1 0 x2 0) [(.double 4598410768185032704), (.ref a1)]) (fun t k => st208 t k) ?_
  refine GoW.sg (mkF m 50 (Sh9 a1 1 0 x2 0) [(.int 0), (.double 4598410768185032704), (.ref a1)]) (fun t k => XS.iload X208.here hx rfl (hb hby d6_48) rfl k) ?_
  refine GoW.sg (mkF m 57 (Sh9 a1 1 0 x2 0) [(.double 4598410768185032704), (.ref a1)]) (fun t k => XS.ifYes X208.here hx rfl (pc0 := 50) (pc' := 57) rfl (hb hby d6_50) rfl (by decide) (by decide) (by decide) k) ?_
  refine GoW.sg (mkF m 58 (Sh9 a1 1 0 x2 0) [(.int 0), (.double 4598410768185032704), (.ref a1)]) (fun t k => XS.iconst X208.here hx rfl (hb hby d6_57) k) ?_
  refine GoW.sg (mkF m 59 (Sh9 a1 1 0 x2 0) [(.double 0), (.double 4598410768185032704), (.ref a1)]) (fun t k => XS.i2dS X208.here hx rfl (hb hby d6_58) rfl (v := (0 : UInt64)) (by decide +kernel) k) ?_
  refine GoW.sg (mkF m 60 (Sh9 a1 1 0 x2 0) [(.ref a1), (.double 0), (.double 4598410768185032704), (.ref a1)]) (fun t k => XS.aloadN X208.here hx rfl (hb hby d6_59) rfl rfl k) ?_
  obtain ⟨T209, X209, e209, st209⟩ := getF X208 hx hZ hown (host := "") (Or.inl (ww hw 11 rfl)) Via.refl e208 P1 (g := (mkF m 60 (Sh9 a1 1 0 x2 0) [(.ref a1), (.double 0), (.double 4598410768185032704), (.ref a1)])) rfl rfl (hb hby d6_60)
  refine GoW.sg (mkF m 63 (Sh9 a1 1 0 x2 0) [(.double 4598410768185032704), (.double 0), (.double 4598410768185032704), (.ref a1)]) (fun t k => st209 t k) ?_
  refine GoW.sg (mkF m 64 (Sh9 a1 1 0 x2 0) [(.double 13821782805039808512), (.double 4598410768185032704), (.ref a1)]) (fun t k => XS.dsubS X209.here hx rfl (hb hby d6_63) rfl (v := (13821782805039808512 : UInt64)) (by decide +kernel) (by decide +kernel) k) ?_
  refine GoW.sg (mkF m 67 (Sh9 a1 1 0 x2 0) [(.double 4593671619917905920), (.double 13821782805039808512), (.double 4598410768185032704), (.ref a1)]) (fun t k => X209.ldc2DoubleC hx hown (mvT hZ (ww hw 40 rfl)) (g := (mkF m 64 (Sh9 a1 1 0 x2 0) [(.double 13821782805039808512), (.double 4598410768185032704), (.ref a1)])) rfl (hb hby d6_64) t k) ?_
  refine GoW.sg (mkF m 68 (Sh9 a1 1 0 x2 0) [(.double 13808272006157697024), (.double 4598410768185032704), (.ref a1)]) (fun t k => XS.dmulS X209.here hx rfl (hb hby d6_67) rfl (v := (13808272006157697024 : UInt64)) (by decide +kernel) (by decide +kernel) k) ?_
  refine GoW.sg (mkF m 69 (Sh9 a1 1 0 x2 0) [(.double 4597461529758007296), (.ref a1)]) (fun t k => XS.daddS X209.here hx rfl (hb hby d6_68) rfl (v := (4597461529758007296 : UInt64)) (by decide +kernel) (by decide +kernel) k) ?_
  obtain ⟨T210, h210, X210, e210, W210, st210⟩ := putF X209 hx hZ hown (host := "") (Or.inl (ww hw 11 rfl)) Via.refl e209 P1 P0 (Or.inl (ww hw 12 rfl)) (ww hw 3 rfl) (ty := .double) (by decide) rfl rfl (g := (mkF m 69 (Sh9 a1 1 0 x2 0) [(.double 4597461529758007296), (.ref a1)])) rfl rfl (hb hby d6_69)
  have N210 := Fr.snoc X210 N0 g_a1
  have Exa_a1_210 : Exa Z h210 a1 "com/example/spindle/spindle/SpinRule" := P0.wr W210
  have Fld_a1_handedOn_210 : Fld Z h210 a1 "com/example/spindle/spindle/SpinRule" "handedOn" "Z" (.int (0 : Int32)) := P2.other W210 (Or.inr (slot_ne (t := .boolean) (t' := .double) (Or.inl (ww hw 19 rfl)) (Or.inl (ww hw 12 rfl)) (by decide) (by decide) (by decide)))
  have Fld_a1_awaitsAnswer_210 : Fld Z h210 a1 "com/example/spindle/spindle/SpinRule" "awaitsAnswer" "Z" (.int (1 : Int32)) := P3.other W210 (Or.inr (slot_ne (t := .boolean) (t' := .double) (Or.inl (ww hw 27 rfl)) (Or.inl (ww hw 12 rfl)) (by decide) (by decide) (by decide)))
  have Keep_210 : Keep h0 h210 [a1] := (Keep.refl h0 [a1]).wr W210 (Or.inl (List.mem_of_getElem? (i := 0) rfl))
  have Fld_a1_answeredShare_210 : Fld Z h210 a1 "com/example/spindle/spindle/SpinRule" "answeredShare" "D" (.double (4597461529758007296 : UInt64)) := P1.same W210
  refine GoW.sg (mkF m 72 (Sh9 a1 1 0 x2 0) []) (fun t k => st210 t k) ?_
  refine GoW.retV X210 hx Bd.returns (hb hby d6_72) Bd.notSynchronized ?_ (by decide) (by decide)
  rw [e210]
  exact ⟨rfl, N210, Keep_210, Exa_a1_210, Fld_a1_answeredShare_210, Fld_a1_handedOn_210, Fld_a1_awaitsAnswer_210⟩
def Q3_24 (Z : State) (a1 : Addr) (h0 : Heap) (n0 : Nat) (v : Option Value) (h : Heap) (L : List Loc) : Prop := v = none ∧ Fr n0 L ∧ (Keep h0 h [a1]) ∧ (Exa Z h a1 "com/example/spindle/spindle/SpinRule") ∧ (Fld Z h a1 "com/example/spindle/spindle/SpinRule" "answeredShare" "D" (.double (4597461529758007296 : UInt64))) ∧ (Fld Z h a1 "com/example/spindle/spindle/SpinRule" "handedOn" "Z" (.int (1 : Int32))) ∧ (Fld Z h a1 "com/example/spindle/spindle/SpinRule" "awaitsAnswer" "Z" (.int (1 : Int32)))
theorem ef3_rm3_24 (m : MethodId) (a1 : Addr) : entryFrame m #[(.ref a1)] 1 = (mkF m 0 #[.val (.ref a1)] []) := by first | (simp [entryFrame, mkF, argsToLocals, Value.category, maxLocals]; done) | rfl
set_option maxRecDepth 65536 in
set_option maxHeartbeats 40000000 in
theorem rm3_24 (l : Launch) (Z : State) (a0 : Array Value) (hw : ∀ d ∈ tables_1, d.before a0 Z = true) (ws : List Jvm.Cond) (a1 : Addr)  (h0 : Heap) (n0 : Nat) (P0 : Exa Z h0 a1 "com/example/spindle/spindle/SpinRule") (P1 : Fld Z h0 a1 "com/example/spindle/spindle/SpinRule" "answeredShare" "D" (.double (4597461529758007296 : UInt64))) (P2 : Fld Z h0 a1 "com/example/spindle/spindle/SpinRule" "handedOn" "Z" (.int (0 : Int32))) (P3 : Fld Z h0 a1 "com/example/spindle/spindle/SpinRule" "awaitsAnswer" "Z" (.int (1 : Int32))) (g_a1 : n0 ≤ a1)    :
    MetFree l (⟨"com/example/spindle/spindle/SpinRule", "handedOn", "()V"⟩ : MethodName) (head1 (Jvm.Cond.code (⟨"com/example/spindle/spindle/SpinRule", "handedOn", "()V"⟩ : MethodName) prog_40_method_2_code 1 none :: ws) ({ frames := 0, cells := 0, slots := 0, locals := 0 } : Room)) (fun a U => a = #[(.ref a1)] ∧ Z.Warmed39 U.vm ∧ U.heap = h0) (fun _ _ _ _ _ => True) (fun _ U o U' => ∃ v L, o = .returned v ∧ (Q3_24 Z a1 h0 n0) v U'.heap L ∧ FrameEnd U o U' L 0 0) := by
  refine MetFree.of_bodySF (plainFor_of_name pn_com_example_spindle_spindle_SpinRule) hisR ?_
  intro p e s m args below meth c s₁ Bd hml0 hP hK
  obtain ⟨rfl, hZ, hh⟩ := hP
  have hx := Bd.exec
  have hby := Bd.bytes
  have hml : c.maxLocals = 1 := hml0
  have hown : s.vm.findClass "com/example/spindle/spindle/SpinRule" = some m.cls := findClass_of_methodNamed Bd.named
  have hnm := (name_of_methodNamed Bd.named Bd.method).1
  have X0 : Stand p l e ({ frames := 0, cells := 0, slots := 0, locals := 0 } : Room) s m #[(.ref a1)] below meth c s₁ [] 0 0 := Stand.of_body Bd
  have e0 : s₁.heap = h0 := by rw [← hh, Bd.state]; rfl
  have N0 := Fr.nil n0
  refine GoW.mk ?_
  refine GoW.st (fun t k => castTop (ef3_rm3_24 m a1) k) ?_
  show GoW p e below s (Q3_24 Z a1 h0 n0) 0 0 (s₁.setTop (mkF m 0 #[.val (.ref a1)] []))
  refine GoW.sg (mkF m 1 #[.val (.ref a1)] [(.ref a1)]) (fun t k => XS.aloadN X0.here hx rfl (hb hby d3_0) rfl rfl k) ?_
  refine GoW.sg (mkF m 2 #[.val (.ref a1)] [(.int 1), (.ref a1)]) (fun t k => XS.iconst X0.here hx rfl (hb hby d3_1) k) ?_
  obtain ⟨T213, h213, X213, e213, W213, st213⟩ := putF X0 hx hZ hown (host := "") (Or.inl (ww hw 18 rfl)) Via.refl e0 P2 P0 (Or.inl (ww hw 19 rfl)) (ww hw 3 rfl) (ty := .boolean) (by decide) rfl rfl (g := (mkF m 2 #[.val (.ref a1)] [(.int 1), (.ref a1)])) rfl rfl (hb hby d3_2)
  have N213 := Fr.snoc X213 N0 g_a1
  have Exa_a1_213 : Exa Z h213 a1 "com/example/spindle/spindle/SpinRule" := P0.wr W213
  have Fld_a1_answeredShare_213 : Fld Z h213 a1 "com/example/spindle/spindle/SpinRule" "answeredShare" "D" (.double (4597461529758007296 : UInt64)) := P1.other W213 (Or.inr (slot_ne (t := .double) (t' := .boolean) (Or.inl (ww hw 12 rfl)) (Or.inl (ww hw 19 rfl)) (by decide) (by decide) (by decide)))
  have Fld_a1_awaitsAnswer_213 : Fld Z h213 a1 "com/example/spindle/spindle/SpinRule" "awaitsAnswer" "Z" (.int (1 : Int32)) := P3.other W213 (Or.inr (slot_ne (t := .boolean) (t' := .boolean) (Or.inl (ww hw 27 rfl)) (Or.inl (ww hw 19 rfl)) (by decide) (by decide) (by decide)))
  have Keep_213 : Keep h0 h213 [a1] := (Keep.refl h0 [a1]).wr W213 (Or.inl (List.mem_of_getElem? (i := 0) rfl))
  have Fld_a1_handedOn_213 : Fld Z h213 a1 "com/example/spindle/spindle/SpinRule" "handedOn" "Z" (.int (1 : Int32)) := P2.same W213
  refine GoW.sg (mkF m 5 #[.val (.ref a1)] []) (fun t k => st213 t k) ?_
  refine GoW.retV X213 hx Bd.returns (hb hby d3_5) Bd.notSynchronized ?_ (by decide) (by decide)
  rw [e213]
  exact ⟨rfl, N213, Keep_213, Exa_a1_213, Fld_a1_answeredShare_213, Fld_a1_handedOn_213, Fld_a1_awaitsAnswer_213⟩
def Q4_25 (Z : State) (a1 : Addr) (h0 : Heap) (n0 : Nat) (v : Option Value) (h : Heap) (L : List Loc) : Prop := v = some (.long (0 : Int64)) ∧ Fr n0 L ∧ (Keep h0 h [a1]) ∧ (Exa Z h a1 "com/example/spindle/spindle/SpinRule") ∧ (Fld Z h a1 "com/example/spindle/spindle/SpinRule" "answeredShare" "D" (.double (4597461529758007296 : UInt64))) ∧ (Fld Z h a1 "com/example/spindle/spindle/SpinRule" "handedOn" "Z" (.int (0 : Int32))) ∧ (Fld Z h a1 "com/example/spindle/spindle/SpinRule" "awaitsAnswer" "Z" (.int (1 : Int32)))
theorem ef4_rm4_25 (m : MethodId) (a1 : Addr) : entryFrame m #[(.ref a1), (.long (9223372036854775807 : Int64))] 3 = (mkF m 0 #[.val (.ref a1), .val (.long 9223372036854775807), .second] []) := by first | (simp [entryFrame, mkF, argsToLocals, Value.category, maxLocals]; done) | rfl
set_option maxRecDepth 65536 in
set_option maxHeartbeats 40000000 in
theorem rm4_25 (l : Launch) (Z : State) (a0 : Array Value) (hw : ∀ d ∈ tables_1, d.before a0 Z = true) (ws : List Jvm.Cond) (a1 : Addr)  (h0 : Heap) (n0 : Nat) (P0 : Exa Z h0 a1 "com/example/spindle/spindle/SpinRule") (P1 : Fld Z h0 a1 "com/example/spindle/spindle/SpinRule" "answeredShare" "D" (.double (4597461529758007296 : UInt64))) (P2 : Fld Z h0 a1 "com/example/spindle/spindle/SpinRule" "handedOn" "Z" (.int (1 : Int32))) (P3 : Fld Z h0 a1 "com/example/spindle/spindle/SpinRule" "awaitsAnswer" "Z" (.int (1 : Int32))) (g_a1 : n0 ≤ a1)    :
    MetFree l (⟨"com/example/spindle/spindle/SpinRule", "spinNanos", "(J)J"⟩ : MethodName) (head1 (Jvm.Cond.code (⟨"com/example/spindle/spindle/SpinRule", "spinNanos", "(J)J"⟩ : MethodName) prog_40_method_3_code 3 (some .long) :: ws) ({ frames := 0, cells := 0, slots := 0, locals := 0 } : Room)) (fun a U => a = #[(.ref a1), (.long (9223372036854775807 : Int64))] ∧ Z.Warmed39 U.vm ∧ U.heap = h0) (fun _ _ _ _ _ => True) (fun _ U o U' => ∃ v L, o = .returned v ∧ (Q4_25 Z a1 h0 n0) v U'.heap L ∧ FrameEnd U o U' L 0 0) := by
  refine MetFree.of_bodySF (plainFor_of_name pn_com_example_spindle_spindle_SpinRule) hisR ?_
  intro p e s m args below meth c s₁ Bd hml0 hP hK
  obtain ⟨rfl, hZ, hh⟩ := hP
  have hx := Bd.exec
  have hby := Bd.bytes
  have hml : c.maxLocals = 3 := hml0
  have hown : s.vm.findClass "com/example/spindle/spindle/SpinRule" = some m.cls := findClass_of_methodNamed Bd.named
  have hnm := (name_of_methodNamed Bd.named Bd.method).1
  have X0 : Stand p l e ({ frames := 0, cells := 0, slots := 0, locals := 0 } : Room) s m #[(.ref a1), (.long (9223372036854775807 : Int64))] below meth c s₁ [] 0 0 := Stand.of_body Bd
  have e0 : s₁.heap = h0 := by rw [← hh, Bd.state]; rfl
  have N0 := Fr.nil n0
  refine GoW.mk ?_
  refine GoW.st (fun t k => castTop (ef4_rm4_25 m a1) k) ?_
  show GoW p e below s (Q4_25 Z a1 h0 n0) 0 0 (s₁.setTop (mkF m 0 (Sh7 a1 9223372036854775807) []))
  refine GoW.sg (mkF m 1 (Sh7 a1 9223372036854775807) [(.ref a1)]) (fun t k => XS.aloadN X0.here hx rfl (hb hby d4_0) rfl rfl k) ?_
  refine GoW.sg (mkF m 2 (Sh7 a1 9223372036854775807) [(.ref a1), (.ref a1)]) (fun t k => XS.aloadN X0.here hx rfl (hb hby d4_1) rfl rfl k) ?_
  obtain ⟨T220, X220, e220, st220⟩ := getF X0 hx hZ hown (host := "") (Or.inl (ww hw 18 rfl)) Via.refl e0 P2 (g := (mkF m 2 (Sh7 a1 9223372036854775807) [(.ref a1), (.ref a1)])) rfl rfl (hb hby d4_2)
  refine GoW.sg (mkF m 5 (Sh7 a1 9223372036854775807) [(.int 1), (.ref a1)]) (fun t k => st220 t k) ?_
  obtain ⟨T221, h221, X221, e221, W221, st221⟩ := putF X220 hx hZ hown (host := "") (Or.inl (ww hw 26 rfl)) Via.refl e220 P3 P0 (Or.inl (ww hw 27 rfl)) (ww hw 3 rfl) (ty := .boolean) (by decide) rfl rfl (g := (mkF m 5 (Sh7 a1 9223372036854775807) [(.int 1), (.ref a1)])) rfl rfl (hb hby d4_5)
  have N221 := Fr.snoc X221 N0 g_a1
  have Exa_a1_221 : Exa Z h221 a1 "com/example/spindle/spindle/SpinRule" := P0.wr W221
  have Fld_a1_answeredShare_221 : Fld Z h221 a1 "com/example/spindle/spindle/SpinRule" "answeredShare" "D" (.double (4597461529758007296 : UInt64)) := P1.other W221 (Or.inr (slot_ne (t := .double) (t' := .boolean) (Or.inl (ww hw 12 rfl)) (Or.inl (ww hw 27 rfl)) (by decide) (by decide) (by decide)))
  have Fld_a1_handedOn_221 : Fld Z h221 a1 "com/example/spindle/spindle/SpinRule" "handedOn" "Z" (.int (1 : Int32)) := P2.other W221 (Or.inr (slot_ne (t := .boolean) (t' := .boolean) (Or.inl (ww hw 19 rfl)) (Or.inl (ww hw 27 rfl)) (by decide) (by decide) (by decide)))
  have Keep_221 : Keep h0 h221 [a1] := (Keep.refl h0 [a1]).wr W221 (Or.inl (List.mem_of_getElem? (i := 0) rfl))
  have Fld_a1_awaitsAnswer_221 : Fld Z h221 a1 "com/example/spindle/spindle/SpinRule" "awaitsAnswer" "Z" (.int (1 : Int32)) := P3.same W221
  refine GoW.sg (mkF m 8 (Sh7 a1 9223372036854775807) []) (fun t k => st221 t k) ?_
  refine GoW.sg (mkF m 9 (Sh7 a1 9223372036854775807) [(.ref a1)]) (fun t k => XS.aloadN X221.here hx rfl (hb hby d4_8) rfl rfl k) ?_
  refine GoW.sg (mkF m 10 (Sh7 a1 9223372036854775807) [(.int 0), (.ref a1)]) (fun t k => XS.iconst X221.here hx rfl (hb hby d4_9) k) ?_
  obtain ⟨T222, h222, X222, e222, W222, st222⟩ := putF X221 hx hZ hown (host := "") (Or.inl (ww hw 18 rfl)) Via.refl e221 Fld_a1_handedOn_221 Exa_a1_221 (Or.inl (ww hw 19 rfl)) (ww hw 3 rfl) (ty := .boolean) (by decide) rfl rfl (g := (mkF m 10 (Sh7 a1 9223372036854775807) [(.int 0), (.ref a1)])) rfl rfl (hb hby d4_10)
  have N222 := Fr.snoc X222 N221 g_a1
  have Exa_a1_222 : Exa Z h222 a1 "com/example/spindle/spindle/SpinRule" := Exa_a1_221.wr W222
  have Fld_a1_answeredShare_222 : Fld Z h222 a1 "com/example/spindle/spindle/SpinRule" "answeredShare" "D" (.double (4597461529758007296 : UInt64)) := Fld_a1_answeredShare_221.other W222 (Or.inr (slot_ne (t := .double) (t' := .boolean) (Or.inl (ww hw 12 rfl)) (Or.inl (ww hw 19 rfl)) (by decide) (by decide) (by decide)))
  have Fld_a1_awaitsAnswer_222 : Fld Z h222 a1 "com/example/spindle/spindle/SpinRule" "awaitsAnswer" "Z" (.int (1 : Int32)) := Fld_a1_awaitsAnswer_221.other W222 (Or.inr (slot_ne (t := .boolean) (t' := .boolean) (Or.inl (ww hw 27 rfl)) (Or.inl (ww hw 19 rfl)) (by decide) (by decide) (by decide)))
  have Keep_222 : Keep h0 h222 [a1] := Keep_221.wr W222 (Or.inl (List.mem_of_getElem? (i := 0) rfl))
  have Fld_a1_handedOn_222 : Fld Z h222 a1 "com/example/spindle/spindle/SpinRule" "handedOn" "Z" (.int (0 : Int32)) := Fld_a1_handedOn_221.same W222
  refine GoW.sg (mkF m 13 (Sh7 a1 9223372036854775807) []) (fun t k => st222 t k) ?_
  refine GoW.sg (mkF m 14 (Sh7 a1 9223372036854775807) [(.long 9223372036854775807)]) (fun t k => XS.lloadN X222.here hx rfl (hb hby d4_13) rfl k) ?_
  refine GoW.sg (mkF m 17 (Sh7 a1 9223372036854775807) [(.long 20000), (.long 9223372036854775807)]) (fun t k => X222.ldc2Long hx hown (mvT hZ (ww hw 28 rfl)) (g := (mkF m 14 (Sh7 a1 9223372036854775807) [(.long 9223372036854775807)])) rfl (hb hby d4_14) t k) ?_
  refine GoW.sg (mkF m 18 (Sh7 a1 9223372036854775807) [(.int (lcmpW (9223372036854775807 : Int64) (20000 : Int64)))]) (fun t k => XS.lcmp X222.here hx rfl (hb hby d4_17) rfl k) ?_
  refine GoW.sg (mkF m 23 (Sh7 a1 9223372036854775807) []) (fun t k => XS.ifYes X222.here hx rfl (pc0 := 18) (pc' := 23) rfl (hb hby d4_18) rfl (by decide) (by decide) (by decide) k) ?_
  refine GoW.sg (mkF m 24 (Sh7 a1 9223372036854775807) [(.ref a1)]) (fun t k => XS.aloadN X222.here hx rfl (hb hby d4_23) rfl rfl k) ?_
  obtain ⟨T223, X223, e223, st223⟩ := getF X222 hx hZ hown (host := "") (Or.inl (ww hw 26 rfl)) Via.refl e222 Fld_a1_awaitsAnswer_222 (g := (mkF m 24 (Sh7 a1 9223372036854775807) [(.ref a1)])) rfl rfl (hb hby d4_24)
  refine GoW.sg (mkF m 27 (Sh7 a1 9223372036854775807) [(.int 1)]) (fun t k => st223 t k) ?_
  refine GoW.sg (mkF m 30 (Sh7 a1 9223372036854775807) []) (fun t k => XS.ifNo X223.here hx rfl (hb hby d4_27) rfl (by decide) k) ?_
  refine GoW.sg (mkF m 31 (Sh7 a1 9223372036854775807) [(.ref a1)]) (fun t k => XS.aloadN X223.here hx rfl (hb hby d4_30) rfl rfl k) ?_
  obtain ⟨T224, X224, e224, st224⟩ := getF X223 hx hZ hown (host := "") (Or.inl (ww hw 11 rfl)) Via.refl e223 Fld_a1_answeredShare_222 (g := (mkF m 31 (Sh7 a1 9223372036854775807) [(.ref a1)])) rfl rfl (hb hby d4_31)
  refine GoW.sg (mkF m 34 (Sh7 a1 9223372036854775807) [(.double 4597461529758007296)]) (fun t k => st224 t k) ?_
  refine GoW.sg (mkF m 37 (Sh7 a1 9223372036854775807) [(.double 4598175219545276416), (.double 4597461529758007296)]) (fun t k => X224.ldc2DoubleC hx hown (mvT hZ (ww hw 29 rfl)) (g := (mkF m 34 (Sh7 a1 9223372036854775807) [(.double 4597461529758007296)])) rfl (hb hby d4_34) t k) ?_
  refine GoW.sg (mkF m 38 (Sh7 a1 9223372036854775807) [(.int (-1))]) (fun t k => XS.dcmpS X224.here hx rfl (hb hby d4_37) rfl (v := (-1 : Int32)) (by decide +kernel) k) ?_
  refine GoW.sg (mkF m 47 (Sh7 a1 9223372036854775807) []) (fun t k => XS.ifYes X224.here hx rfl (pc0 := 38) (pc' := 47) rfl (hb hby d4_38) rfl (by decide) (by decide) (by decide) k) ?_
  refine GoW.sg (mkF m 48 (Sh7 a1 9223372036854775807) [(.long 0)]) (fun t k => XS.lconst X224.here hx rfl (hb hby d4_47) k) ?_
  refine GoW.retL X224 hx Bd.returns (hb hby d4_48) Bd.notSynchronized ?_ (by decide) (by decide)
  rw [e224]
  exact ⟨rfl, N222, Keep_222, Exa_a1_222, Fld_a1_answeredShare_222, Fld_a1_handedOn_222, Fld_a1_awaitsAnswer_222⟩
def Q6_26 (Z : State) (a1 : Addr) (x2 : Int64) (h0 : Heap) (n0 : Nat) (v : Option Value) (h : Heap) (L : List Loc) : Prop := v = none ∧ Fr n0 L ∧ (Keep h0 h [a1]) ∧ (Exa Z h a1 "com/example/spindle/spindle/SpinRule") ∧ (Fld Z h a1 "com/example/spindle/spindle/SpinRule" "answeredShare" "D" (.double (4600070174465327104 : UInt64))) ∧ (Fld Z h a1 "com/example/spindle/spindle/SpinRule" "handedOn" "Z" (.int (0 : Int32))) ∧ (Fld Z h a1 "com/example/spindle/spindle/SpinRule" "awaitsAnswer" "Z" (.int (1 : Int32)))
theorem ef6_rm6_26 (m : MethodId) (a1 : Addr) (x2 : Int64) : entryFrame m #[(.ref a1), (.int (1 : Int32)), (.int (1 : Int32)), (.long x2)] 6 = (mkF m 0 #[.val (.ref a1), .val (.int 1), .val (.int 1), .val (.long x2), .second, .unset] []) := by first | (simp [entryFrame, mkF, argsToLocals, Value.category, maxLocals]; done) | rfl
set_option maxRecDepth 65536 in
set_option maxHeartbeats 40000000 in
theorem rm6_26 (l : Launch) (Z : State) (a0 : Array Value) (hw : ∀ d ∈ tables_1, d.before a0 Z = true) (ws : List Jvm.Cond) (a1 : Addr) (x2 : Int64)  (h0 : Heap) (n0 : Nat) (P0 : Exa Z h0 a1 "com/example/spindle/spindle/SpinRule") (P1 : Fld Z h0 a1 "com/example/spindle/spindle/SpinRule" "answeredShare" "D" (.double (4598410768185032704 : UInt64))) (P2 : Fld Z h0 a1 "com/example/spindle/spindle/SpinRule" "handedOn" "Z" (.int (0 : Int32))) (P3 : Fld Z h0 a1 "com/example/spindle/spindle/SpinRule" "awaitsAnswer" "Z" (.int (1 : Int32))) (g_a1 : n0 ≤ a1)  (u0 : x2 < (20000 : Int64))  :
    MetFree l (⟨"com/example/spindle/spindle/SpinRule", "countWait", "(ZZJ)V"⟩ : MethodName) (head1 (Jvm.Cond.code (⟨"com/example/spindle/spindle/SpinRule", "countWait", "(ZZJ)V"⟩ : MethodName) prog_40_method_5_code 6 none :: ws) ({ frames := 0, cells := 0, slots := 0, locals := 0 } : Room)) (fun a U => a = #[(.ref a1), (.int (1 : Int32)), (.int (1 : Int32)), (.long x2)] ∧ Z.Warmed39 U.vm ∧ U.heap = h0) (fun _ _ _ _ _ => True) (fun _ U o U' => ∃ v L, o = .returned v ∧ (Q6_26 Z a1 x2 h0 n0) v U'.heap L ∧ FrameEnd U o U' L 0 0) := by
  refine MetFree.of_bodySF (plainFor_of_name pn_com_example_spindle_spindle_SpinRule) hisR ?_
  intro p e s m args below meth c s₁ Bd hml0 hP hK
  obtain ⟨rfl, hZ, hh⟩ := hP
  have hx := Bd.exec
  have hby := Bd.bytes
  have hml : c.maxLocals = 6 := hml0
  have hown : s.vm.findClass "com/example/spindle/spindle/SpinRule" = some m.cls := findClass_of_methodNamed Bd.named
  have hnm := (name_of_methodNamed Bd.named Bd.method).1
  have X0 : Stand p l e ({ frames := 0, cells := 0, slots := 0, locals := 0 } : Room) s m #[(.ref a1), (.int (1 : Int32)), (.int (1 : Int32)), (.long x2)] below meth c s₁ [] 0 0 := Stand.of_body Bd
  have e0 : s₁.heap = h0 := by rw [← hh, Bd.state]; rfl
  have N0 := Fr.nil n0
  refine GoW.mk ?_
  refine GoW.st (fun t k => castTop (ef6_rm6_26 m a1 x2) k) ?_
  show GoW p e below s (Q6_26 Z a1 x2 h0 n0) 0 0 (s₁.setTop (mkF m 0 (Sh8 a1 1 1 x2) []))
  refine GoW.sg (mkF m 1 (Sh8 a1 1 1 x2) [(.ref a1)]) (fun t k => XS.aloadN X0.here hx rfl (hb hby d6_0) rfl rfl k) ?_
  obtain ⟨T230, X230, e230, st230⟩ := getF X0 hx hZ hown (host := "") (Or.inl (ww hw 26 rfl)) Via.refl e0 P3 (g := (mkF m 1 (Sh8 a1 1 1 x2) [(.ref a1)])) rfl rfl (hb hby d6_1)
  refine GoW.sg (mkF m 4 (Sh8 a1 1 1 x2) [(.int 1)]) (fun t k => st230 t k) ?_
  refine GoW.sg (mkF m 7 (Sh8 a1 1 1 x2) []) (fun t k => XS.ifNo X230.here hx rfl (hb hby d6_4) rfl (by decide) k) ?_
  refine GoW.sg (mkF m 8 (Sh8 a1 1 1 x2) [(.int 1)]) (fun t k => XS.iloadN X230.here hx rfl (hb hby d6_7) rfl k) ?_
  refine GoW.sg (mkF m 20 (Sh8 a1 1 1 x2) []) (fun t k => XS.ifYes X230.here hx rfl (pc0 := 8) (pc' := 20) rfl (hb hby d6_8) rfl (by decide) (by decide) (by decide) k) ?_
  refine GoW.sg (mkF m 21 (Sh8 a1 1 1 x2) [(.int 1)]) (fun t k => XS.iloadN X230.here hx rfl (hb hby d6_20) rfl k) ?_
  refine GoW.sg (mkF m 24 (Sh8 a1 1 1 x2) []) (fun t k => XS.ifNo X230.here hx rfl (hb hby d6_21) rfl (by decide) k) ?_
  refine GoW.sg (mkF m 25 (Sh8 a1 1 1 x2) [(.int 1)]) (fun t k => XS.iloadN X230.here hx rfl (hb hby d6_24) rfl k) ?_
  refine GoW.sg (mkF m 28 (Sh8 a1 1 1 x2) []) (fun t k => XS.ifNo X230.here hx rfl (hb hby d6_25) rfl (by decide) k) ?_
  refine GoW.sg (mkF m 29 (Sh8 a1 1 1 x2) [(.long x2)]) (fun t k => XS.lloadN X230.here hx rfl (hb hby d6_28) rfl k) ?_
  refine GoW.sg (mkF m 32 (Sh8 a1 1 1 x2) [(.long 20000), (.long x2)]) (fun t k => X230.ldc2Long hx hown (mvT hZ (ww hw 28 rfl)) (g := (mkF m 29 (Sh8 a1 1 1 x2) [(.long x2)])) rfl (hb hby d6_29) t k) ?_
  refine GoW.sg (mkF m 33 (Sh8 a1 1 1 x2) [(.int (lcmpW x2 (20000 : Int64)))]) (fun t k => XS.lcmp X230.here hx rfl (hb hby d6_32) rfl k) ?_
  refine GoW.sg (mkF m 36 (Sh8 a1 1 1 x2) []) (fun t k => XS.ifNo X230.here hx rfl (hb hby d6_33) rfl ((if0 _ _).trans (tlt ((lw_lt _ _).mpr u0)).2.1) k) ?_
  refine GoW.sg (mkF m 37 (Sh8 a1 1 1 x2) [(.int 1)]) (fun t k => XS.iconst X230.here hx rfl (hb hby d6_36) k) ?_
  refine GoW.sg (mkF m 41 (Sh8 a1 1 1 x2) [(.int 1)]) (fun t k => XS.goto X230.here hx rfl (pc0 := 37) (pc' := 41) rfl (hb hby d6_37) (by decide) (by decide) k) ?_
  refine GoW.sg (mkF m 43 (Sh9 a1 1 1 x2 1) []) (fun t k => XS.istore X230.here hx rfl (hb hby d6_41) rfl (l' := (Sh9 a1 1 1 x2 1)) rfl k) ?_
  refine GoW.sg (mkF m 44 (Sh9 a1 1 1 x2 1) [(.ref a1)]) (fun t k => XS.aloadN X230.here hx rfl (hb hby d6_43) rfl rfl k) ?_
  refine GoW.sg (mkF m 45 (Sh9 a1 1 1 x2 1) [(.ref a1), (.ref a1)]) (fun t k => XS.dup X230.here hx rfl (hb hby d6_44) rfl rfl k) ?_
  obtain ⟨T231, X231, e231, st231⟩ := getF X230 hx hZ hown (host := "") (Or.inl (ww hw 11 rfl)) Via.refl e230 P1 (g := (mkF m 45 (Sh9 a1 1 1 x2 1) [(.ref a1), (.ref a1)])) rfl rfl (hb hby d6_45)
  refine GoW.sg (mkF m 48 (Sh9 a1 1 1 x2 1) [(.double 4598410768185032704), (.ref a1)]) (fun t k => st231 t k) ?_
  refine GoW.sg (mkF m 50 (Sh9 a1 1 1 x2 1) [(.int 1), (.double 4598410768185032704), (.ref a1)]) (fun t k => XS.iload X231.here hx rfl (hb hby d6_48) rfl k) ?_
  refine GoW.sg (mkF m 53 (Sh9 a1 1 1 x2 1) [(.double 4598410768185032704), (.ref a1)]) (fun t k => XS.ifNo X231.here hx rfl (hb hby d6_50) rfl (by decide) k) ?_
  refine GoW.sg (mkF m 54 (Sh9 a1 1 1 x2 1) [(.int 1), (.double 4598410768185032704), (.ref a1)]) (fun t k => XS.iconst X231.here hx rfl (hb hby d6_53) k) ?_
  refine GoW.sg (mkF m 58 (Sh9 a1 1 1 x2 1) [(.int 1), (.double 4598410768185032704), (.ref a1)]) (fun t k => XS.goto X231.here hx rfl (pc0 := 54) (pc' := 58) rfl (hb hby d6_54) (by decide) (by decide) k) ?_
  refine GoW.sg (mkF m 59 (Sh9 a1 1 1 x2 1) [(.double 4607182418800017408), (.double 4598410768185032704), (.ref a1)]) (fun t k => XS.i2dS X231.here hx rfl (hb hby d6_58) rfl (v := (4607182418800017408 : UInt64)) (by decide +kernel) k) ?_
  refine GoW.sg (mkF m 60 (Sh9 a1 1 1 x2 1) [(.ref a1), (.double 4607182418800017408), (.double 4598410768185032704), (.ref a1)]) (fun t k => XS.aloadN X231.here hx rfl (hb hby d6_59) rfl rfl k) ?_
  obtain ⟨T232, X232, e232, st232⟩ := getF X231 hx hZ hown (host := "") (Or.inl (ww hw 11 rfl)) Via.refl e231 P1 (g := (mkF m 60 (Sh9 a1 1 1 x2 1) [(.ref a1), (.double 4607182418800017408), (.double 4598410768185032704), (.ref a1)])) rfl rfl (hb hby d6_60)
  refine GoW.sg (mkF m 63 (Sh9 a1 1 1 x2 1) [(.double 4598410768185032704), (.double 4607182418800017408), (.double 4598410768185032704), (.ref a1)]) (fun t k => st232 t k) ?_
  refine GoW.sg (mkF m 64 (Sh9 a1 1 1 x2 1) [(.double 4604812844666454016), (.double 4598410768185032704), (.ref a1)]) (fun t k => XS.dsubS X232.here hx rfl (hb hby d6_63) rfl (v := (4604812844666454016 : UInt64)) (by decide +kernel) (by decide +kernel) k) ?_
  refine GoW.sg (mkF m 67 (Sh9 a1 1 1 x2 1) [(.double 4593671619917905920), (.double 4604812844666454016), (.double 4598410768185032704), (.ref a1)]) (fun t k => X232.ldc2DoubleC hx hown (mvT hZ (ww hw 40 rfl)) (g := (mkF m 64 (Sh9 a1 1 1 x2 1) [(.double 4604812844666454016), (.double 4598410768185032704), (.ref a1)])) rfl (hb hby d6_64) t k) ?_
  refine GoW.sg (mkF m 68 (Sh9 a1 1 1 x2 1) [(.double 4591302045784342528), (.double 4598410768185032704), (.ref a1)]) (fun t k => XS.dmulS X232.here hx rfl (hb hby d6_67) rfl (v := (4591302045784342528 : UInt64)) (by decide +kernel) (by decide +kernel) k) ?_
  refine GoW.sg (mkF m 69 (Sh9 a1 1 1 x2 1) [(.double 4600070174465327104), (.ref a1)]) (fun t k => XS.daddS X232.here hx rfl (hb hby d6_68) rfl (v := (4600070174465327104 : UInt64)) (by decide +kernel) (by decide +kernel) k) ?_
  obtain ⟨T233, h233, X233, e233, W233, st233⟩ := putF X232 hx hZ hown (host := "") (Or.inl (ww hw 11 rfl)) Via.refl e232 P1 P0 (Or.inl (ww hw 12 rfl)) (ww hw 3 rfl) (ty := .double) (by decide) rfl rfl (g := (mkF m 69 (Sh9 a1 1 1 x2 1) [(.double 4600070174465327104), (.ref a1)])) rfl rfl (hb hby d6_69)
  have N233 := Fr.snoc X233 N0 g_a1
  have Exa_a1_233 : Exa Z h233 a1 "com/example/spindle/spindle/SpinRule" := P0.wr W233
  have Fld_a1_handedOn_233 : Fld Z h233 a1 "com/example/spindle/spindle/SpinRule" "handedOn" "Z" (.int (0 : Int32)) := P2.other W233 (Or.inr (slot_ne (t := .boolean) (t' := .double) (Or.inl (ww hw 19 rfl)) (Or.inl (ww hw 12 rfl)) (by decide) (by decide) (by decide)))
  have Fld_a1_awaitsAnswer_233 : Fld Z h233 a1 "com/example/spindle/spindle/SpinRule" "awaitsAnswer" "Z" (.int (1 : Int32)) := P3.other W233 (Or.inr (slot_ne (t := .boolean) (t' := .double) (Or.inl (ww hw 27 rfl)) (Or.inl (ww hw 12 rfl)) (by decide) (by decide) (by decide)))
  have Keep_233 : Keep h0 h233 [a1] := (Keep.refl h0 [a1]).wr W233 (Or.inl (List.mem_of_getElem? (i := 0) rfl))
  have Fld_a1_answeredShare_233 : Fld Z h233 a1 "com/example/spindle/spindle/SpinRule" "answeredShare" "D" (.double (4600070174465327104 : UInt64)) := P1.same W233
  refine GoW.sg (mkF m 72 (Sh9 a1 1 1 x2 1) []) (fun t k => st233 t k) ?_
  refine GoW.retV X233 hx Bd.returns (hb hby d6_72) Bd.notSynchronized ?_ (by decide) (by decide)
  rw [e233]
  exact ⟨rfl, N233, Keep_233, Exa_a1_233, Fld_a1_answeredShare_233, Fld_a1_handedOn_233, Fld_a1_awaitsAnswer_233⟩
def Q3_27 (Z : State) (a1 : Addr) (h0 : Heap) (n0 : Nat) (v : Option Value) (h : Heap) (L : List Loc) : Prop := v = none ∧ Fr n0 L ∧ (Keep h0 h [a1]) ∧ (Exa Z h a1 "com/example/spindle/spindle/SpinRule") ∧ (Fld Z h a1 "com/example/spindle/spindle/SpinRule" "answeredShare" "D" (.double (4600070174465327104 : UInt64))) ∧ (Fld Z h a1 "com/example/spindle/spindle/SpinRule" "handedOn" "Z" (.int (1 : Int32))) ∧ (Fld Z h a1 "com/example/spindle/spindle/SpinRule" "awaitsAnswer" "Z" (.int (1 : Int32)))
theorem ef3_rm3_27 (m : MethodId) (a1 : Addr) : entryFrame m #[(.ref a1)] 1 = (mkF m 0 #[.val (.ref a1)] []) := by first | (simp [entryFrame, mkF, argsToLocals, Value.category, maxLocals]; done) | rfl
set_option maxRecDepth 65536 in
set_option maxHeartbeats 40000000 in
theorem rm3_27 (l : Launch) (Z : State) (a0 : Array Value) (hw : ∀ d ∈ tables_1, d.before a0 Z = true) (ws : List Jvm.Cond) (a1 : Addr)  (h0 : Heap) (n0 : Nat) (P0 : Exa Z h0 a1 "com/example/spindle/spindle/SpinRule") (P1 : Fld Z h0 a1 "com/example/spindle/spindle/SpinRule" "answeredShare" "D" (.double (4600070174465327104 : UInt64))) (P2 : Fld Z h0 a1 "com/example/spindle/spindle/SpinRule" "handedOn" "Z" (.int (0 : Int32))) (P3 : Fld Z h0 a1 "com/example/spindle/spindle/SpinRule" "awaitsAnswer" "Z" (.int (1 : Int32))) (g_a1 : n0 ≤ a1)    :
    MetFree l (⟨"com/example/spindle/spindle/SpinRule", "handedOn", "()V"⟩ : MethodName) (head1 (Jvm.Cond.code (⟨"com/example/spindle/spindle/SpinRule", "handedOn", "()V"⟩ : MethodName) prog_40_method_2_code 1 none :: ws) ({ frames := 0, cells := 0, slots := 0, locals := 0 } : Room)) (fun a U => a = #[(.ref a1)] ∧ Z.Warmed39 U.vm ∧ U.heap = h0) (fun _ _ _ _ _ => True) (fun _ U o U' => ∃ v L, o = .returned v ∧ (Q3_27 Z a1 h0 n0) v U'.heap L ∧ FrameEnd U o U' L 0 0) := by
  refine MetFree.of_bodySF (plainFor_of_name pn_com_example_spindle_spindle_SpinRule) hisR ?_
  intro p e s m args below meth c s₁ Bd hml0 hP hK
  obtain ⟨rfl, hZ, hh⟩ := hP
  have hx := Bd.exec
  have hby := Bd.bytes
  have hml : c.maxLocals = 1 := hml0
  have hown : s.vm.findClass "com/example/spindle/spindle/SpinRule" = some m.cls := findClass_of_methodNamed Bd.named
  have hnm := (name_of_methodNamed Bd.named Bd.method).1
  have X0 : Stand p l e ({ frames := 0, cells := 0, slots := 0, locals := 0 } : Room) s m #[(.ref a1)] below meth c s₁ [] 0 0 := Stand.of_body Bd
  have e0 : s₁.heap = h0 := by rw [← hh, Bd.state]; rfl
  have N0 := Fr.nil n0
  refine GoW.mk ?_
  refine GoW.st (fun t k => castTop (ef3_rm3_27 m a1) k) ?_
  show GoW p e below s (Q3_27 Z a1 h0 n0) 0 0 (s₁.setTop (mkF m 0 #[.val (.ref a1)] []))
  refine GoW.sg (mkF m 1 #[.val (.ref a1)] [(.ref a1)]) (fun t k => XS.aloadN X0.here hx rfl (hb hby d3_0) rfl rfl k) ?_
  refine GoW.sg (mkF m 2 #[.val (.ref a1)] [(.int 1), (.ref a1)]) (fun t k => XS.iconst X0.here hx rfl (hb hby d3_1) k) ?_
  obtain ⟨T236, h236, X236, e236, W236, st236⟩ := putF X0 hx hZ hown (host := "") (Or.inl (ww hw 18 rfl)) Via.refl e0 P2 P0 (Or.inl (ww hw 19 rfl)) (ww hw 3 rfl) (ty := .boolean) (by decide) rfl rfl (g := (mkF m 2 #[.val (.ref a1)] [(.int 1), (.ref a1)])) rfl rfl (hb hby d3_2)
  have N236 := Fr.snoc X236 N0 g_a1
  have Exa_a1_236 : Exa Z h236 a1 "com/example/spindle/spindle/SpinRule" := P0.wr W236
  have Fld_a1_answeredShare_236 : Fld Z h236 a1 "com/example/spindle/spindle/SpinRule" "answeredShare" "D" (.double (4600070174465327104 : UInt64)) := P1.other W236 (Or.inr (slot_ne (t := .double) (t' := .boolean) (Or.inl (ww hw 12 rfl)) (Or.inl (ww hw 19 rfl)) (by decide) (by decide) (by decide)))
  have Fld_a1_awaitsAnswer_236 : Fld Z h236 a1 "com/example/spindle/spindle/SpinRule" "awaitsAnswer" "Z" (.int (1 : Int32)) := P3.other W236 (Or.inr (slot_ne (t := .boolean) (t' := .boolean) (Or.inl (ww hw 27 rfl)) (Or.inl (ww hw 19 rfl)) (by decide) (by decide) (by decide)))
  have Keep_236 : Keep h0 h236 [a1] := (Keep.refl h0 [a1]).wr W236 (Or.inl (List.mem_of_getElem? (i := 0) rfl))
  have Fld_a1_handedOn_236 : Fld Z h236 a1 "com/example/spindle/spindle/SpinRule" "handedOn" "Z" (.int (1 : Int32)) := P2.same W236
  refine GoW.sg (mkF m 5 #[.val (.ref a1)] []) (fun t k => st236 t k) ?_
  refine GoW.retV X236 hx Bd.returns (hb hby d3_5) Bd.notSynchronized ?_ (by decide) (by decide)
  rw [e236]
  exact ⟨rfl, N236, Keep_236, Exa_a1_236, Fld_a1_answeredShare_236, Fld_a1_handedOn_236, Fld_a1_awaitsAnswer_236⟩
def Q4_28 (Z : State) (a1 : Addr) (h0 : Heap) (n0 : Nat) (v : Option Value) (h : Heap) (L : List Loc) : Prop := v = some (.long (20000 : Int64)) ∧ Fr n0 L ∧ (Keep h0 h [a1]) ∧ (Exa Z h a1 "com/example/spindle/spindle/SpinRule") ∧ (Fld Z h a1 "com/example/spindle/spindle/SpinRule" "answeredShare" "D" (.double (4600070174465327104 : UInt64))) ∧ (Fld Z h a1 "com/example/spindle/spindle/SpinRule" "handedOn" "Z" (.int (0 : Int32))) ∧ (Fld Z h a1 "com/example/spindle/spindle/SpinRule" "awaitsAnswer" "Z" (.int (1 : Int32)))
theorem ef4_rm4_28 (m : MethodId) (a1 : Addr) : entryFrame m #[(.ref a1), (.long (9223372036854775807 : Int64))] 3 = (mkF m 0 #[.val (.ref a1), .val (.long 9223372036854775807), .second] []) := by first | (simp [entryFrame, mkF, argsToLocals, Value.category, maxLocals]; done) | rfl
set_option maxRecDepth 65536 in
set_option maxHeartbeats 40000000 in
theorem rm4_28 (l : Launch) (Z : State) (a0 : Array Value) (hw : ∀ d ∈ tables_1, d.before a0 Z = true) (ws : List Jvm.Cond) (a1 : Addr)  (h0 : Heap) (n0 : Nat) (P0 : Exa Z h0 a1 "com/example/spindle/spindle/SpinRule") (P1 : Fld Z h0 a1 "com/example/spindle/spindle/SpinRule" "answeredShare" "D" (.double (4600070174465327104 : UInt64))) (P2 : Fld Z h0 a1 "com/example/spindle/spindle/SpinRule" "handedOn" "Z" (.int (1 : Int32))) (P3 : Fld Z h0 a1 "com/example/spindle/spindle/SpinRule" "awaitsAnswer" "Z" (.int (1 : Int32))) (g_a1 : n0 ≤ a1)    :
    MetFree l (⟨"com/example/spindle/spindle/SpinRule", "spinNanos", "(J)J"⟩ : MethodName) (head1 (Jvm.Cond.code (⟨"com/example/spindle/spindle/SpinRule", "spinNanos", "(J)J"⟩ : MethodName) prog_40_method_3_code 3 (some .long) :: ws) ({ frames := 0, cells := 0, slots := 0, locals := 0 } : Room)) (fun a U => a = #[(.ref a1), (.long (9223372036854775807 : Int64))] ∧ Z.Warmed39 U.vm ∧ U.heap = h0) (fun _ _ _ _ _ => True) (fun _ U o U' => ∃ v L, o = .returned v ∧ (Q4_28 Z a1 h0 n0) v U'.heap L ∧ FrameEnd U o U' L 0 0) := by
  refine MetFree.of_bodySF (plainFor_of_name pn_com_example_spindle_spindle_SpinRule) hisR ?_
  intro p e s m args below meth c s₁ Bd hml0 hP hK
  obtain ⟨rfl, hZ, hh⟩ := hP
  have hx := Bd.exec
  have hby := Bd.bytes
  have hml : c.maxLocals = 3 := hml0
  have hown : s.vm.findClass "com/example/spindle/spindle/SpinRule" = some m.cls := findClass_of_methodNamed Bd.named
  have hnm := (name_of_methodNamed Bd.named Bd.method).1
  have X0 : Stand p l e ({ frames := 0, cells := 0, slots := 0, locals := 0 } : Room) s m #[(.ref a1), (.long (9223372036854775807 : Int64))] below meth c s₁ [] 0 0 := Stand.of_body Bd
  have e0 : s₁.heap = h0 := by rw [← hh, Bd.state]; rfl
  have N0 := Fr.nil n0
  refine GoW.mk ?_
  refine GoW.st (fun t k => castTop (ef4_rm4_28 m a1) k) ?_
  show GoW p e below s (Q4_28 Z a1 h0 n0) 0 0 (s₁.setTop (mkF m 0 (Sh7 a1 9223372036854775807) []))
  refine GoW.sg (mkF m 1 (Sh7 a1 9223372036854775807) [(.ref a1)]) (fun t k => XS.aloadN X0.here hx rfl (hb hby d4_0) rfl rfl k) ?_
  refine GoW.sg (mkF m 2 (Sh7 a1 9223372036854775807) [(.ref a1), (.ref a1)]) (fun t k => XS.aloadN X0.here hx rfl (hb hby d4_1) rfl rfl k) ?_
  obtain ⟨T243, X243, e243, st243⟩ := getF X0 hx hZ hown (host := "") (Or.inl (ww hw 18 rfl)) Via.refl e0 P2 (g := (mkF m 2 (Sh7 a1 9223372036854775807) [(.ref a1), (.ref a1)])) rfl rfl (hb hby d4_2)
  refine GoW.sg (mkF m 5 (Sh7 a1 9223372036854775807) [(.int 1), (.ref a1)]) (fun t k => st243 t k) ?_
  obtain ⟨T244, h244, X244, e244, W244, st244⟩ := putF X243 hx hZ hown (host := "") (Or.inl (ww hw 26 rfl)) Via.refl e243 P3 P0 (Or.inl (ww hw 27 rfl)) (ww hw 3 rfl) (ty := .boolean) (by decide) rfl rfl (g := (mkF m 5 (Sh7 a1 9223372036854775807) [(.int 1), (.ref a1)])) rfl rfl (hb hby d4_5)
  have N244 := Fr.snoc X244 N0 g_a1
  have Exa_a1_244 : Exa Z h244 a1 "com/example/spindle/spindle/SpinRule" := P0.wr W244
  have Fld_a1_answeredShare_244 : Fld Z h244 a1 "com/example/spindle/spindle/SpinRule" "answeredShare" "D" (.double (4600070174465327104 : UInt64)) := P1.other W244 (Or.inr (slot_ne (t := .double) (t' := .boolean) (Or.inl (ww hw 12 rfl)) (Or.inl (ww hw 27 rfl)) (by decide) (by decide) (by decide)))
  have Fld_a1_handedOn_244 : Fld Z h244 a1 "com/example/spindle/spindle/SpinRule" "handedOn" "Z" (.int (1 : Int32)) := P2.other W244 (Or.inr (slot_ne (t := .boolean) (t' := .boolean) (Or.inl (ww hw 19 rfl)) (Or.inl (ww hw 27 rfl)) (by decide) (by decide) (by decide)))
  have Keep_244 : Keep h0 h244 [a1] := (Keep.refl h0 [a1]).wr W244 (Or.inl (List.mem_of_getElem? (i := 0) rfl))
  have Fld_a1_awaitsAnswer_244 : Fld Z h244 a1 "com/example/spindle/spindle/SpinRule" "awaitsAnswer" "Z" (.int (1 : Int32)) := P3.same W244
  refine GoW.sg (mkF m 8 (Sh7 a1 9223372036854775807) []) (fun t k => st244 t k) ?_
  refine GoW.sg (mkF m 9 (Sh7 a1 9223372036854775807) [(.ref a1)]) (fun t k => XS.aloadN X244.here hx rfl (hb hby d4_8) rfl rfl k) ?_
  refine GoW.sg (mkF m 10 (Sh7 a1 9223372036854775807) [(.int 0), (.ref a1)]) (fun t k => XS.iconst X244.here hx rfl (hb hby d4_9) k) ?_
  obtain ⟨T245, h245, X245, e245, W245, st245⟩ := putF X244 hx hZ hown (host := "") (Or.inl (ww hw 18 rfl)) Via.refl e244 Fld_a1_handedOn_244 Exa_a1_244 (Or.inl (ww hw 19 rfl)) (ww hw 3 rfl) (ty := .boolean) (by decide) rfl rfl (g := (mkF m 10 (Sh7 a1 9223372036854775807) [(.int 0), (.ref a1)])) rfl rfl (hb hby d4_10)
  have N245 := Fr.snoc X245 N244 g_a1
  have Exa_a1_245 : Exa Z h245 a1 "com/example/spindle/spindle/SpinRule" := Exa_a1_244.wr W245
  have Fld_a1_answeredShare_245 : Fld Z h245 a1 "com/example/spindle/spindle/SpinRule" "answeredShare" "D" (.double (4600070174465327104 : UInt64)) := Fld_a1_answeredShare_244.other W245 (Or.inr (slot_ne (t := .double) (t' := .boolean) (Or.inl (ww hw 12 rfl)) (Or.inl (ww hw 19 rfl)) (by decide) (by decide) (by decide)))
  have Fld_a1_awaitsAnswer_245 : Fld Z h245 a1 "com/example/spindle/spindle/SpinRule" "awaitsAnswer" "Z" (.int (1 : Int32)) := Fld_a1_awaitsAnswer_244.other W245 (Or.inr (slot_ne (t := .boolean) (t' := .boolean) (Or.inl (ww hw 27 rfl)) (Or.inl (ww hw 19 rfl)) (by decide) (by decide) (by decide)))
  have Keep_245 : Keep h0 h245 [a1] := Keep_244.wr W245 (Or.inl (List.mem_of_getElem? (i := 0) rfl))
  have Fld_a1_handedOn_245 : Fld Z h245 a1 "com/example/spindle/spindle/SpinRule" "handedOn" "Z" (.int (0 : Int32)) := Fld_a1_handedOn_244.same W245
  refine GoW.sg (mkF m 13 (Sh7 a1 9223372036854775807) []) (fun t k => st245 t k) ?_
  refine GoW.sg (mkF m 14 (Sh7 a1 9223372036854775807) [(.long 9223372036854775807)]) (fun t k => XS.lloadN X245.here hx rfl (hb hby d4_13) rfl k) ?_
  refine GoW.sg (mkF m 17 (Sh7 a1 9223372036854775807) [(.long 20000), (.long 9223372036854775807)]) (fun t k => X245.ldc2Long hx hown (mvT hZ (ww hw 28 rfl)) (g := (mkF m 14 (Sh7 a1 9223372036854775807) [(.long 9223372036854775807)])) rfl (hb hby d4_14) t k) ?_
  refine GoW.sg (mkF m 18 (Sh7 a1 9223372036854775807) [(.int (lcmpW (9223372036854775807 : Int64) (20000 : Int64)))]) (fun t k => XS.lcmp X245.here hx rfl (hb hby d4_17) rfl k) ?_
  refine GoW.sg (mkF m 23 (Sh7 a1 9223372036854775807) []) (fun t k => XS.ifYes X245.here hx rfl (pc0 := 18) (pc' := 23) rfl (hb hby d4_18) rfl (by decide) (by decide) (by decide) k) ?_
  refine GoW.sg (mkF m 24 (Sh7 a1 9223372036854775807) [(.ref a1)]) (fun t k => XS.aloadN X245.here hx rfl (hb hby d4_23) rfl rfl k) ?_
  obtain ⟨T246, X246, e246, st246⟩ := getF X245 hx hZ hown (host := "") (Or.inl (ww hw 26 rfl)) Via.refl e245 Fld_a1_awaitsAnswer_245 (g := (mkF m 24 (Sh7 a1 9223372036854775807) [(.ref a1)])) rfl rfl (hb hby d4_24)
  refine GoW.sg (mkF m 27 (Sh7 a1 9223372036854775807) [(.int 1)]) (fun t k => st246 t k) ?_
  refine GoW.sg (mkF m 30 (Sh7 a1 9223372036854775807) []) (fun t k => XS.ifNo X246.here hx rfl (hb hby d4_27) rfl (by decide) k) ?_
  refine GoW.sg (mkF m 31 (Sh7 a1 9223372036854775807) [(.ref a1)]) (fun t k => XS.aloadN X246.here hx rfl (hb hby d4_30) rfl rfl k) ?_
  obtain ⟨T247, X247, e247, st247⟩ := getF X246 hx hZ hown (host := "") (Or.inl (ww hw 11 rfl)) Via.refl e246 Fld_a1_answeredShare_245 (g := (mkF m 31 (Sh7 a1 9223372036854775807) [(.ref a1)])) rfl rfl (hb hby d4_31)
  refine GoW.sg (mkF m 34 (Sh7 a1 9223372036854775807) [(.double 4600070174465327104)]) (fun t k => st247 t k) ?_
  refine GoW.sg (mkF m 37 (Sh7 a1 9223372036854775807) [(.double 4598175219545276416), (.double 4600070174465327104)]) (fun t k => X247.ldc2DoubleC hx hown (mvT hZ (ww hw 29 rfl)) (g := (mkF m 34 (Sh7 a1 9223372036854775807) [(.double 4600070174465327104)])) rfl (hb hby d4_34) t k) ?_
  refine GoW.sg (mkF m 38 (Sh7 a1 9223372036854775807) [(.int 1)]) (fun t k => XS.dcmpS X247.here hx rfl (hb hby d4_37) rfl (v := (1 : Int32)) (by decide +kernel) k) ?_
  refine GoW.sg (mkF m 41 (Sh7 a1 9223372036854775807) []) (fun t k => XS.ifNo X247.here hx rfl (hb hby d4_38) rfl (by decide) k) ?_
  refine GoW.sg (mkF m 44 (Sh7 a1 9223372036854775807) [(.long 20000)]) (fun t k => X247.ldc2Long hx hown (mvT hZ (ww hw 28 rfl)) (g := (mkF m 41 (Sh7 a1 9223372036854775807) [])) rfl (hb hby d4_41) t k) ?_
  refine GoW.sg (mkF m 48 (Sh7 a1 9223372036854775807) [(.long 20000)]) (fun t k => XS.goto X247.here hx rfl (pc0 := 44) (pc' := 48) rfl (hb hby d4_44) (by decide) (by decide) k) ?_
  refine GoW.retL X247 hx Bd.returns (hb hby d4_48) Bd.notSynchronized ?_ (by decide) (by decide)
  rw [e247]
  exact ⟨rfl, N245, Keep_245, Exa_a1_245, Fld_a1_answeredShare_245, Fld_a1_handedOn_245, Fld_a1_awaitsAnswer_245⟩
def Q6_29 (Z : State) (a1 : Addr) (x2 : Int64) (h0 : Heap) (n0 : Nat) (v : Option Value) (h : Heap) (L : List Loc) : Prop := v = none ∧ Fr n0 L ∧ (Keep h0 h [a1]) ∧ (Exa Z h a1 "com/example/spindle/spindle/SpinRule") ∧ (Fld Z h a1 "com/example/spindle/spindle/SpinRule" "answeredShare" "D" (.double (4597461529758007296 : UInt64))) ∧ (Fld Z h a1 "com/example/spindle/spindle/SpinRule" "handedOn" "Z" (.int (0 : Int32))) ∧ (Fld Z h a1 "com/example/spindle/spindle/SpinRule" "awaitsAnswer" "Z" (.int (1 : Int32)))
theorem ef6_rm6_29 (m : MethodId) (a1 : Addr) (x2 : Int64) : entryFrame m #[(.ref a1), (.int (0 : Int32)), (.int (0 : Int32)), (.long x2)] 6 = (mkF m 0 #[.val (.ref a1), .val (.int 0), .val (.int 0), .val (.long x2), .second, .unset] []) := by first | (simp [entryFrame, mkF, argsToLocals, Value.category, maxLocals]; done) | rfl
set_option maxRecDepth 65536 in
set_option maxHeartbeats 40000000 in
theorem rm6_29 (l : Launch) (Z : State) (a0 : Array Value) (hw : ∀ d ∈ tables_1, d.before a0 Z = true) (ws : List Jvm.Cond) (a1 : Addr) (x2 : Int64)  (h0 : Heap) (n0 : Nat) (P0 : Exa Z h0 a1 "com/example/spindle/spindle/SpinRule") (P1 : Fld Z h0 a1 "com/example/spindle/spindle/SpinRule" "answeredShare" "D" (.double (4598410768185032704 : UInt64))) (P2 : Fld Z h0 a1 "com/example/spindle/spindle/SpinRule" "handedOn" "Z" (.int (0 : Int32))) (P3 : Fld Z h0 a1 "com/example/spindle/spindle/SpinRule" "awaitsAnswer" "Z" (.int (1 : Int32))) (g_a1 : n0 ≤ a1)  (u0 : ¬ (x2 < (20000 : Int64)))  :
    MetFree l (⟨"com/example/spindle/spindle/SpinRule", "countWait", "(ZZJ)V"⟩ : MethodName) (head1 (Jvm.Cond.code (⟨"com/example/spindle/spindle/SpinRule", "countWait", "(ZZJ)V"⟩ : MethodName) prog_40_method_5_code 6 none :: ws) ({ frames := 0, cells := 0, slots := 0, locals := 0 } : Room)) (fun a U => a = #[(.ref a1), (.int (0 : Int32)), (.int (0 : Int32)), (.long x2)] ∧ Z.Warmed39 U.vm ∧ U.heap = h0) (fun _ _ _ _ _ => True) (fun _ U o U' => ∃ v L, o = .returned v ∧ (Q6_29 Z a1 x2 h0 n0) v U'.heap L ∧ FrameEnd U o U' L 0 0) := by
  refine MetFree.of_bodySF (plainFor_of_name pn_com_example_spindle_spindle_SpinRule) hisR ?_
  intro p e s m args below meth c s₁ Bd hml0 hP hK
  obtain ⟨rfl, hZ, hh⟩ := hP
  have hx := Bd.exec
  have hby := Bd.bytes
  have hml : c.maxLocals = 6 := hml0
  have hown : s.vm.findClass "com/example/spindle/spindle/SpinRule" = some m.cls := findClass_of_methodNamed Bd.named
  have hnm := (name_of_methodNamed Bd.named Bd.method).1
  have X0 : Stand p l e ({ frames := 0, cells := 0, slots := 0, locals := 0 } : Room) s m #[(.ref a1), (.int (0 : Int32)), (.int (0 : Int32)), (.long x2)] below meth c s₁ [] 0 0 := Stand.of_body Bd
  have e0 : s₁.heap = h0 := by rw [← hh, Bd.state]; rfl
  have N0 := Fr.nil n0
  refine GoW.mk ?_
  refine GoW.st (fun t k => castTop (ef6_rm6_29 m a1 x2) k) ?_
  show GoW p e below s (Q6_29 Z a1 x2 h0 n0) 0 0 (s₁.setTop (mkF m 0 (Sh8 a1 0 0 x2) []))
  refine GoW.sg (mkF m 1 (Sh8 a1 0 0 x2) [(.ref a1)]) (fun t k => XS.aloadN X0.here hx rfl (hb hby d6_0) rfl rfl k) ?_
  obtain ⟨T253, X253, e253, st253⟩ := getF X0 hx hZ hown (host := "") (Or.inl (ww hw 26 rfl)) Via.refl e0 P3 (g := (mkF m 1 (Sh8 a1 0 0 x2) [(.ref a1)])) rfl rfl (hb hby d6_1)
  refine GoW.sg (mkF m 4 (Sh8 a1 0 0 x2) [(.int 1)]) (fun t k => st253 t k) ?_
  refine GoW.sg (mkF m 7 (Sh8 a1 0 0 x2) []) (fun t k => XS.ifNo X253.here hx rfl (hb hby d6_4) rfl (by decide) k) ?_
  refine GoW.sg (mkF m 8 (Sh8 a1 0 0 x2) [(.int 0)]) (fun t k => XS.iloadN X253.here hx rfl (hb hby d6_7) rfl k) ?_
  refine GoW.sg (mkF m 11 (Sh8 a1 0 0 x2) []) (fun t k => XS.ifNo X253.here hx rfl (hb hby d6_8) rfl (by decide) k) ?_
  refine GoW.sg (mkF m 12 (Sh8 a1 0 0 x2) [(.long x2)]) (fun t k => XS.lloadN X253.here hx rfl (hb hby d6_11) rfl k) ?_
  refine GoW.sg (mkF m 15 (Sh8 a1 0 0 x2) [(.long 20000), (.long x2)]) (fun t k => X253.ldc2Long hx hown (mvT hZ (ww hw 28 rfl)) (g := (mkF m 12 (Sh8 a1 0 0 x2) [(.long x2)])) rfl (hb hby d6_12) t k) ?_
  refine GoW.sg (mkF m 16 (Sh8 a1 0 0 x2) [(.int (lcmpW x2 (20000 : Int64)))]) (fun t k => XS.lcmp X253.here hx rfl (hb hby d6_15) rfl k) ?_
  refine GoW.sg (mkF m 20 (Sh8 a1 0 0 x2) []) (fun t k => XS.ifYes X253.here hx rfl (pc0 := 16) (pc' := 20) rfl (hb hby d6_16) rfl ((if0 _ _).trans (flt (mt (lw_lt _ _).mp u0)).2.1) (by decide) (by decide) k) ?_
  refine GoW.sg (mkF m 21 (Sh8 a1 0 0 x2) [(.int 0)]) (fun t k => XS.iloadN X253.here hx rfl (hb hby d6_20) rfl k) ?_
  refine GoW.sg (mkF m 40 (Sh8 a1 0 0 x2) []) (fun t k => XS.ifYes X253.here hx rfl (pc0 := 21) (pc' := 40) rfl (hb hby d6_21) rfl (by decide) (by decide) (by decide) k) ?_
  refine GoW.sg (mkF m 41 (Sh8 a1 0 0 x2) [(.int 0)]) (fun t k => XS.iconst X253.here hx rfl (hb hby d6_40) k) ?_
  refine GoW.sg (mkF m 43 (Sh9 a1 0 0 x2 0) []) (fun t k => XS.istore X253.here hx rfl (hb hby d6_41) rfl (l' := (Sh9 a1 0 0 x2 0)) rfl k) ?_
  refine GoW.sg (mkF m 44 (Sh9 a1 0 0 x2 0) [(.ref a1)]) (fun t k => XS.aloadN X253.here hx rfl (hb hby d6_43) rfl rfl k) ?_
  refine GoW.sg (mkF m 45 (Sh9 a1 0 0 x2 0) [(.ref a1), (.ref a1)]) (fun t k => XS.dup X253.here hx rfl (hb hby d6_44) rfl rfl k) ?_
  obtain ⟨T254, X254, e254, st254⟩ := getF X253 hx hZ hown (host := "") (Or.inl (ww hw 11 rfl)) Via.refl e253 P1 (g := (mkF m 45 (Sh9 a1 0 0 x2 0) [(.ref a1), (.ref a1)])) rfl rfl (hb hby d6_45)
  refine GoW.sg (mkF m 48 (Sh9 a1 0 0 x2 0) [(.double 4598410768185032704), (.ref a1)]) (fun t k => st254 t k) ?_
  refine GoW.sg (mkF m 50 (Sh9 a1 0 0 x2 0) [(.int 0), (.double 4598410768185032704), (.ref a1)]) (fun t k => XS.iload X254.here hx rfl (hb hby d6_48) rfl k) ?_
  refine GoW.sg (mkF m 57 (Sh9 a1 0 0 x2 0) [(.double 4598410768185032704), (.ref a1)]) (fun t k => XS.ifYes X254.here hx rfl (pc0 := 50) (pc' := 57) rfl (hb hby d6_50) rfl (by decide) (by decide) (by decide) k) ?_
  refine GoW.sg (mkF m 58 (Sh9 a1 0 0 x2 0) [(.int 0), (.double 4598410768185032704), (.ref a1)]) (fun t k => XS.iconst X254.here hx rfl (hb hby d6_57) k) ?_
  refine GoW.sg (mkF m 59 (Sh9 a1 0 0 x2 0) [(.double 0), (.double 4598410768185032704), (.ref a1)]) (fun t k => XS.i2dS X254.here hx rfl (hb hby d6_58) rfl (v := (0 : UInt64)) (by decide +kernel) k) ?_
  refine GoW.sg (mkF m 60 (Sh9 a1 0 0 x2 0) [(.ref a1), (.double 0), (.double 4598410768185032704), (.ref a1)]) (fun t k => XS.aloadN X254.here hx rfl (hb hby d6_59) rfl rfl k) ?_
  obtain ⟨T255, X255, e255, st255⟩ := getF X254 hx hZ hown (host := "") (Or.inl (ww hw 11 rfl)) Via.refl e254 P1 (g := (mkF m 60 (Sh9 a1 0 0 x2 0) [(.ref a1), (.double 0), (.double 4598410768185032704), (.ref a1)])) rfl rfl (hb hby d6_60)
  refine GoW.sg (mkF m 63 (Sh9 a1 0 0 x2 0) [(.double 4598410768185032704), (.double 0), (.double 4598410768185032704), (.ref a1)]) (fun t k => st255 t k) ?_
  refine GoW.sg (mkF m 64 (Sh9 a1 0 0 x2 0) [(.double 13821782805039808512), (.double 4598410768185032704), (.ref a1)]) (fun t k => XS.dsubS X255.here hx rfl (hb hby d6_63) rfl (v := (13821782805039808512 : UInt64)) (by decide +kernel) (by decide +kernel) k) ?_
  refine GoW.sg (mkF m 67 (Sh9 a1 0 0 x2 0) [(.double 4593671619917905920), (.double 13821782805039808512), (.double 4598410768185032704), (.ref a1)]) (fun t k => X255.ldc2DoubleC hx hown (mvT hZ (ww hw 40 rfl)) (g := (mkF m 64 (Sh9 a1 0 0 x2 0) [(.double 13821782805039808512), (.double 4598410768185032704), (.ref a1)])) rfl (hb hby d6_64) t k) ?_
  refine GoW.sg (mkF m 68 (Sh9 a1 0 0 x2 0) [(.double 13808272006157697024), (.double 4598410768185032704), (.ref a1)]) (fun t k => XS.dmulS X255.here hx rfl (hb hby d6_67) rfl (v := (13808272006157697024 : UInt64)) (by decide +kernel) (by decide +kernel) k) ?_
  refine GoW.sg (mkF m 69 (Sh9 a1 0 0 x2 0) [(.double 4597461529758007296), (.ref a1)]) (fun t k => XS.daddS X255.here hx rfl (hb hby d6_68) rfl (v := (4597461529758007296 : UInt64)) (by decide +kernel) (by decide +kernel) k) ?_
  obtain ⟨T256, h256, X256, e256, W256, st256⟩ := putF X255 hx hZ hown (host := "") (Or.inl (ww hw 11 rfl)) Via.refl e255 P1 P0 (Or.inl (ww hw 12 rfl)) (ww hw 3 rfl) (ty := .double) (by decide) rfl rfl (g := (mkF m 69 (Sh9 a1 0 0 x2 0) [(.double 4597461529758007296), (.ref a1)])) rfl rfl (hb hby d6_69)
  have N256 := Fr.snoc X256 N0 g_a1
  have Exa_a1_256 : Exa Z h256 a1 "com/example/spindle/spindle/SpinRule" := P0.wr W256
  have Fld_a1_handedOn_256 : Fld Z h256 a1 "com/example/spindle/spindle/SpinRule" "handedOn" "Z" (.int (0 : Int32)) := P2.other W256 (Or.inr (slot_ne (t := .boolean) (t' := .double) (Or.inl (ww hw 19 rfl)) (Or.inl (ww hw 12 rfl)) (by decide) (by decide) (by decide)))
  have Fld_a1_awaitsAnswer_256 : Fld Z h256 a1 "com/example/spindle/spindle/SpinRule" "awaitsAnswer" "Z" (.int (1 : Int32)) := P3.other W256 (Or.inr (slot_ne (t := .boolean) (t' := .double) (Or.inl (ww hw 27 rfl)) (Or.inl (ww hw 12 rfl)) (by decide) (by decide) (by decide)))
  have Keep_256 : Keep h0 h256 [a1] := (Keep.refl h0 [a1]).wr W256 (Or.inl (List.mem_of_getElem? (i := 0) rfl))
  have Fld_a1_answeredShare_256 : Fld Z h256 a1 "com/example/spindle/spindle/SpinRule" "answeredShare" "D" (.double (4597461529758007296 : UInt64)) := P1.same W256
  refine GoW.sg (mkF m 72 (Sh9 a1 0 0 x2 0) []) (fun t k => st256 t k) ?_
  refine GoW.retV X256 hx Bd.returns (hb hby d6_72) Bd.notSynchronized ?_ (by decide) (by decide)
  rw [e256]
  exact ⟨rfl, N256, Keep_256, Exa_a1_256, Fld_a1_answeredShare_256, Fld_a1_handedOn_256, Fld_a1_awaitsAnswer_256⟩
def Q6_30 (Z : State) (a1 : Addr) (x2 : Int64) (h0 : Heap) (n0 : Nat) (v : Option Value) (h : Heap) (L : List Loc) : Prop := v = none ∧ Fr n0 L ∧ (Keep h0 h [a1]) ∧ (Exa Z h a1 "com/example/spindle/spindle/SpinRule") ∧ (Fld Z h a1 "com/example/spindle/spindle/SpinRule" "answeredShare" "D" (.double (4597461529758007296 : UInt64))) ∧ (Fld Z h a1 "com/example/spindle/spindle/SpinRule" "handedOn" "Z" (.int (0 : Int32))) ∧ (Fld Z h a1 "com/example/spindle/spindle/SpinRule" "awaitsAnswer" "Z" (.int (1 : Int32)))
theorem ef6_rm6_30 (m : MethodId) (a1 : Addr) (x2 : Int64) : entryFrame m #[(.ref a1), (.int (0 : Int32)), (.int (1 : Int32)), (.long x2)] 6 = (mkF m 0 #[.val (.ref a1), .val (.int 0), .val (.int 1), .val (.long x2), .second, .unset] []) := by first | (simp [entryFrame, mkF, argsToLocals, Value.category, maxLocals]; done) | rfl
set_option maxRecDepth 65536 in
set_option maxHeartbeats 40000000 in
theorem rm6_30 (l : Launch) (Z : State) (a0 : Array Value) (hw : ∀ d ∈ tables_1, d.before a0 Z = true) (ws : List Jvm.Cond) (a1 : Addr) (x2 : Int64)  (h0 : Heap) (n0 : Nat) (P0 : Exa Z h0 a1 "com/example/spindle/spindle/SpinRule") (P1 : Fld Z h0 a1 "com/example/spindle/spindle/SpinRule" "answeredShare" "D" (.double (4598410768185032704 : UInt64))) (P2 : Fld Z h0 a1 "com/example/spindle/spindle/SpinRule" "handedOn" "Z" (.int (0 : Int32))) (P3 : Fld Z h0 a1 "com/example/spindle/spindle/SpinRule" "awaitsAnswer" "Z" (.int (1 : Int32))) (g_a1 : n0 ≤ a1)  (u0 : ¬ (x2 < (20000 : Int64)))  :
    MetFree l (⟨"com/example/spindle/spindle/SpinRule", "countWait", "(ZZJ)V"⟩ : MethodName) (head1 (Jvm.Cond.code (⟨"com/example/spindle/spindle/SpinRule", "countWait", "(ZZJ)V"⟩ : MethodName) prog_40_method_5_code 6 none :: ws) ({ frames := 0, cells := 0, slots := 0, locals := 0 } : Room)) (fun a U => a = #[(.ref a1), (.int (0 : Int32)), (.int (1 : Int32)), (.long x2)] ∧ Z.Warmed39 U.vm ∧ U.heap = h0) (fun _ _ _ _ _ => True) (fun _ U o U' => ∃ v L, o = .returned v ∧ (Q6_30 Z a1 x2 h0 n0) v U'.heap L ∧ FrameEnd U o U' L 0 0) := by
  refine MetFree.of_bodySF (plainFor_of_name pn_com_example_spindle_spindle_SpinRule) hisR ?_
  intro p e s m args below meth c s₁ Bd hml0 hP hK
  obtain ⟨rfl, hZ, hh⟩ := hP
  have hx := Bd.exec
  have hby := Bd.bytes
  have hml : c.maxLocals = 6 := hml0
  have hown : s.vm.findClass "com/example/spindle/spindle/SpinRule" = some m.cls := findClass_of_methodNamed Bd.named
  have hnm := (name_of_methodNamed Bd.named Bd.method).1
  have X0 : Stand p l e ({ frames := 0, cells := 0, slots := 0, locals := 0 } : Room) s m #[(.ref a1), (.int (0 : Int32)), (.int (1 : Int32)), (.long x2)] below meth c s₁ [] 0 0 := Stand.of_body Bd
  have e0 : s₁.heap = h0 := by rw [← hh, Bd.state]; rfl
  have N0 := Fr.nil n0
  refine GoW.mk ?_
  refine GoW.st (fun t k => castTop (ef6_rm6_30 m a1 x2) k) ?_
  show GoW p e below s (Q6_30 Z a1 x2 h0 n0) 0 0 (s₁.setTop (mkF m 0 (Sh8 a1 0 1 x2) []))
  refine GoW.sg (mkF m 1 (Sh8 a1 0 1 x2) [(.ref a1)]) (fun t k => XS.aloadN X0.here hx rfl (hb hby d6_0) rfl rfl k) ?_
  obtain ⟨T264, X264, e264, st264⟩ := getF X0 hx hZ hown (host := "") (Or.inl (ww hw 26 rfl)) Via.refl e0 P3 (g := (mkF m 1 (Sh8 a1 0 1 x2) [(.ref a1)])) rfl rfl (hb hby d6_1)
  refine GoW.sg (mkF m 4 (Sh8 a1 0 1 x2) [(.int 1)]) (fun t k => st264 t k) ?_
  refine GoW.sg (mkF m 7 (Sh8 a1 0 1 x2) []) (fun t k => XS.ifNo X264.here hx rfl (hb hby d6_4) rfl (by decide) k) ?_
  refine GoW.sg (mkF m 8 (Sh8 a1 0 1 x2) [(.int 0)]) (fun t k => XS.iloadN X264.here hx rfl (hb hby d6_7) rfl k) ?_
  refine GoW.sg (mkF m 11 (Sh8 a1 0 1 x2) []) (fun t k => XS.ifNo X264.here hx rfl (hb hby d6_8) rfl (by decide) k) ?_
  refine GoW.sg (mkF m 12 (Sh8 a1 0 1 x2) [(.long x2)]) (fun t k => XS.lloadN X264.here hx rfl (hb hby d6_11) rfl k) ?_
  refine GoW.sg (mkF m 15 (Sh8 a1 0 1 x2) [(.long 20000), (.long x2)]) (fun t k => X264.ldc2Long hx hown (mvT hZ (ww hw 28 rfl)) (g := (mkF m 12 (Sh8 a1 0 1 x2) [(.long x2)])) rfl (hb hby d6_12) t k) ?_
  refine GoW.sg (mkF m 16 (Sh8 a1 0 1 x2) [(.int (lcmpW x2 (20000 : Int64)))]) (fun t k => XS.lcmp X264.here hx rfl (hb hby d6_15) rfl k) ?_
  refine GoW.sg (mkF m 20 (Sh8 a1 0 1 x2) []) (fun t k => XS.ifYes X264.here hx rfl (pc0 := 16) (pc' := 20) rfl (hb hby d6_16) rfl ((if0 _ _).trans (flt (mt (lw_lt _ _).mp u0)).2.1) (by decide) (by decide) k) ?_
  refine GoW.sg (mkF m 21 (Sh8 a1 0 1 x2) [(.int 0)]) (fun t k => XS.iloadN X264.here hx rfl (hb hby d6_20) rfl k) ?_
  refine GoW.sg (mkF m 40 (Sh8 a1 0 1 x2) []) (fun t k => XS.ifYes X264.here hx rfl (pc0 := 21) (pc' := 40) rfl (hb hby d6_21) rfl (by decide) (by decide) (by decide) k) ?_
  refine GoW.sg (mkF m 41 (Sh8 a1 0 1 x2) [(.int 0)]) (fun t k => XS.iconst X264.here hx rfl (hb hby d6_40) k) ?_
  refine GoW.sg (mkF m 43 (Sh9 a1 0 1 x2 0) []) (fun t k => XS.istore X264.here hx rfl (hb hby d6_41) rfl (l' := (Sh9 a1 0 1 x2 0)) rfl k) ?_
  refine GoW.sg (mkF m 44 (Sh9 a1 0 1 x2 0) [(.ref a1)]) (fun t k => XS.aloadN X264.here hx rfl (hb hby d6_43) rfl rfl k) ?_
  refine GoW.sg (mkF m 45 (Sh9 a1 0 1 x2 0) [(.ref a1), (.ref a1)]) (fun t k => XS.dup X264.here hx rfl (hb hby d6_44) rfl rfl k) ?_
  obtain ⟨T265, X265, e265, st265⟩ := getF X264 hx hZ hown (host := "") (Or.inl (ww hw 11 rfl)) Via.refl e264 P1 (g := (mkF m 45 (Sh9 a1 0 1 x2 0) [(.ref a1), (.ref a1)])) rfl rfl (hb hby d6_45)
  refine GoW.sg (mkF m 48 (Sh9 a1 0 1 x2 0) [(.double 4598410768185032704), (.ref a1)]) (fun t k => st265 t k) ?_
  refine GoW.sg (mkF m 50 (Sh9 a1 0 1 x2 0) [(.int 0), (.double 4598410768185032704), (.ref a1)]) (fun t k => XS.iload X265.here hx rfl (hb hby d6_48) rfl k) ?_
  refine GoW.sg (mkF m 57 (Sh9 a1 0 1 x2 0) [(.double 4598410768185032704), (.ref a1)]) (fun t k => XS.ifYes X265.here hx rfl (pc0 := 50) (pc' := 57) rfl (hb hby d6_50) rfl (by decide) (by decide) (by decide) k) ?_
  refine GoW.sg (mkF m 58 (Sh9 a1 0 1 x2 0) [(.int 0), (.double 4598410768185032704), (.ref a1)]) (fun t k => XS.iconst X265.here hx rfl (hb hby d6_57) k) ?_
  refine GoW.sg (mkF m 59 (Sh9 a1 0 1 x2 0) [(.double 0), (.double 4598410768185032704), (.ref a1)]) (fun t k => XS.i2dS X265.here hx rfl (hb hby d6_58) rfl (v := (0 : UInt64)) (by decide +kernel) k) ?_
  refine GoW.sg (mkF m 60 (Sh9 a1 0 1 x2 0) [(.ref a1), (.double 0), (.double 4598410768185032704), (.ref a1)]) (fun t k => XS.aloadN X265.here hx rfl (hb hby d6_59) rfl rfl k) ?_
  obtain ⟨T266, X266, e266, st266⟩ := getF X265 hx hZ hown (host := "") (Or.inl (ww hw 11 rfl)) Via.refl e265 P1 (g := (mkF m 60 (Sh9 a1 0 1 x2 0) [(.ref a1), (.double 0), (.double 4598410768185032704), (.ref a1)])) rfl rfl (hb hby d6_60)
  refine GoW.sg (mkF m 63 (Sh9 a1 0 1 x2 0) [(.double 4598410768185032704), (.double 0), (.double 4598410768185032704), (.ref a1)]) (fun t k => st266 t k) ?_
  refine GoW.sg (mkF m 64 (Sh9 a1 0 1 x2 0) [(.double 13821782805039808512), (.double 4598410768185032704), (.ref a1)]) (fun t k => XS.dsubS X266.here hx rfl (hb hby d6_63) rfl (v := (13821782805039808512 : UInt64)) (by decide +kernel) (by decide +kernel) k) ?_
  refine GoW.sg (mkF m 67 (Sh9 a1 0 1 x2 0) [(.double 4593671619917905920), (.double 13821782805039808512), (.double 4598410768185032704), (.ref a1)]) (fun t k => X266.ldc2DoubleC hx hown (mvT hZ (ww hw 40 rfl)) (g := (mkF m 64 (Sh9 a1 0 1 x2 0) [(.double 13821782805039808512), (.double 4598410768185032704), (.ref a1)])) rfl (hb hby d6_64) t k) ?_
  refine GoW.sg (mkF m 68 (Sh9 a1 0 1 x2 0) [(.double 13808272006157697024), (.double 4598410768185032704), (.ref a1)]) (fun t k => XS.dmulS X266.here hx rfl (hb hby d6_67) rfl (v := (13808272006157697024 : UInt64)) (by decide +kernel) (by decide +kernel) k) ?_
  refine GoW.sg (mkF m 69 (Sh9 a1 0 1 x2 0) [(.double 4597461529758007296), (.ref a1)]) (fun t k => XS.daddS X266.here hx rfl (hb hby d6_68) rfl (v := (4597461529758007296 : UInt64)) (by decide +kernel) (by decide +kernel) k) ?_
  obtain ⟨T267, h267, X267, e267, W267, st267⟩ := putF X266 hx hZ hown (host := "") (Or.inl (ww hw 11 rfl)) Via.refl e266 P1 P0 (Or.inl (ww hw 12 rfl)) (ww hw 3 rfl) (ty := .double) (by decide) rfl rfl (g := (mkF m 69 (Sh9 a1 0 1 x2 0) [(.double 4597461529758007296), (.ref a1)])) rfl rfl (hb hby d6_69)
  have N267 := Fr.snoc X267 N0 g_a1
  have Exa_a1_267 : Exa Z h267 a1 "com/example/spindle/spindle/SpinRule" := P0.wr W267
  have Fld_a1_handedOn_267 : Fld Z h267 a1 "com/example/spindle/spindle/SpinRule" "handedOn" "Z" (.int (0 : Int32)) := P2.other W267 (Or.inr (slot_ne (t := .boolean) (t' := .double) (Or.inl (ww hw 19 rfl)) (Or.inl (ww hw 12 rfl)) (by decide) (by decide) (by decide)))
  have Fld_a1_awaitsAnswer_267 : Fld Z h267 a1 "com/example/spindle/spindle/SpinRule" "awaitsAnswer" "Z" (.int (1 : Int32)) := P3.other W267 (Or.inr (slot_ne (t := .boolean) (t' := .double) (Or.inl (ww hw 27 rfl)) (Or.inl (ww hw 12 rfl)) (by decide) (by decide) (by decide)))
  have Keep_267 : Keep h0 h267 [a1] := (Keep.refl h0 [a1]).wr W267 (Or.inl (List.mem_of_getElem? (i := 0) rfl))
  have Fld_a1_answeredShare_267 : Fld Z h267 a1 "com/example/spindle/spindle/SpinRule" "answeredShare" "D" (.double (4597461529758007296 : UInt64)) := P1.same W267
  refine GoW.sg (mkF m 72 (Sh9 a1 0 1 x2 0) []) (fun t k => st267 t k) ?_
  refine GoW.retV X267 hx Bd.returns (hb hby d6_72) Bd.notSynchronized ?_ (by decide) (by decide)
  rw [e267]
  exact ⟨rfl, N267, Keep_267, Exa_a1_267, Fld_a1_answeredShare_267, Fld_a1_handedOn_267, Fld_a1_awaitsAnswer_267⟩
def Q6_31 (Z : State) (a1 : Addr) (x2 : Int64) (h0 : Heap) (n0 : Nat) (v : Option Value) (h : Heap) (L : List Loc) : Prop := v = none ∧ Fr n0 L ∧ (Keep h0 h [a1]) ∧ (Exa Z h a1 "com/example/spindle/spindle/SpinRule") ∧ (Fld Z h a1 "com/example/spindle/spindle/SpinRule" "answeredShare" "D" (.double (4597461529758007296 : UInt64))) ∧ (Fld Z h a1 "com/example/spindle/spindle/SpinRule" "handedOn" "Z" (.int (0 : Int32))) ∧ (Fld Z h a1 "com/example/spindle/spindle/SpinRule" "awaitsAnswer" "Z" (.int (1 : Int32)))
theorem ef6_rm6_31 (m : MethodId) (a1 : Addr) (x2 : Int64) : entryFrame m #[(.ref a1), (.int (1 : Int32)), (.int (0 : Int32)), (.long x2)] 6 = (mkF m 0 #[.val (.ref a1), .val (.int 1), .val (.int 0), .val (.long x2), .second, .unset] []) := by first | (simp [entryFrame, mkF, argsToLocals, Value.category, maxLocals]; done) | rfl
set_option maxRecDepth 65536 in
set_option maxHeartbeats 40000000 in
theorem rm6_31 (l : Launch) (Z : State) (a0 : Array Value) (hw : ∀ d ∈ tables_1, d.before a0 Z = true) (ws : List Jvm.Cond) (a1 : Addr) (x2 : Int64)  (h0 : Heap) (n0 : Nat) (P0 : Exa Z h0 a1 "com/example/spindle/spindle/SpinRule") (P1 : Fld Z h0 a1 "com/example/spindle/spindle/SpinRule" "answeredShare" "D" (.double (4598410768185032704 : UInt64))) (P2 : Fld Z h0 a1 "com/example/spindle/spindle/SpinRule" "handedOn" "Z" (.int (0 : Int32))) (P3 : Fld Z h0 a1 "com/example/spindle/spindle/SpinRule" "awaitsAnswer" "Z" (.int (1 : Int32))) (g_a1 : n0 ≤ a1)  (u0 : ¬ (x2 < (20000 : Int64)))  :
    MetFree l (⟨"com/example/spindle/spindle/SpinRule", "countWait", "(ZZJ)V"⟩ : MethodName) (head1 (Jvm.Cond.code (⟨"com/example/spindle/spindle/SpinRule", "countWait", "(ZZJ)V"⟩ : MethodName) prog_40_method_5_code 6 none :: ws) ({ frames := 0, cells := 0, slots := 0, locals := 0 } : Room)) (fun a U => a = #[(.ref a1), (.int (1 : Int32)), (.int (0 : Int32)), (.long x2)] ∧ Z.Warmed39 U.vm ∧ U.heap = h0) (fun _ _ _ _ _ => True) (fun _ U o U' => ∃ v L, o = .returned v ∧ (Q6_31 Z a1 x2 h0 n0) v U'.heap L ∧ FrameEnd U o U' L 0 0) := by
  refine MetFree.of_bodySF (plainFor_of_name pn_com_example_spindle_spindle_SpinRule) hisR ?_
  intro p e s m args below meth c s₁ Bd hml0 hP hK
  obtain ⟨rfl, hZ, hh⟩ := hP
  have hx := Bd.exec
  have hby := Bd.bytes
  have hml : c.maxLocals = 6 := hml0
  have hown : s.vm.findClass "com/example/spindle/spindle/SpinRule" = some m.cls := findClass_of_methodNamed Bd.named
  have hnm := (name_of_methodNamed Bd.named Bd.method).1
  have X0 : Stand p l e ({ frames := 0, cells := 0, slots := 0, locals := 0 } : Room) s m #[(.ref a1), (.int (1 : Int32)), (.int (0 : Int32)), (.long x2)] below meth c s₁ [] 0 0 := Stand.of_body Bd
  have e0 : s₁.heap = h0 := by rw [← hh, Bd.state]; rfl
  have N0 := Fr.nil n0
  refine GoW.mk ?_
  refine GoW.st (fun t k => castTop (ef6_rm6_31 m a1 x2) k) ?_
  show GoW p e below s (Q6_31 Z a1 x2 h0 n0) 0 0 (s₁.setTop (mkF m 0 (Sh8 a1 1 0 x2) []))
  refine GoW.sg (mkF m 1 (Sh8 a1 1 0 x2) [(.ref a1)]) (fun t k => XS.aloadN X0.here hx rfl (hb hby d6_0) rfl rfl k) ?_
  obtain ⟨T275, X275, e275, st275⟩ := getF X0 hx hZ hown (host := "") (Or.inl (ww hw 26 rfl)) Via.refl e0 P3 (g := (mkF m 1 (Sh8 a1 1 0 x2) [(.ref a1)])) rfl rfl (hb hby d6_1)
  refine GoW.sg (mkF m 4 (Sh8 a1 1 0 x2) [(.int 1)]) (fun t k => st275 t k) ?_
  refine GoW.sg (mkF m 7 (Sh8 a1 1 0 x2) []) (fun t k => XS.ifNo X275.here hx rfl (hb hby d6_4) rfl (by decide) k) ?_
  refine GoW.sg (mkF m 8 (Sh8 a1 1 0 x2) [(.int 1)]) (fun t k => XS.iloadN X275.here hx rfl (hb hby d6_7) rfl k) ?_
  refine GoW.sg (mkF m 20 (Sh8 a1 1 0 x2) []) (fun t k => XS.ifYes X275.here hx rfl (pc0 := 8) (pc' := 20) rfl (hb hby d6_8) rfl (by decide) (by decide) (by decide) k) ?_
  refine GoW.sg (mkF m 21 (Sh8 a1 1 0 x2) [(.int 1)]) (fun t k => XS.iloadN X275.here hx rfl (hb hby d6_20) rfl k) ?_
  refine GoW.sg (mkF m 24 (Sh8 a1 1 0 x2) []) (fun t k => XS.ifNo X275.here hx rfl (hb hby d6_21) rfl (by decide) k) ?_
  refine GoW.sg (mkF m 25 (Sh8 a1 1 0 x2) [(.int 0)]) (fun t k => XS.iloadN X275.here hx rfl (hb hby d6_24) rfl k) ?_
  refine GoW.sg (mkF m 40 (Sh8 a1 1 0 x2) []) (fun t k => XS.ifYes X275.here hx rfl (pc0 := 25) (pc' := 40) rfl (hb hby d6_25) rfl (by decide) (by decide) (by decide) k) ?_
  refine GoW.sg (mkF m 41 (Sh8 a1 1 0 x2) [(.int 0)]) (fun t k => XS.iconst X275.here hx rfl (hb hby d6_40) k) ?_
  refine GoW.sg (mkF m 43 (Sh9 a1 1 0 x2 0) []) (fun t k => XS.istore X275.here hx rfl (hb hby d6_41) rfl (l' := (Sh9 a1 1 0 x2 0)) rfl k) ?_
  refine GoW.sg (mkF m 44 (Sh9 a1 1 0 x2 0) [(.ref a1)]) (fun t k => XS.aloadN X275.here hx rfl (hb hby d6_43) rfl rfl k) ?_
  refine GoW.sg (mkF m 45 (Sh9 a1 1 0 x2 0) [(.ref a1), (.ref a1)]) (fun t k => XS.dup X275.here hx rfl (hb hby d6_44) rfl rfl k) ?_
  obtain ⟨T276, X276, e276, st276⟩ := getF X275 hx hZ hown (host := "") (Or.inl (ww hw 11 rfl)) Via.refl e275 P1 (g := (mkF m 45 (Sh9 a1 1 0 x2 0) [(.ref a1), (.ref a1)])) rfl rfl (hb hby d6_45)
  refine GoW.sg (mkF m 48 (Sh9 a1 1 0 x2 0) [(.double 4598410768185032704), (.ref a1)]) (fun t k => st276 t k) ?_
  refine GoW.sg (mkF m 50 (Sh9 a1 1 0 x2 0) [(.int 0), (.double 4598410768185032704), (.ref a1)]) (fun t k => XS.iload X276.here hx rfl (hb hby d6_48) rfl k) ?_
  refine GoW.sg (mkF m 57 (Sh9 a1 1 0 x2 0) [(.double 4598410768185032704), (.ref a1)]) (fun t k => XS.ifYes X276.here hx rfl (pc0 := 50) (pc' := 57) rfl (hb hby d6_50) rfl (by decide) (by decide) (by decide) k) ?_
  refine GoW.sg (mkF m 58 (Sh9 a1 1 0 x2 0) [(.int 0), (.double 4598410768185032704), (.ref a1)]) (fun t k => XS.iconst X276.here hx rfl (hb hby d6_57) k) ?_
  refine GoW.sg (mkF m 59 (Sh9 a1 1 0 x2 0) [(.double 0), (.double 4598410768185032704), (.ref a1)]) (fun t k => XS.i2dS X276.here hx rfl (hb hby d6_58) rfl (v := (0 : UInt64)) (by decide +kernel) k) ?_
  refine GoW.sg (mkF m 60 (Sh9 a1 1 0 x2 0) [(.ref a1), (.double 0), (.double 4598410768185032704), (.ref a1)]) (fun t k => XS.aloadN X276.here hx rfl (hb hby d6_59) rfl rfl k) ?_
  obtain ⟨T277, X277, e277, st277⟩ := getF X276 hx hZ hown (host := "") (Or.inl (ww hw 11 rfl)) Via.refl e276 P1 (g := (mkF m 60 (Sh9 a1 1 0 x2 0) [(.ref a1), (.double 0), (.double 4598410768185032704), (.ref a1)])) rfl rfl (hb hby d6_60)
  refine GoW.sg (mkF m 63 (Sh9 a1 1 0 x2 0) [(.double 4598410768185032704), (.double 0), (.double 4598410768185032704), (.ref a1)]) (fun t k => st277 t k) ?_
  refine GoW.sg (mkF m 64 (Sh9 a1 1 0 x2 0) [(.double 13821782805039808512), (.double 4598410768185032704), (.ref a1)]) (fun t k => XS.dsubS X277.here hx rfl (hb hby d6_63) rfl (v := (13821782805039808512 : UInt64)) (by decide +kernel) (by decide +kernel) k) ?_
  refine GoW.sg (mkF m 67 (Sh9 a1 1 0 x2 0) [(.double 4593671619917905920), (.double 13821782805039808512), (.double 4598410768185032704), (.ref a1)]) (fun t k => X277.ldc2DoubleC hx hown (mvT hZ (ww hw 40 rfl)) (g := (mkF m 64 (Sh9 a1 1 0 x2 0) [(.double 13821782805039808512), (.double 4598410768185032704), (.ref a1)])) rfl (hb hby d6_64) t k) ?_
  refine GoW.sg (mkF m 68 (Sh9 a1 1 0 x2 0) [(.double 13808272006157697024), (.double 4598410768185032704), (.ref a1)]) (fun t k => XS.dmulS X277.here hx rfl (hb hby d6_67) rfl (v := (13808272006157697024 : UInt64)) (by decide +kernel) (by decide +kernel) k) ?_
  refine GoW.sg (mkF m 69 (Sh9 a1 1 0 x2 0) [(.double 4597461529758007296), (.ref a1)]) (fun t k => XS.daddS X277.here hx rfl (hb hby d6_68) rfl (v := (4597461529758007296 : UInt64)) (by decide +kernel) (by decide +kernel) k) ?_
  obtain ⟨T278, h278, X278, e278, W278, st278⟩ := putF X277 hx hZ hown (host := "") (Or.inl (ww hw 11 rfl)) Via.refl e277 P1 P0 (Or.inl (ww hw 12 rfl)) (ww hw 3 rfl) (ty := .double) (by decide) rfl rfl (g := (mkF m 69 (Sh9 a1 1 0 x2 0) [(.double 4597461529758007296), (.ref a1)])) rfl rfl (hb hby d6_69)
  have N278 := Fr.snoc X278 N0 g_a1
  have Exa_a1_278 : Exa Z h278 a1 "com/example/spindle/spindle/SpinRule" := P0.wr W278
  have Fld_a1_handedOn_278 : Fld Z h278 a1 "com/example/spindle/spindle/SpinRule" "handedOn" "Z" (.int (0 : Int32)) := P2.other W278 (Or.inr (slot_ne (t := .boolean) (t' := .double) (Or.inl (ww hw 19 rfl)) (Or.inl (ww hw 12 rfl)) (by decide) (by decide) (by decide)))
  have Fld_a1_awaitsAnswer_278 : Fld Z h278 a1 "com/example/spindle/spindle/SpinRule" "awaitsAnswer" "Z" (.int (1 : Int32)) := P3.other W278 (Or.inr (slot_ne (t := .boolean) (t' := .double) (Or.inl (ww hw 27 rfl)) (Or.inl (ww hw 12 rfl)) (by decide) (by decide) (by decide)))
  have Keep_278 : Keep h0 h278 [a1] := (Keep.refl h0 [a1]).wr W278 (Or.inl (List.mem_of_getElem? (i := 0) rfl))
  have Fld_a1_answeredShare_278 : Fld Z h278 a1 "com/example/spindle/spindle/SpinRule" "answeredShare" "D" (.double (4597461529758007296 : UInt64)) := P1.same W278
  refine GoW.sg (mkF m 72 (Sh9 a1 1 0 x2 0) []) (fun t k => st278 t k) ?_
  refine GoW.retV X278 hx Bd.returns (hb hby d6_72) Bd.notSynchronized ?_ (by decide) (by decide)
  rw [e278]
  exact ⟨rfl, N278, Keep_278, Exa_a1_278, Fld_a1_answeredShare_278, Fld_a1_handedOn_278, Fld_a1_awaitsAnswer_278⟩
def Q6_32 (Z : State) (a1 : Addr) (x2 : Int64) (h0 : Heap) (n0 : Nat) (v : Option Value) (h : Heap) (L : List Loc) : Prop := v = none ∧ Fr n0 L ∧ (Keep h0 h [a1]) ∧ (Exa Z h a1 "com/example/spindle/spindle/SpinRule") ∧ (Fld Z h a1 "com/example/spindle/spindle/SpinRule" "answeredShare" "D" (.double (4597461529758007296 : UInt64))) ∧ (Fld Z h a1 "com/example/spindle/spindle/SpinRule" "handedOn" "Z" (.int (0 : Int32))) ∧ (Fld Z h a1 "com/example/spindle/spindle/SpinRule" "awaitsAnswer" "Z" (.int (1 : Int32)))
theorem ef6_rm6_32 (m : MethodId) (a1 : Addr) (x2 : Int64) : entryFrame m #[(.ref a1), (.int (1 : Int32)), (.int (1 : Int32)), (.long x2)] 6 = (mkF m 0 #[.val (.ref a1), .val (.int 1), .val (.int 1), .val (.long x2), .second, .unset] []) := by first | (simp [entryFrame, mkF, argsToLocals, Value.category, maxLocals]; done) | rfl
set_option maxRecDepth 65536 in
set_option maxHeartbeats 40000000 in
theorem rm6_32 (l : Launch) (Z : State) (a0 : Array Value) (hw : ∀ d ∈ tables_1, d.before a0 Z = true) (ws : List Jvm.Cond) (a1 : Addr) (x2 : Int64)  (h0 : Heap) (n0 : Nat) (P0 : Exa Z h0 a1 "com/example/spindle/spindle/SpinRule") (P1 : Fld Z h0 a1 "com/example/spindle/spindle/SpinRule" "answeredShare" "D" (.double (4598410768185032704 : UInt64))) (P2 : Fld Z h0 a1 "com/example/spindle/spindle/SpinRule" "handedOn" "Z" (.int (0 : Int32))) (P3 : Fld Z h0 a1 "com/example/spindle/spindle/SpinRule" "awaitsAnswer" "Z" (.int (1 : Int32))) (g_a1 : n0 ≤ a1)  (u0 : ¬ (x2 < (20000 : Int64)))  :
    MetFree l (⟨"com/example/spindle/spindle/SpinRule", "countWait", "(ZZJ)V"⟩ : MethodName) (head1 (Jvm.Cond.code (⟨"com/example/spindle/spindle/SpinRule", "countWait", "(ZZJ)V"⟩ : MethodName) prog_40_method_5_code 6 none :: ws) ({ frames := 0, cells := 0, slots := 0, locals := 0 } : Room)) (fun a U => a = #[(.ref a1), (.int (1 : Int32)), (.int (1 : Int32)), (.long x2)] ∧ Z.Warmed39 U.vm ∧ U.heap = h0) (fun _ _ _ _ _ => True) (fun _ U o U' => ∃ v L, o = .returned v ∧ (Q6_32 Z a1 x2 h0 n0) v U'.heap L ∧ FrameEnd U o U' L 0 0) := by
  refine MetFree.of_bodySF (plainFor_of_name pn_com_example_spindle_spindle_SpinRule) hisR ?_
  intro p e s m args below meth c s₁ Bd hml0 hP hK
  obtain ⟨rfl, hZ, hh⟩ := hP
  have hx := Bd.exec
  have hby := Bd.bytes
  have hml : c.maxLocals = 6 := hml0
  have hown : s.vm.findClass "com/example/spindle/spindle/SpinRule" = some m.cls := findClass_of_methodNamed Bd.named
  have hnm := (name_of_methodNamed Bd.named Bd.method).1
  have X0 : Stand p l e ({ frames := 0, cells := 0, slots := 0, locals := 0 } : Room) s m #[(.ref a1), (.int (1 : Int32)), (.int (1 : Int32)), (.long x2)] below meth c s₁ [] 0 0 := Stand.of_body Bd
  have e0 : s₁.heap = h0 := by rw [← hh, Bd.state]; rfl
  have N0 := Fr.nil n0
  refine GoW.mk ?_
  refine GoW.st (fun t k => castTop (ef6_rm6_32 m a1 x2) k) ?_
  show GoW p e below s (Q6_32 Z a1 x2 h0 n0) 0 0 (s₁.setTop (mkF m 0 (Sh8 a1 1 1 x2) []))
  refine GoW.sg (mkF m 1 (Sh8 a1 1 1 x2) [(.ref a1)]) (fun t k => XS.aloadN X0.here hx rfl (hb hby d6_0) rfl rfl k) ?_
  obtain ⟨T286, X286, e286, st286⟩ := getF X0 hx hZ hown (host := "") (Or.inl (ww hw 26 rfl)) Via.refl e0 P3 (g := (mkF m 1 (Sh8 a1 1 1 x2) [(.ref a1)])) rfl rfl (hb hby d6_1)
  refine GoW.sg (mkF m 4 (Sh8 a1 1 1 x2) [(.int 1)]) (fun t k => st286 t k) ?_
  refine GoW.sg (mkF m 7 (Sh8 a1 1 1 x2) []) (fun t k => XS.ifNo X286.here hx rfl (hb hby d6_4) rfl (by decide) k) ?_
  refine GoW.sg (mkF m 8 (Sh8 a1 1 1 x2) [(.int 1)]) (fun t k => XS.iloadN X286.here hx rfl (hb hby d6_7) rfl k) ?_
  refine GoW.sg (mkF m 20 (Sh8 a1 1 1 x2) []) (fun t k => XS.ifYes X286.here hx rfl (pc0 := 8) (pc' := 20) rfl (hb hby d6_8) rfl (by decide) (by decide) (by decide) k) ?_
  refine GoW.sg (mkF m 21 (Sh8 a1 1 1 x2) [(.int 1)]) (fun t k => XS.iloadN X286.here hx rfl (hb hby d6_20) rfl k) ?_
  refine GoW.sg (mkF m 24 (Sh8 a1 1 1 x2) []) (fun t k => XS.ifNo X286.here hx rfl (hb hby d6_21) rfl (by decide) k) ?_
  refine GoW.sg (mkF m 25 (Sh8 a1 1 1 x2) [(.int 1)]) (fun t k => XS.iloadN X286.here hx rfl (hb hby d6_24) rfl k) ?_
  refine GoW.sg (mkF m 28 (Sh8 a1 1 1 x2) []) (fun t k => XS.ifNo X286.here hx rfl (hb hby d6_25) rfl (by decide) k) ?_
  refine GoW.sg (mkF m 29 (Sh8 a1 1 1 x2) [(.long x2)]) (fun t k => XS.lloadN X286.here hx rfl (hb hby d6_28) rfl k) ?_
  refine GoW.sg (mkF m 32 (Sh8 a1 1 1 x2) [(.long 20000), (.long x2)]) (fun t k => X286.ldc2Long hx hown (mvT hZ (ww hw 28 rfl)) (g := (mkF m 29 (Sh8 a1 1 1 x2) [(.long x2)])) rfl (hb hby d6_29) t k) ?_
  refine GoW.sg (mkF m 33 (Sh8 a1 1 1 x2) [(.int (lcmpW x2 (20000 : Int64)))]) (fun t k => XS.lcmp X286.here hx rfl (hb hby d6_32) rfl k) ?_
  refine GoW.sg (mkF m 40 (Sh8 a1 1 1 x2) []) (fun t k => XS.ifYes X286.here hx rfl (pc0 := 33) (pc' := 40) rfl (hb hby d6_33) rfl ((if0 _ _).trans (flt (mt (lw_lt _ _).mp u0)).2.1) (by decide) (by decide) k) ?_
  refine GoW.sg (mkF m 41 (Sh8 a1 1 1 x2) [(.int 0)]) (fun t k => XS.iconst X286.here hx rfl (hb hby d6_40) k) ?_
  refine GoW.sg (mkF m 43 (Sh9 a1 1 1 x2 0) []) (fun t k => XS.istore X286.here hx rfl (hb hby d6_41) rfl (l' := (Sh9 a1 1 1 x2 0)) rfl k) ?_
  refine GoW.sg (mkF m 44 (Sh9 a1 1 1 x2 0) [(.ref a1)]) (fun t k => XS.aloadN X286.here hx rfl (hb hby d6_43) rfl rfl k) ?_
  refine GoW.sg (mkF m 45 (Sh9 a1 1 1 x2 0) [(.ref a1), (.ref a1)]) (fun t k => XS.dup X286.here hx rfl (hb hby d6_44) rfl rfl k) ?_
  obtain ⟨T287, X287, e287, st287⟩ := getF X286 hx hZ hown (host := "") (Or.inl (ww hw 11 rfl)) Via.refl e286 P1 (g := (mkF m 45 (Sh9 a1 1 1 x2 0) [(.ref a1), (.ref a1)])) rfl rfl (hb hby d6_45)
  refine GoW.sg (mkF m 48 (Sh9 a1 1 1 x2 0) [(.double 4598410768185032704), (.ref a1)]) (fun t k => st287 t k) ?_
  refine GoW.sg (mkF m 50 (Sh9 a1 1 1 x2 0) [(.int 0), (.double 4598410768185032704), (.ref a1)]) (fun t k => XS.iload X287.here hx rfl (hb hby d6_48) rfl k) ?_
  refine GoW.sg (mkF m 57 (Sh9 a1 1 1 x2 0) [(.double 4598410768185032704), (.ref a1)]) (fun t k => XS.ifYes X287.here hx rfl (pc0 := 50) (pc' := 57) rfl (hb hby d6_50) rfl (by decide) (by decide) (by decide) k) ?_
  refine GoW.sg (mkF m 58 (Sh9 a1 1 1 x2 0) [(.int 0), (.double 4598410768185032704), (.ref a1)]) (fun t k => XS.iconst X287.here hx rfl (hb hby d6_57) k) ?_
  refine GoW.sg (mkF m 59 (Sh9 a1 1 1 x2 0) [(.double 0), (.double 4598410768185032704), (.ref a1)]) (fun t k => XS.i2dS X287.here hx rfl (hb hby d6_58) rfl (v := (0 : UInt64)) (by decide +kernel) k) ?_
  refine GoW.sg (mkF m 60 (Sh9 a1 1 1 x2 0) [(.ref a1), (.double 0), (.double 4598410768185032704), (.ref a1)]) (fun t k => XS.aloadN X287.here hx rfl (hb hby d6_59) rfl rfl k) ?_
  obtain ⟨T288, X288, e288, st288⟩ := getF X287 hx hZ hown (host := "") (Or.inl (ww hw 11 rfl)) Via.refl e287 P1 (g := (mkF m 60 (Sh9 a1 1 1 x2 0) [(.ref a1), (.double 0), (.double 4598410768185032704), (.ref a1)])) rfl rfl (hb hby d6_60)
  refine GoW.sg (mkF m 63 (Sh9 a1 1 1 x2 0) [(.double 4598410768185032704), (.double 0), (.double 4598410768185032704), (.ref a1)]) (fun t k => st288 t k) ?_
  refine GoW.sg (mkF m 64 (Sh9 a1 1 1 x2 0) [(.double 13821782805039808512), (.double 4598410768185032704), (.ref a1)]) (fun t k => XS.dsubS X288.here hx rfl (hb hby d6_63) rfl (v := (13821782805039808512 : UInt64)) (by decide +kernel) (by decide +kernel) k) ?_
  refine GoW.sg (mkF m 67 (Sh9 a1 1 1 x2 0) [(.double 4593671619917905920), (.double 13821782805039808512), (.double 4598410768185032704), (.ref a1)]) (fun t k => X288.ldc2DoubleC hx hown (mvT hZ (ww hw 40 rfl)) (g := (mkF m 64 (Sh9 a1 1 1 x2 0) [(.double 13821782805039808512), (.double 4598410768185032704), (.ref a1)])) rfl (hb hby d6_64) t k) ?_
  refine GoW.sg (mkF m 68 (Sh9 a1 1 1 x2 0) [(.double 13808272006157697024), (.double 4598410768185032704), (.ref a1)]) (fun t k => XS.dmulS X288.here hx rfl (hb hby d6_67) rfl (v := (13808272006157697024 : UInt64)) (by decide +kernel) (by decide +kernel) k) ?_
  refine GoW.sg (mkF m 69 (Sh9 a1 1 1 x2 0) [(.double 4597461529758007296), (.ref a1)]) (fun t k => XS.daddS X288.here hx rfl (hb hby d6_68) rfl (v := (4597461529758007296 : UInt64)) (by decide +kernel) (by decide +kernel) k) ?_
  obtain ⟨T289, h289, X289, e289, W289, st289⟩ := putF X288 hx hZ hown (host := "") (Or.inl (ww hw 11 rfl)) Via.refl e288 P1 P0 (Or.inl (ww hw 12 rfl)) (ww hw 3 rfl) (ty := .double) (by decide) rfl rfl (g := (mkF m 69 (Sh9 a1 1 1 x2 0) [(.double 4597461529758007296), (.ref a1)])) rfl rfl (hb hby d6_69)
  have N289 := Fr.snoc X289 N0 g_a1
  have Exa_a1_289 : Exa Z h289 a1 "com/example/spindle/spindle/SpinRule" := P0.wr W289
  have Fld_a1_handedOn_289 : Fld Z h289 a1 "com/example/spindle/spindle/SpinRule" "handedOn" "Z" (.int (0 : Int32)) := P2.other W289 (Or.inr (slot_ne (t := .boolean) (t' := .double) (Or.inl (ww hw 19 rfl)) (Or.inl (ww hw 12 rfl)) (by decide) (by decide) (by decide)))
  have Fld_a1_awaitsAnswer_289 : Fld Z h289 a1 "com/example/spindle/spindle/SpinRule" "awaitsAnswer" "Z" (.int (1 : Int32)) := P3.other W289 (Or.inr (slot_ne (t := .boolean) (t' := .double) (Or.inl (ww hw 27 rfl)) (Or.inl (ww hw 12 rfl)) (by decide) (by decide) (by decide)))
  have Keep_289 : Keep h0 h289 [a1] := (Keep.refl h0 [a1]).wr W289 (Or.inl (List.mem_of_getElem? (i := 0) rfl))
  have Fld_a1_answeredShare_289 : Fld Z h289 a1 "com/example/spindle/spindle/SpinRule" "answeredShare" "D" (.double (4597461529758007296 : UInt64)) := P1.same W289
  refine GoW.sg (mkF m 72 (Sh9 a1 1 1 x2 0) []) (fun t k => st289 t k) ?_
  refine GoW.retV X289 hx Bd.returns (hb hby d6_72) Bd.notSynchronized ?_ (by decide) (by decide)
  rw [e289]
  exact ⟨rfl, N289, Keep_289, Exa_a1_289, Fld_a1_answeredShare_289, Fld_a1_handedOn_289, Fld_a1_awaitsAnswer_289⟩
def Q6_33 (Z : State) (a1 : Addr) (h0 : Heap) (n0 : Nat) (v : Option Value) (h : Heap) (L : List Loc) : Prop := v = none ∧ Fr n0 L ∧ (Keep h0 h [a1]) ∧ (Exa Z h a1 "com/example/spindle/spindle/SpinRule") ∧ (Fld Z h a1 "com/example/spindle/spindle/SpinRule" "answeredShare" "D" (.double (4597461529758007296 : UInt64))) ∧ (Fld Z h a1 "com/example/spindle/spindle/SpinRule" "handedOn" "Z" (.int (0 : Int32))) ∧ (Fld Z h a1 "com/example/spindle/spindle/SpinRule" "awaitsAnswer" "Z" (.int (1 : Int32)))
theorem ef6_rm6_33 (m : MethodId) (a1 : Addr) : entryFrame m #[(.ref a1), (.int (0 : Int32)), (.int (0 : Int32)), (.long (20000 : Int64))] 6 = (mkF m 0 #[.val (.ref a1), .val (.int 0), .val (.int 0), .val (.long 20000), .second, .unset] []) := by first | (simp [entryFrame, mkF, argsToLocals, Value.category, maxLocals]; done) | rfl
set_option maxRecDepth 65536 in
set_option maxHeartbeats 40000000 in
theorem rm6_33 (l : Launch) (Z : State) (a0 : Array Value) (hw : ∀ d ∈ tables_1, d.before a0 Z = true) (ws : List Jvm.Cond) (a1 : Addr)  (h0 : Heap) (n0 : Nat) (P0 : Exa Z h0 a1 "com/example/spindle/spindle/SpinRule") (P1 : Fld Z h0 a1 "com/example/spindle/spindle/SpinRule" "answeredShare" "D" (.double (4598410768185032704 : UInt64))) (P2 : Fld Z h0 a1 "com/example/spindle/spindle/SpinRule" "handedOn" "Z" (.int (0 : Int32))) (P3 : Fld Z h0 a1 "com/example/spindle/spindle/SpinRule" "awaitsAnswer" "Z" (.int (1 : Int32))) (g_a1 : n0 ≤ a1)    :
    MetFree l (⟨"com/example/spindle/spindle/SpinRule", "countWait", "(ZZJ)V"⟩ : MethodName) (head1 (Jvm.Cond.code (⟨"com/example/spindle/spindle/SpinRule", "countWait", "(ZZJ)V"⟩ : MethodName) prog_40_method_5_code 6 none :: ws) ({ frames := 0, cells := 0, slots := 0, locals := 0 } : Room)) (fun a U => a = #[(.ref a1), (.int (0 : Int32)), (.int (0 : Int32)), (.long (20000 : Int64))] ∧ Z.Warmed39 U.vm ∧ U.heap = h0) (fun _ _ _ _ _ => True) (fun _ U o U' => ∃ v L, o = .returned v ∧ (Q6_33 Z a1 h0 n0) v U'.heap L ∧ FrameEnd U o U' L 0 0) := by
  refine MetFree.of_bodySF (plainFor_of_name pn_com_example_spindle_spindle_SpinRule) hisR ?_
  intro p e s m args below meth c s₁ Bd hml0 hP hK
  obtain ⟨rfl, hZ, hh⟩ := hP
  have hx := Bd.exec
  have hby := Bd.bytes
  have hml : c.maxLocals = 6 := hml0
  have hown : s.vm.findClass "com/example/spindle/spindle/SpinRule" = some m.cls := findClass_of_methodNamed Bd.named
  have hnm := (name_of_methodNamed Bd.named Bd.method).1
  have X0 : Stand p l e ({ frames := 0, cells := 0, slots := 0, locals := 0 } : Room) s m #[(.ref a1), (.int (0 : Int32)), (.int (0 : Int32)), (.long (20000 : Int64))] below meth c s₁ [] 0 0 := Stand.of_body Bd
  have e0 : s₁.heap = h0 := by rw [← hh, Bd.state]; rfl
  have N0 := Fr.nil n0
  refine GoW.mk ?_
  refine GoW.st (fun t k => castTop (ef6_rm6_33 m a1) k) ?_
  show GoW p e below s (Q6_33 Z a1 h0 n0) 0 0 (s₁.setTop (mkF m 0 (Sh8 a1 0 0 20000) []))
  refine GoW.sg (mkF m 1 (Sh8 a1 0 0 20000) [(.ref a1)]) (fun t k => XS.aloadN X0.here hx rfl (hb hby d6_0) rfl rfl k) ?_
  obtain ⟨T297, X297, e297, st297⟩ := getF X0 hx hZ hown (host := "") (Or.inl (ww hw 26 rfl)) Via.refl e0 P3 (g := (mkF m 1 (Sh8 a1 0 0 20000) [(.ref a1)])) rfl rfl (hb hby d6_1)
  refine GoW.sg (mkF m 4 (Sh8 a1 0 0 20000) [(.int 1)]) (fun t k => st297 t k) ?_
  refine GoW.sg (mkF m 7 (Sh8 a1 0 0 20000) []) (fun t k => XS.ifNo X297.here hx rfl (hb hby d6_4) rfl (by decide) k) ?_
  refine GoW.sg (mkF m 8 (Sh8 a1 0 0 20000) [(.int 0)]) (fun t k => XS.iloadN X297.here hx rfl (hb hby d6_7) rfl k) ?_
  refine GoW.sg (mkF m 11 (Sh8 a1 0 0 20000) []) (fun t k => XS.ifNo X297.here hx rfl (hb hby d6_8) rfl (by decide) k) ?_
  refine GoW.sg (mkF m 12 (Sh8 a1 0 0 20000) [(.long 20000)]) (fun t k => XS.lloadN X297.here hx rfl (hb hby d6_11) rfl k) ?_
  refine GoW.sg (mkF m 15 (Sh8 a1 0 0 20000) [(.long 20000), (.long 20000)]) (fun t k => X297.ldc2Long hx hown (mvT hZ (ww hw 28 rfl)) (g := (mkF m 12 (Sh8 a1 0 0 20000) [(.long 20000)])) rfl (hb hby d6_12) t k) ?_
  refine GoW.sg (mkF m 16 (Sh8 a1 0 0 20000) [(.int (lcmpW (20000 : Int64) (20000 : Int64)))]) (fun t k => XS.lcmp X297.here hx rfl (hb hby d6_15) rfl k) ?_
  refine GoW.sg (mkF m 20 (Sh8 a1 0 0 20000) []) (fun t k => XS.ifYes X297.here hx rfl (pc0 := 16) (pc' := 20) rfl (hb hby d6_16) rfl (by decide) (by decide) (by decide) k) ?_
  refine GoW.sg (mkF m 21 (Sh8 a1 0 0 20000) [(.int 0)]) (fun t k => XS.iloadN X297.here hx rfl (hb hby d6_20) rfl k) ?_
  refine GoW.sg (mkF m 40 (Sh8 a1 0 0 20000) []) (fun t k => XS.ifYes X297.here hx rfl (pc0 := 21) (pc' := 40) rfl (hb hby d6_21) rfl (by decide) (by decide) (by decide) k) ?_
  refine GoW.sg (mkF m 41 (Sh8 a1 0 0 20000) [(.int 0)]) (fun t k => XS.iconst X297.here hx rfl (hb hby d6_40) k) ?_
  refine GoW.sg (mkF m 43 (Sh9 a1 0 0 20000 0) []) (fun t k => XS.istore X297.here hx rfl (hb hby d6_41) rfl (l' := (Sh9 a1 0 0 20000 0)) rfl k) ?_
  refine GoW.sg (mkF m 44 (Sh9 a1 0 0 20000 0) [(.ref a1)]) (fun t k => XS.aloadN X297.here hx rfl (hb hby d6_43) rfl rfl k) ?_
  refine GoW.sg (mkF m 45 (Sh9 a1 0 0 20000 0) [(.ref a1), (.ref a1)]) (fun t k => XS.dup X297.here hx rfl (hb hby d6_44) rfl rfl k) ?_
  obtain ⟨T298, X298, e298, st298⟩ := getF X297 hx hZ hown (host := "") (Or.inl (ww hw 11 rfl)) Via.refl e297 P1 (g := (mkF m 45 (Sh9 a1 0 0 20000 0) [(.ref a1), (.ref a1)])) rfl rfl (hb hby d6_45)
  refine GoW.sg (mkF m 48 (Sh9 a1 0 0 20000 0) [(.double 4598410768185032704), (.ref a1)]) (fun t k => st298 t k) ?_
  refine GoW.sg (mkF m 50 (Sh9 a1 0 0 20000 0) [(.int 0), (.double 4598410768185032704), (.ref a1)]) (fun t k => XS.iload X298.here hx rfl (hb hby d6_48) rfl k) ?_
  refine GoW.sg (mkF m 57 (Sh9 a1 0 0 20000 0) [(.double 4598410768185032704), (.ref a1)]) (fun t k => XS.ifYes X298.here hx rfl (pc0 := 50) (pc' := 57) rfl (hb hby d6_50) rfl (by decide) (by decide) (by decide) k) ?_
  refine GoW.sg (mkF m 58 (Sh9 a1 0 0 20000 0) [(.int 0), (.double 4598410768185032704), (.ref a1)]) (fun t k => XS.iconst X298.here hx rfl (hb hby d6_57) k) ?_
  refine GoW.sg (mkF m 59 (Sh9 a1 0 0 20000 0) [(.double 0), (.double 4598410768185032704), (.ref a1)]) (fun t k => XS.i2dS X298.here hx rfl (hb hby d6_58) rfl (v := (0 : UInt64)) (by decide +kernel) k) ?_
  refine GoW.sg (mkF m 60 (Sh9 a1 0 0 20000 0) [(.ref a1), (.double 0), (.double 4598410768185032704), (.ref a1)]) (fun t k => XS.aloadN X298.here hx rfl (hb hby d6_59) rfl rfl k) ?_
  obtain ⟨T299, X299, e299, st299⟩ := getF X298 hx hZ hown (host := "") (Or.inl (ww hw 11 rfl)) Via.refl e298 P1 (g := (mkF m 60 (Sh9 a1 0 0 20000 0) [(.ref a1), (.double 0), (.double 4598410768185032704), (.ref a1)])) rfl rfl (hb hby d6_60)
  refine GoW.sg (mkF m 63 (Sh9 a1 0 0 20000 0) [(.double 4598410768185032704), (.double 0), (.double 4598410768185032704), (.ref a1)]) (fun t k => st299 t k) ?_
  refine GoW.sg (mkF m 64 (Sh9 a1 0 0 20000 0) [(.double 13821782805039808512), (.double 4598410768185032704), (.ref a1)]) (fun t k => XS.dsubS X299.here hx rfl (hb hby d6_63) rfl (v := (13821782805039808512 : UInt64)) (by decide +kernel) (by decide +kernel) k) ?_
  refine GoW.sg (mkF m 67 (Sh9 a1 0 0 20000 0) [(.double 4593671619917905920), (.double 13821782805039808512), (.double 4598410768185032704), (.ref a1)]) (fun t k => X299.ldc2DoubleC hx hown (mvT hZ (ww hw 40 rfl)) (g := (mkF m 64 (Sh9 a1 0 0 20000 0) [(.double 13821782805039808512), (.double 4598410768185032704), (.ref a1)])) rfl (hb hby d6_64) t k) ?_
  refine GoW.sg (mkF m 68 (Sh9 a1 0 0 20000 0) [(.double 13808272006157697024), (.double 4598410768185032704), (.ref a1)]) (fun t k => XS.dmulS X299.here hx rfl (hb hby d6_67) rfl (v := (13808272006157697024 : UInt64)) (by decide +kernel) (by decide +kernel) k) ?_
  refine GoW.sg (mkF m 69 (Sh9 a1 0 0 20000 0) [(.double 4597461529758007296), (.ref a1)]) (fun t k => XS.daddS X299.here hx rfl (hb hby d6_68) rfl (v := (4597461529758007296 : UInt64)) (by decide +kernel) (by decide +kernel) k) ?_
  obtain ⟨T300, h300, X300, e300, W300, st300⟩ := putF X299 hx hZ hown (host := "") (Or.inl (ww hw 11 rfl)) Via.refl e299 P1 P0 (Or.inl (ww hw 12 rfl)) (ww hw 3 rfl) (ty := .double) (by decide) rfl rfl (g := (mkF m 69 (Sh9 a1 0 0 20000 0) [(.double 4597461529758007296), (.ref a1)])) rfl rfl (hb hby d6_69)
  have N300 := Fr.snoc X300 N0 g_a1
  have Exa_a1_300 : Exa Z h300 a1 "com/example/spindle/spindle/SpinRule" := P0.wr W300
  have Fld_a1_handedOn_300 : Fld Z h300 a1 "com/example/spindle/spindle/SpinRule" "handedOn" "Z" (.int (0 : Int32)) := P2.other W300 (Or.inr (slot_ne (t := .boolean) (t' := .double) (Or.inl (ww hw 19 rfl)) (Or.inl (ww hw 12 rfl)) (by decide) (by decide) (by decide)))
  have Fld_a1_awaitsAnswer_300 : Fld Z h300 a1 "com/example/spindle/spindle/SpinRule" "awaitsAnswer" "Z" (.int (1 : Int32)) := P3.other W300 (Or.inr (slot_ne (t := .boolean) (t' := .double) (Or.inl (ww hw 27 rfl)) (Or.inl (ww hw 12 rfl)) (by decide) (by decide) (by decide)))
  have Keep_300 : Keep h0 h300 [a1] := (Keep.refl h0 [a1]).wr W300 (Or.inl (List.mem_of_getElem? (i := 0) rfl))
  have Fld_a1_answeredShare_300 : Fld Z h300 a1 "com/example/spindle/spindle/SpinRule" "answeredShare" "D" (.double (4597461529758007296 : UInt64)) := P1.same W300
  refine GoW.sg (mkF m 72 (Sh9 a1 0 0 20000 0) []) (fun t k => st300 t k) ?_
  refine GoW.retV X300 hx Bd.returns (hb hby d6_72) Bd.notSynchronized ?_ (by decide) (by decide)
  rw [e300]
  exact ⟨rfl, N300, Keep_300, Exa_a1_300, Fld_a1_answeredShare_300, Fld_a1_handedOn_300, Fld_a1_awaitsAnswer_300⟩
def Q4_34 (Z : State) (a1 : Addr) (h0 : Heap) (n0 : Nat) (v : Option Value) (h : Heap) (L : List Loc) : Prop := v = some (.long (0 : Int64)) ∧ Fr n0 L ∧ (Keep h0 h [a1]) ∧ (Exa Z h a1 "com/example/spindle/spindle/SpinRule") ∧ (Fld Z h a1 "com/example/spindle/spindle/SpinRule" "answeredShare" "D" (.double (4597461529758007296 : UInt64))) ∧ (Fld Z h a1 "com/example/spindle/spindle/SpinRule" "handedOn" "Z" (.int (0 : Int32))) ∧ (Fld Z h a1 "com/example/spindle/spindle/SpinRule" "awaitsAnswer" "Z" (.int (0 : Int32)))
theorem ef4_rm4_34 (m : MethodId) (a1 : Addr) : entryFrame m #[(.ref a1), (.long (9223372036854775807 : Int64))] 3 = (mkF m 0 #[.val (.ref a1), .val (.long 9223372036854775807), .second] []) := by first | (simp [entryFrame, mkF, argsToLocals, Value.category, maxLocals]; done) | rfl
set_option maxRecDepth 65536 in
set_option maxHeartbeats 40000000 in
theorem rm4_34 (l : Launch) (Z : State) (a0 : Array Value) (hw : ∀ d ∈ tables_1, d.before a0 Z = true) (ws : List Jvm.Cond) (a1 : Addr)  (h0 : Heap) (n0 : Nat) (P0 : Exa Z h0 a1 "com/example/spindle/spindle/SpinRule") (P1 : Fld Z h0 a1 "com/example/spindle/spindle/SpinRule" "answeredShare" "D" (.double (4597461529758007296 : UInt64))) (P2 : Fld Z h0 a1 "com/example/spindle/spindle/SpinRule" "handedOn" "Z" (.int (0 : Int32))) (P3 : Fld Z h0 a1 "com/example/spindle/spindle/SpinRule" "awaitsAnswer" "Z" (.int (1 : Int32))) (g_a1 : n0 ≤ a1)    :
    MetFree l (⟨"com/example/spindle/spindle/SpinRule", "spinNanos", "(J)J"⟩ : MethodName) (head1 (Jvm.Cond.code (⟨"com/example/spindle/spindle/SpinRule", "spinNanos", "(J)J"⟩ : MethodName) prog_40_method_3_code 3 (some .long) :: ws) ({ frames := 0, cells := 0, slots := 0, locals := 0 } : Room)) (fun a U => a = #[(.ref a1), (.long (9223372036854775807 : Int64))] ∧ Z.Warmed39 U.vm ∧ U.heap = h0) (fun _ _ _ _ _ => True) (fun _ U o U' => ∃ v L, o = .returned v ∧ (Q4_34 Z a1 h0 n0) v U'.heap L ∧ FrameEnd U o U' L 0 0) := by
  refine MetFree.of_bodySF (plainFor_of_name pn_com_example_spindle_spindle_SpinRule) hisR ?_
  intro p e s m args below meth c s₁ Bd hml0 hP hK
  obtain ⟨rfl, hZ, hh⟩ := hP
  have hx := Bd.exec
  have hby := Bd.bytes
  have hml : c.maxLocals = 3 := hml0
  have hown : s.vm.findClass "com/example/spindle/spindle/SpinRule" = some m.cls := findClass_of_methodNamed Bd.named
  have hnm := (name_of_methodNamed Bd.named Bd.method).1
  have X0 : Stand p l e ({ frames := 0, cells := 0, slots := 0, locals := 0 } : Room) s m #[(.ref a1), (.long (9223372036854775807 : Int64))] below meth c s₁ [] 0 0 := Stand.of_body Bd
  have e0 : s₁.heap = h0 := by rw [← hh, Bd.state]; rfl
  have N0 := Fr.nil n0
  refine GoW.mk ?_
  refine GoW.st (fun t k => castTop (ef4_rm4_34 m a1) k) ?_
  show GoW p e below s (Q4_34 Z a1 h0 n0) 0 0 (s₁.setTop (mkF m 0 (Sh7 a1 9223372036854775807) []))
  refine GoW.sg (mkF m 1 (Sh7 a1 9223372036854775807) [(.ref a1)]) (fun t k => XS.aloadN X0.here hx rfl (hb hby d4_0) rfl rfl k) ?_
  refine GoW.sg (mkF m 2 (Sh7 a1 9223372036854775807) [(.ref a1), (.ref a1)]) (fun t k => XS.aloadN X0.here hx rfl (hb hby d4_1) rfl rfl k) ?_
  obtain ⟨T307, X307, e307, st307⟩ := getF X0 hx hZ hown (host := "") (Or.inl (ww hw 18 rfl)) Via.refl e0 P2 (g := (mkF m 2 (Sh7 a1 9223372036854775807) [(.ref a1), (.ref a1)])) rfl rfl (hb hby d4_2)
  refine GoW.sg (mkF m 5 (Sh7 a1 9223372036854775807) [(.int 0), (.ref a1)]) (fun t k => st307 t k) ?_
  obtain ⟨T308, h308, X308, e308, W308, st308⟩ := putF X307 hx hZ hown (host := "") (Or.inl (ww hw 26 rfl)) Via.refl e307 P3 P0 (Or.inl (ww hw 27 rfl)) (ww hw 3 rfl) (ty := .boolean) (by decide) rfl rfl (g := (mkF m 5 (Sh7 a1 9223372036854775807) [(.int 0), (.ref a1)])) rfl rfl (hb hby d4_5)
  have N308 := Fr.snoc X308 N0 g_a1
  have Exa_a1_308 : Exa Z h308 a1 "com/example/spindle/spindle/SpinRule" := P0.wr W308
  have Fld_a1_answeredShare_308 : Fld Z h308 a1 "com/example/spindle/spindle/SpinRule" "answeredShare" "D" (.double (4597461529758007296 : UInt64)) := P1.other W308 (Or.inr (slot_ne (t := .double) (t' := .boolean) (Or.inl (ww hw 12 rfl)) (Or.inl (ww hw 27 rfl)) (by decide) (by decide) (by decide)))
  have Fld_a1_handedOn_308 : Fld Z h308 a1 "com/example/spindle/spindle/SpinRule" "handedOn" "Z" (.int (0 : Int32)) := P2.other W308 (Or.inr (slot_ne (t := .boolean) (t' := .boolean) (Or.inl (ww hw 19 rfl)) (Or.inl (ww hw 27 rfl)) (by decide) (by decide) (by decide)))
  have Keep_308 : Keep h0 h308 [a1] := (Keep.refl h0 [a1]).wr W308 (Or.inl (List.mem_of_getElem? (i := 0) rfl))
  have Fld_a1_awaitsAnswer_308 : Fld Z h308 a1 "com/example/spindle/spindle/SpinRule" "awaitsAnswer" "Z" (.int (0 : Int32)) := P3.same W308
  refine GoW.sg (mkF m 8 (Sh7 a1 9223372036854775807) []) (fun t k => st308 t k) ?_
  refine GoW.sg (mkF m 9 (Sh7 a1 9223372036854775807) [(.ref a1)]) (fun t k => XS.aloadN X308.here hx rfl (hb hby d4_8) rfl rfl k) ?_
  refine GoW.sg (mkF m 10 (Sh7 a1 9223372036854775807) [(.int 0), (.ref a1)]) (fun t k => XS.iconst X308.here hx rfl (hb hby d4_9) k) ?_
  obtain ⟨T309, h309, X309, e309, W309, st309⟩ := putF X308 hx hZ hown (host := "") (Or.inl (ww hw 18 rfl)) Via.refl e308 Fld_a1_handedOn_308 Exa_a1_308 (Or.inl (ww hw 19 rfl)) (ww hw 3 rfl) (ty := .boolean) (by decide) rfl rfl (g := (mkF m 10 (Sh7 a1 9223372036854775807) [(.int 0), (.ref a1)])) rfl rfl (hb hby d4_10)
  have N309 := Fr.snoc X309 N308 g_a1
  have Exa_a1_309 : Exa Z h309 a1 "com/example/spindle/spindle/SpinRule" := Exa_a1_308.wr W309
  have Fld_a1_answeredShare_309 : Fld Z h309 a1 "com/example/spindle/spindle/SpinRule" "answeredShare" "D" (.double (4597461529758007296 : UInt64)) := Fld_a1_answeredShare_308.other W309 (Or.inr (slot_ne (t := .double) (t' := .boolean) (Or.inl (ww hw 12 rfl)) (Or.inl (ww hw 19 rfl)) (by decide) (by decide) (by decide)))
  have Fld_a1_awaitsAnswer_309 : Fld Z h309 a1 "com/example/spindle/spindle/SpinRule" "awaitsAnswer" "Z" (.int (0 : Int32)) := Fld_a1_awaitsAnswer_308.other W309 (Or.inr (slot_ne (t := .boolean) (t' := .boolean) (Or.inl (ww hw 27 rfl)) (Or.inl (ww hw 19 rfl)) (by decide) (by decide) (by decide)))
  have Keep_309 : Keep h0 h309 [a1] := Keep_308.wr W309 (Or.inl (List.mem_of_getElem? (i := 0) rfl))
  have Fld_a1_handedOn_309 : Fld Z h309 a1 "com/example/spindle/spindle/SpinRule" "handedOn" "Z" (.int (0 : Int32)) := Fld_a1_handedOn_308.same W309
  refine GoW.sg (mkF m 13 (Sh7 a1 9223372036854775807) []) (fun t k => st309 t k) ?_
  refine GoW.sg (mkF m 14 (Sh7 a1 9223372036854775807) [(.long 9223372036854775807)]) (fun t k => XS.lloadN X309.here hx rfl (hb hby d4_13) rfl k) ?_
  refine GoW.sg (mkF m 17 (Sh7 a1 9223372036854775807) [(.long 20000), (.long 9223372036854775807)]) (fun t k => X309.ldc2Long hx hown (mvT hZ (ww hw 28 rfl)) (g := (mkF m 14 (Sh7 a1 9223372036854775807) [(.long 9223372036854775807)])) rfl (hb hby d4_14) t k) ?_
  refine GoW.sg (mkF m 18 (Sh7 a1 9223372036854775807) [(.int (lcmpW (9223372036854775807 : Int64) (20000 : Int64)))]) (fun t k => XS.lcmp X309.here hx rfl (hb hby d4_17) rfl k) ?_
  refine GoW.sg (mkF m 23 (Sh7 a1 9223372036854775807) []) (fun t k => XS.ifYes X309.here hx rfl (pc0 := 18) (pc' := 23) rfl (hb hby d4_18) rfl (by decide) (by decide) (by decide) k) ?_
  refine GoW.sg (mkF m 24 (Sh7 a1 9223372036854775807) [(.ref a1)]) (fun t k => XS.aloadN X309.here hx rfl (hb hby d4_23) rfl rfl k) ?_
  obtain ⟨T310, X310, e310, st310⟩ := getF X309 hx hZ hown (host := "") (Or.inl (ww hw 26 rfl)) Via.refl e309 Fld_a1_awaitsAnswer_309 (g := (mkF m 24 (Sh7 a1 9223372036854775807) [(.ref a1)])) rfl rfl (hb hby d4_24)
  refine GoW.sg (mkF m 27 (Sh7 a1 9223372036854775807) [(.int 0)]) (fun t k => st310 t k) ?_
  refine GoW.sg (mkF m 47 (Sh7 a1 9223372036854775807) []) (fun t k => XS.ifYes X310.here hx rfl (pc0 := 27) (pc' := 47) rfl (hb hby d4_27) rfl (by decide) (by decide) (by decide) k) ?_
  refine GoW.sg (mkF m 48 (Sh7 a1 9223372036854775807) [(.long 0)]) (fun t k => XS.lconst X310.here hx rfl (hb hby d4_47) k) ?_
  refine GoW.retL X310 hx Bd.returns (hb hby d4_48) Bd.notSynchronized ?_ (by decide) (by decide)
  rw [e310]
  exact ⟨rfl, N309, Keep_309, Exa_a1_309, Fld_a1_answeredShare_309, Fld_a1_handedOn_309, Fld_a1_awaitsAnswer_309⟩
def Q6_35 (Z : State) (a1 : Addr) (x2 : Int32) (x3 : Int32) (x4 : Int64) (h0 : Heap) (n0 : Nat) (v : Option Value) (h : Heap) (L : List Loc) : Prop := v = none ∧ Fr n0 L ∧ (h = h0)
theorem ef6_rm6_35 (m : MethodId) (a1 : Addr) (x2 : Int32) (x3 : Int32) (x4 : Int64) : entryFrame m #[(.ref a1), (.int x2), (.int x3), (.long x4)] 6 = (mkF m 0 #[.val (.ref a1), .val (.int x2), .val (.int x3), .val (.long x4), .second, .unset] []) := by first | (simp [entryFrame, mkF, argsToLocals, Value.category, maxLocals]; done) | rfl
set_option maxRecDepth 65536 in
set_option maxHeartbeats 40000000 in
theorem rm6_35 (l : Launch) (Z : State) (a0 : Array Value) (hw : ∀ d ∈ tables_1, d.before a0 Z = true) (ws : List Jvm.Cond) (a1 : Addr) (x2 : Int32) (x3 : Int32) (x4 : Int64)  (h0 : Heap) (n0 : Nat) (P0 : Exa Z h0 a1 "com/example/spindle/spindle/SpinRule") (P1 : Fld Z h0 a1 "com/example/spindle/spindle/SpinRule" "answeredShare" "D" (.double (4597461529758007296 : UInt64))) (P2 : Fld Z h0 a1 "com/example/spindle/spindle/SpinRule" "handedOn" "Z" (.int (0 : Int32))) (P3 : Fld Z h0 a1 "com/example/spindle/spindle/SpinRule" "awaitsAnswer" "Z" (.int (0 : Int32)))     :
    MetFree l (⟨"com/example/spindle/spindle/SpinRule", "countWait", "(ZZJ)V"⟩ : MethodName) (head1 (Jvm.Cond.code (⟨"com/example/spindle/spindle/SpinRule", "countWait", "(ZZJ)V"⟩ : MethodName) prog_40_method_5_code 6 none :: ws) ({ frames := 0, cells := 0, slots := 0, locals := 0 } : Room)) (fun a U => a = #[(.ref a1), (.int x2), (.int x3), (.long x4)] ∧ Z.Warmed39 U.vm ∧ U.heap = h0) (fun _ _ _ _ _ => True) (fun _ U o U' => ∃ v L, o = .returned v ∧ (Q6_35 Z a1 x2 x3 x4 h0 n0) v U'.heap L ∧ FrameEnd U o U' L 0 0) := by
  refine MetFree.of_bodySF (plainFor_of_name pn_com_example_spindle_spindle_SpinRule) hisR ?_
  intro p e s m args below meth c s₁ Bd hml0 hP hK
  obtain ⟨rfl, hZ, hh⟩ := hP
  have hx := Bd.exec
  have hby := Bd.bytes
  have hml : c.maxLocals = 6 := hml0
  have hown : s.vm.findClass "com/example/spindle/spindle/SpinRule" = some m.cls := findClass_of_methodNamed Bd.named
  have hnm := (name_of_methodNamed Bd.named Bd.method).1
  have X0 : Stand p l e ({ frames := 0, cells := 0, slots := 0, locals := 0 } : Room) s m #[(.ref a1), (.int x2), (.int x3), (.long x4)] below meth c s₁ [] 0 0 := Stand.of_body Bd
  have e0 : s₁.heap = h0 := by rw [← hh, Bd.state]; rfl
  have N0 := Fr.nil n0
  refine GoW.mk ?_
  refine GoW.st (fun t k => castTop (ef6_rm6_35 m a1 x2 x3 x4) k) ?_
  show GoW p e below s (Q6_35 Z a1 x2 x3 x4 h0 n0) 0 0 (s₁.setTop (mkF m 0 (Sh8 a1 x2 x3 x4) []))
  refine GoW.sg (mkF m 1 (Sh8 a1 x2 x3 x4) [(.ref a1)]) (fun t k => XS.aloadN X0.here hx rfl (hb hby d6_0) rfl rfl k) ?_
  obtain ⟨T313, X313, e313, st313⟩ := getF X0 hx hZ hown (host := "") (Or.inl (ww hw 26 rfl)) Via.refl e0 P3 (g := (mkF m 1 (Sh8 a1 x2 x3 x4) [(.ref a1)])) rfl rfl (hb hby d6_1)
  refine GoW.sg (mkF m 4 (Sh8 a1 x2 x3 x4) [(.int 0)]) (fun t k => st313 t k) ?_
  refine GoW.sg (mkF m 19 (Sh8 a1 x2 x3 x4) []) (fun t k => XS.ifYes X313.here hx rfl (pc0 := 4) (pc' := 19) rfl (hb hby d6_4) rfl (by decide) (by decide) (by decide) k) ?_
  refine GoW.retV X313 hx Bd.returns (hb hby d6_19) Bd.notSynchronized ?_ (by decide) (by decide)
  rw [e313]
  exact ⟨rfl, N0, rfl⟩
def Q3_36 (Z : State) (a1 : Addr) (h0 : Heap) (n0 : Nat) (v : Option Value) (h : Heap) (L : List Loc) : Prop := v = none ∧ Fr n0 L ∧ (Keep h0 h [a1]) ∧ (Exa Z h a1 "com/example/spindle/spindle/SpinRule") ∧ (Fld Z h a1 "com/example/spindle/spindle/SpinRule" "answeredShare" "D" (.double (4597461529758007296 : UInt64))) ∧ (Fld Z h a1 "com/example/spindle/spindle/SpinRule" "handedOn" "Z" (.int (1 : Int32))) ∧ (Fld Z h a1 "com/example/spindle/spindle/SpinRule" "awaitsAnswer" "Z" (.int (0 : Int32)))
theorem ef3_rm3_36 (m : MethodId) (a1 : Addr) : entryFrame m #[(.ref a1)] 1 = (mkF m 0 #[.val (.ref a1)] []) := by first | (simp [entryFrame, mkF, argsToLocals, Value.category, maxLocals]; done) | rfl
set_option maxRecDepth 65536 in
set_option maxHeartbeats 40000000 in
theorem rm3_36 (l : Launch) (Z : State) (a0 : Array Value) (hw : ∀ d ∈ tables_1, d.before a0 Z = true) (ws : List Jvm.Cond) (a1 : Addr)  (h0 : Heap) (n0 : Nat) (P0 : Exa Z h0 a1 "com/example/spindle/spindle/SpinRule") (P1 : Fld Z h0 a1 "com/example/spindle/spindle/SpinRule" "answeredShare" "D" (.double (4597461529758007296 : UInt64))) (P2 : Fld Z h0 a1 "com/example/spindle/spindle/SpinRule" "handedOn" "Z" (.int (0 : Int32))) (P3 : Fld Z h0 a1 "com/example/spindle/spindle/SpinRule" "awaitsAnswer" "Z" (.int (0 : Int32))) (g_a1 : n0 ≤ a1)    :
    MetFree l (⟨"com/example/spindle/spindle/SpinRule", "handedOn", "()V"⟩ : MethodName) (head1 (Jvm.Cond.code (⟨"com/example/spindle/spindle/SpinRule", "handedOn", "()V"⟩ : MethodName) prog_40_method_2_code 1 none :: ws) ({ frames := 0, cells := 0, slots := 0, locals := 0 } : Room)) (fun a U => a = #[(.ref a1)] ∧ Z.Warmed39 U.vm ∧ U.heap = h0) (fun _ _ _ _ _ => True) (fun _ U o U' => ∃ v L, o = .returned v ∧ (Q3_36 Z a1 h0 n0) v U'.heap L ∧ FrameEnd U o U' L 0 0) := by
  refine MetFree.of_bodySF (plainFor_of_name pn_com_example_spindle_spindle_SpinRule) hisR ?_
  intro p e s m args below meth c s₁ Bd hml0 hP hK
  obtain ⟨rfl, hZ, hh⟩ := hP
  have hx := Bd.exec
  have hby := Bd.bytes
  have hml : c.maxLocals = 1 := hml0
  have hown : s.vm.findClass "com/example/spindle/spindle/SpinRule" = some m.cls := findClass_of_methodNamed Bd.named
  have hnm := (name_of_methodNamed Bd.named Bd.method).1
  have X0 : Stand p l e ({ frames := 0, cells := 0, slots := 0, locals := 0 } : Room) s m #[(.ref a1)] below meth c s₁ [] 0 0 := Stand.of_body Bd
  have e0 : s₁.heap = h0 := by rw [← hh, Bd.state]; rfl
  have N0 := Fr.nil n0
  refine GoW.mk ?_
  refine GoW.st (fun t k => castTop (ef3_rm3_36 m a1) k) ?_
  show GoW p e below s (Q3_36 Z a1 h0 n0) 0 0 (s₁.setTop (mkF m 0 #[.val (.ref a1)] []))
  refine GoW.sg (mkF m 1 #[.val (.ref a1)] [(.ref a1)]) (fun t k => XS.aloadN X0.here hx rfl (hb hby d3_0) rfl rfl k) ?_
  refine GoW.sg (mkF m 2 #[.val (.ref a1)] [(.int 1), (.ref a1)]) (fun t k => XS.iconst X0.here hx rfl (hb hby d3_1) k) ?_
  obtain ⟨T316, h316, X316, e316, W316, st316⟩ := putF X0 hx hZ hown (host := "") (Or.inl (ww hw 18 rfl)) Via.refl e0 P2 P0 (Or.inl (ww hw 19 rfl)) (ww hw 3 rfl) (ty := .boolean) (by decide) rfl rfl (g := (mkF m 2 #[.val (.ref a1)] [(.int 1), (.ref a1)])) rfl rfl (hb hby d3_2)
  have N316 := Fr.snoc X316 N0 g_a1
  have Exa_a1_316 : Exa Z h316 a1 "com/example/spindle/spindle/SpinRule" := P0.wr W316
  have Fld_a1_answeredShare_316 : Fld Z h316 a1 "com/example/spindle/spindle/SpinRule" "answeredShare" "D" (.double (4597461529758007296 : UInt64)) := P1.other W316 (Or.inr (slot_ne (t := .double) (t' := .boolean) (Or.inl (ww hw 12 rfl)) (Or.inl (ww hw 19 rfl)) (by decide) (by decide) (by decide)))
  have Fld_a1_awaitsAnswer_316 : Fld Z h316 a1 "com/example/spindle/spindle/SpinRule" "awaitsAnswer" "Z" (.int (0 : Int32)) := P3.other W316 (Or.inr (slot_ne (t := .boolean) (t' := .boolean) (Or.inl (ww hw 27 rfl)) (Or.inl (ww hw 19 rfl)) (by decide) (by decide) (by decide)))
  have Keep_316 : Keep h0 h316 [a1] := (Keep.refl h0 [a1]).wr W316 (Or.inl (List.mem_of_getElem? (i := 0) rfl))
  have Fld_a1_handedOn_316 : Fld Z h316 a1 "com/example/spindle/spindle/SpinRule" "handedOn" "Z" (.int (1 : Int32)) := P2.same W316
  refine GoW.sg (mkF m 5 #[.val (.ref a1)] []) (fun t k => st316 t k) ?_
  refine GoW.retV X316 hx Bd.returns (hb hby d3_5) Bd.notSynchronized ?_ (by decide) (by decide)
  rw [e316]
  exact ⟨rfl, N316, Keep_316, Exa_a1_316, Fld_a1_answeredShare_316, Fld_a1_handedOn_316, Fld_a1_awaitsAnswer_316⟩
def Q4_37 (Z : State) (a1 : Addr) (h0 : Heap) (n0 : Nat) (v : Option Value) (h : Heap) (L : List Loc) : Prop := v = some (.long (0 : Int64)) ∧ Fr n0 L ∧ (Keep h0 h [a1]) ∧ (Exa Z h a1 "com/example/spindle/spindle/SpinRule") ∧ (Fld Z h a1 "com/example/spindle/spindle/SpinRule" "answeredShare" "D" (.double (4597461529758007296 : UInt64))) ∧ (Fld Z h a1 "com/example/spindle/spindle/SpinRule" "handedOn" "Z" (.int (0 : Int32))) ∧ (Fld Z h a1 "com/example/spindle/spindle/SpinRule" "awaitsAnswer" "Z" (.int (1 : Int32)))
theorem ef4_rm4_37 (m : MethodId) (a1 : Addr) : entryFrame m #[(.ref a1), (.long (9223372036854775807 : Int64))] 3 = (mkF m 0 #[.val (.ref a1), .val (.long 9223372036854775807), .second] []) := by first | (simp [entryFrame, mkF, argsToLocals, Value.category, maxLocals]; done) | rfl
set_option maxRecDepth 65536 in
set_option maxHeartbeats 40000000 in
theorem rm4_37 (l : Launch) (Z : State) (a0 : Array Value) (hw : ∀ d ∈ tables_1, d.before a0 Z = true) (ws : List Jvm.Cond) (a1 : Addr)  (h0 : Heap) (n0 : Nat) (P0 : Exa Z h0 a1 "com/example/spindle/spindle/SpinRule") (P1 : Fld Z h0 a1 "com/example/spindle/spindle/SpinRule" "answeredShare" "D" (.double (4597461529758007296 : UInt64))) (P2 : Fld Z h0 a1 "com/example/spindle/spindle/SpinRule" "handedOn" "Z" (.int (1 : Int32))) (P3 : Fld Z h0 a1 "com/example/spindle/spindle/SpinRule" "awaitsAnswer" "Z" (.int (0 : Int32))) (g_a1 : n0 ≤ a1)    :
    MetFree l (⟨"com/example/spindle/spindle/SpinRule", "spinNanos", "(J)J"⟩ : MethodName) (head1 (Jvm.Cond.code (⟨"com/example/spindle/spindle/SpinRule", "spinNanos", "(J)J"⟩ : MethodName) prog_40_method_3_code 3 (some .long) :: ws) ({ frames := 0, cells := 0, slots := 0, locals := 0 } : Room)) (fun a U => a = #[(.ref a1), (.long (9223372036854775807 : Int64))] ∧ Z.Warmed39 U.vm ∧ U.heap = h0) (fun _ _ _ _ _ => True) (fun _ U o U' => ∃ v L, o = .returned v ∧ (Q4_37 Z a1 h0 n0) v U'.heap L ∧ FrameEnd U o U' L 0 0) := by
  refine MetFree.of_bodySF (plainFor_of_name pn_com_example_spindle_spindle_SpinRule) hisR ?_
  intro p e s m args below meth c s₁ Bd hml0 hP hK
  obtain ⟨rfl, hZ, hh⟩ := hP
  have hx := Bd.exec
  have hby := Bd.bytes
  have hml : c.maxLocals = 3 := hml0
  have hown : s.vm.findClass "com/example/spindle/spindle/SpinRule" = some m.cls := findClass_of_methodNamed Bd.named
  have hnm := (name_of_methodNamed Bd.named Bd.method).1
  have X0 : Stand p l e ({ frames := 0, cells := 0, slots := 0, locals := 0 } : Room) s m #[(.ref a1), (.long (9223372036854775807 : Int64))] below meth c s₁ [] 0 0 := Stand.of_body Bd
  have e0 : s₁.heap = h0 := by rw [← hh, Bd.state]; rfl
  have N0 := Fr.nil n0
  refine GoW.mk ?_
  refine GoW.st (fun t k => castTop (ef4_rm4_37 m a1) k) ?_
  show GoW p e below s (Q4_37 Z a1 h0 n0) 0 0 (s₁.setTop (mkF m 0 (Sh7 a1 9223372036854775807) []))
  refine GoW.sg (mkF m 1 (Sh7 a1 9223372036854775807) [(.ref a1)]) (fun t k => XS.aloadN X0.here hx rfl (hb hby d4_0) rfl rfl k) ?_
  refine GoW.sg (mkF m 2 (Sh7 a1 9223372036854775807) [(.ref a1), (.ref a1)]) (fun t k => XS.aloadN X0.here hx rfl (hb hby d4_1) rfl rfl k) ?_
  obtain ⟨T323, X323, e323, st323⟩ := getF X0 hx hZ hown (host := "") (Or.inl (ww hw 18 rfl)) Via.refl e0 P2 (g := (mkF m 2 (Sh7 a1 9223372036854775807) [(.ref a1), (.ref a1)])) rfl rfl (hb hby d4_2)
  refine GoW.sg (mkF m 5 (Sh7 a1 9223372036854775807) [(.int 1), (.ref a1)]) (fun t k => st323 t k) ?_
  obtain ⟨T324, h324, X324, e324, W324, st324⟩ := putF X323 hx hZ hown (host := "") (Or.inl (ww hw 26 rfl)) Via.refl e323 P3 P0 (Or.inl (ww hw 27 rfl)) (ww hw 3 rfl) (ty := .boolean) (by decide) rfl rfl (g := (mkF m 5 (Sh7 a1 9223372036854775807) [(.int 1), (.ref a1)])) rfl rfl (hb hby d4_5)
  have N324 := Fr.snoc X324 N0 g_a1
  have Exa_a1_324 : Exa Z h324 a1 "com/example/spindle/spindle/SpinRule" := P0.wr W324
  have Fld_a1_answeredShare_324 : Fld Z h324 a1 "com/example/spindle/spindle/SpinRule" "answeredShare" "D" (.double (4597461529758007296 : UInt64)) := P1.other W324 (Or.inr (slot_ne (t := .double) (t' := .boolean) (Or.inl (ww hw 12 rfl)) (Or.inl (ww hw 27 rfl)) (by decide) (by decide) (by decide)))
  have Fld_a1_handedOn_324 : Fld Z h324 a1 "com/example/spindle/spindle/SpinRule" "handedOn" "Z" (.int (1 : Int32)) := P2.other W324 (Or.inr (slot_ne (t := .boolean) (t' := .boolean) (Or.inl (ww hw 19 rfl)) (Or.inl (ww hw 27 rfl)) (by decide) (by decide) (by decide)))
  have Keep_324 : Keep h0 h324 [a1] := (Keep.refl h0 [a1]).wr W324 (Or.inl (List.mem_of_getElem? (i := 0) rfl))
  have Fld_a1_awaitsAnswer_324 : Fld Z h324 a1 "com/example/spindle/spindle/SpinRule" "awaitsAnswer" "Z" (.int (1 : Int32)) := P3.same W324
  refine GoW.sg (mkF m 8 (Sh7 a1 9223372036854775807) []) (fun t k => st324 t k) ?_
  refine GoW.sg (mkF m 9 (Sh7 a1 9223372036854775807) [(.ref a1)]) (fun t k => XS.aloadN X324.here hx rfl (hb hby d4_8) rfl rfl k) ?_
  refine GoW.sg (mkF m 10 (Sh7 a1 9223372036854775807) [(.int 0), (.ref a1)]) (fun t k => XS.iconst X324.here hx rfl (hb hby d4_9) k) ?_
  obtain ⟨T325, h325, X325, e325, W325, st325⟩ := putF X324 hx hZ hown (host := "") (Or.inl (ww hw 18 rfl)) Via.refl e324 Fld_a1_handedOn_324 Exa_a1_324 (Or.inl (ww hw 19 rfl)) (ww hw 3 rfl) (ty := .boolean) (by decide) rfl rfl (g := (mkF m 10 (Sh7 a1 9223372036854775807) [(.int 0), (.ref a1)])) rfl rfl (hb hby d4_10)
  have N325 := Fr.snoc X325 N324 g_a1
  have Exa_a1_325 : Exa Z h325 a1 "com/example/spindle/spindle/SpinRule" := Exa_a1_324.wr W325
  have Fld_a1_answeredShare_325 : Fld Z h325 a1 "com/example/spindle/spindle/SpinRule" "answeredShare" "D" (.double (4597461529758007296 : UInt64)) := Fld_a1_answeredShare_324.other W325 (Or.inr (slot_ne (t := .double) (t' := .boolean) (Or.inl (ww hw 12 rfl)) (Or.inl (ww hw 19 rfl)) (by decide) (by decide) (by decide)))
  have Fld_a1_awaitsAnswer_325 : Fld Z h325 a1 "com/example/spindle/spindle/SpinRule" "awaitsAnswer" "Z" (.int (1 : Int32)) := Fld_a1_awaitsAnswer_324.other W325 (Or.inr (slot_ne (t := .boolean) (t' := .boolean) (Or.inl (ww hw 27 rfl)) (Or.inl (ww hw 19 rfl)) (by decide) (by decide) (by decide)))
  have Keep_325 : Keep h0 h325 [a1] := Keep_324.wr W325 (Or.inl (List.mem_of_getElem? (i := 0) rfl))
  have Fld_a1_handedOn_325 : Fld Z h325 a1 "com/example/spindle/spindle/SpinRule" "handedOn" "Z" (.int (0 : Int32)) := Fld_a1_handedOn_324.same W325
  refine GoW.sg (mkF m 13 (Sh7 a1 9223372036854775807) []) (fun t k => st325 t k) ?_
  refine GoW.sg (mkF m 14 (Sh7 a1 9223372036854775807) [(.long 9223372036854775807)]) (fun t k => XS.lloadN X325.here hx rfl (hb hby d4_13) rfl k) ?_
  refine GoW.sg (mkF m 17 (Sh7 a1 9223372036854775807) [(.long 20000), (.long 9223372036854775807)]) (fun t k => X325.ldc2Long hx hown (mvT hZ (ww hw 28 rfl)) (g := (mkF m 14 (Sh7 a1 9223372036854775807) [(.long 9223372036854775807)])) rfl (hb hby d4_14) t k) ?_
  refine GoW.sg (mkF m 18 (Sh7 a1 9223372036854775807) [(.int (lcmpW (9223372036854775807 : Int64) (20000 : Int64)))]) (fun t k => XS.lcmp X325.here hx rfl (hb hby d4_17) rfl k) ?_
  refine GoW.sg (mkF m 23 (Sh7 a1 9223372036854775807) []) (fun t k => XS.ifYes X325.here hx rfl (pc0 := 18) (pc' := 23) rfl (hb hby d4_18) rfl (by decide) (by decide) (by decide) k) ?_
  refine GoW.sg (mkF m 24 (Sh7 a1 9223372036854775807) [(.ref a1)]) (fun t k => XS.aloadN X325.here hx rfl (hb hby d4_23) rfl rfl k) ?_
  obtain ⟨T326, X326, e326, st326⟩ := getF X325 hx hZ hown (host := "") (Or.inl (ww hw 26 rfl)) Via.refl e325 Fld_a1_awaitsAnswer_325 (g := (mkF m 24 (Sh7 a1 9223372036854775807) [(.ref a1)])) rfl rfl (hb hby d4_24)
  refine GoW.sg (mkF m 27 (Sh7 a1 9223372036854775807) [(.int 1)]) (fun t k => st326 t k) ?_
  refine GoW.sg (mkF m 30 (Sh7 a1 9223372036854775807) []) (fun t k => XS.ifNo X326.here hx rfl (hb hby d4_27) rfl (by decide) k) ?_
  refine GoW.sg (mkF m 31 (Sh7 a1 9223372036854775807) [(.ref a1)]) (fun t k => XS.aloadN X326.here hx rfl (hb hby d4_30) rfl rfl k) ?_
  obtain ⟨T327, X327, e327, st327⟩ := getF X326 hx hZ hown (host := "") (Or.inl (ww hw 11 rfl)) Via.refl e326 Fld_a1_answeredShare_325 (g := (mkF m 31 (Sh7 a1 9223372036854775807) [(.ref a1)])) rfl rfl (hb hby d4_31)
  refine GoW.sg (mkF m 34 (Sh7 a1 9223372036854775807) [(.double 4597461529758007296)]) (fun t k => st327 t k) ?_
  refine GoW.sg (mkF m 37 (Sh7 a1 9223372036854775807) [(.double 4598175219545276416), (.double 4597461529758007296)]) (fun t k => X327.ldc2DoubleC hx hown (mvT hZ (ww hw 29 rfl)) (g := (mkF m 34 (Sh7 a1 9223372036854775807) [(.double 4597461529758007296)])) rfl (hb hby d4_34) t k) ?_
  refine GoW.sg (mkF m 38 (Sh7 a1 9223372036854775807) [(.int (-1))]) (fun t k => XS.dcmpS X327.here hx rfl (hb hby d4_37) rfl (v := (-1 : Int32)) (by decide +kernel) k) ?_
  refine GoW.sg (mkF m 47 (Sh7 a1 9223372036854775807) []) (fun t k => XS.ifYes X327.here hx rfl (pc0 := 38) (pc' := 47) rfl (hb hby d4_38) rfl (by decide) (by decide) (by decide) k) ?_
  refine GoW.sg (mkF m 48 (Sh7 a1 9223372036854775807) [(.long 0)]) (fun t k => XS.lconst X327.here hx rfl (hb hby d4_47) k) ?_
  refine GoW.retL X327 hx Bd.returns (hb hby d4_48) Bd.notSynchronized ?_ (by decide) (by decide)
  rw [e327]
  exact ⟨rfl, N325, Keep_325, Exa_a1_325, Fld_a1_answeredShare_325, Fld_a1_handedOn_325, Fld_a1_awaitsAnswer_325⟩
def Q6_38 (Z : State) (a1 : Addr) (x2 : Int64) (h0 : Heap) (n0 : Nat) (v : Option Value) (h : Heap) (L : List Loc) : Prop := v = none ∧ Fr n0 L ∧ (h = h0)
theorem ef6_rm6_38 (m : MethodId) (a1 : Addr) (x2 : Int64) : entryFrame m #[(.ref a1), (.int (0 : Int32)), (.int (0 : Int32)), (.long x2)] 6 = (mkF m 0 #[.val (.ref a1), .val (.int 0), .val (.int 0), .val (.long x2), .second, .unset] []) := by first | (simp [entryFrame, mkF, argsToLocals, Value.category, maxLocals]; done) | rfl
set_option maxRecDepth 65536 in
set_option maxHeartbeats 40000000 in
theorem rm6_38 (l : Launch) (Z : State) (a0 : Array Value) (hw : ∀ d ∈ tables_1, d.before a0 Z = true) (ws : List Jvm.Cond) (a1 : Addr) (x2 : Int64)  (h0 : Heap) (n0 : Nat) (P0 : Exa Z h0 a1 "com/example/spindle/spindle/SpinRule") (P1 : Fld Z h0 a1 "com/example/spindle/spindle/SpinRule" "answeredShare" "D" (.double (4597461529758007296 : UInt64))) (P2 : Fld Z h0 a1 "com/example/spindle/spindle/SpinRule" "handedOn" "Z" (.int (0 : Int32))) (P3 : Fld Z h0 a1 "com/example/spindle/spindle/SpinRule" "awaitsAnswer" "Z" (.int (1 : Int32)))   (u0 : x2 < (20000 : Int64))  :
    MetFree l (⟨"com/example/spindle/spindle/SpinRule", "countWait", "(ZZJ)V"⟩ : MethodName) (head1 (Jvm.Cond.code (⟨"com/example/spindle/spindle/SpinRule", "countWait", "(ZZJ)V"⟩ : MethodName) prog_40_method_5_code 6 none :: ws) ({ frames := 0, cells := 0, slots := 0, locals := 0 } : Room)) (fun a U => a = #[(.ref a1), (.int (0 : Int32)), (.int (0 : Int32)), (.long x2)] ∧ Z.Warmed39 U.vm ∧ U.heap = h0) (fun _ _ _ _ _ => True) (fun _ U o U' => ∃ v L, o = .returned v ∧ (Q6_38 Z a1 x2 h0 n0) v U'.heap L ∧ FrameEnd U o U' L 0 0) := by
  refine MetFree.of_bodySF (plainFor_of_name pn_com_example_spindle_spindle_SpinRule) hisR ?_
  intro p e s m args below meth c s₁ Bd hml0 hP hK
  obtain ⟨rfl, hZ, hh⟩ := hP
  have hx := Bd.exec
  have hby := Bd.bytes
  have hml : c.maxLocals = 6 := hml0
  have hown : s.vm.findClass "com/example/spindle/spindle/SpinRule" = some m.cls := findClass_of_methodNamed Bd.named
  have hnm := (name_of_methodNamed Bd.named Bd.method).1
  have X0 : Stand p l e ({ frames := 0, cells := 0, slots := 0, locals := 0 } : Room) s m #[(.ref a1), (.int (0 : Int32)), (.int (0 : Int32)), (.long x2)] below meth c s₁ [] 0 0 := Stand.of_body Bd
  have e0 : s₁.heap = h0 := by rw [← hh, Bd.state]; rfl
  have N0 := Fr.nil n0
  refine GoW.mk ?_
  refine GoW.st (fun t k => castTop (ef6_rm6_38 m a1 x2) k) ?_
  show GoW p e below s (Q6_38 Z a1 x2 h0 n0) 0 0 (s₁.setTop (mkF m 0 (Sh8 a1 0 0 x2) []))
  refine GoW.sg (mkF m 1 (Sh8 a1 0 0 x2) [(.ref a1)]) (fun t k => XS.aloadN X0.here hx rfl (hb hby d6_0) rfl rfl k) ?_
  obtain ⟨T341, X341, e341, st341⟩ := getF X0 hx hZ hown (host := "") (Or.inl (ww hw 26 rfl)) Via.refl e0 P3 (g := (mkF m 1 (Sh8 a1 0 0 x2) [(.ref a1)])) rfl rfl (hb hby d6_1)
  refine GoW.sg (mkF m 4 (Sh8 a1 0 0 x2) [(.int 1)]) (fun t k => st341 t k) ?_
  refine GoW.sg (mkF m 7 (Sh8 a1 0 0 x2) []) (fun t k => XS.ifNo X341.here hx rfl (hb hby d6_4) rfl (by decide) k) ?_
  refine GoW.sg (mkF m 8 (Sh8 a1 0 0 x2) [(.int 0)]) (fun t k => XS.iloadN X341.here hx rfl (hb hby d6_7) rfl k) ?_
  refine GoW.sg (mkF m 11 (Sh8 a1 0 0 x2) []) (fun t k => XS.ifNo X341.here hx rfl (hb hby d6_8) rfl (by decide) k) ?_
  refine GoW.sg (mkF m 12 (Sh8 a1 0 0 x2) [(.long x2)]) (fun t k => XS.lloadN X341.here hx rfl (hb hby d6_11) rfl k) ?_
  refine GoW.sg (mkF m 15 (Sh8 a1 0 0 x2) [(.long 20000), (.long x2)]) (fun t k => X341.ldc2Long hx hown (mvT hZ (ww hw 28 rfl)) (g := (mkF m 12 (Sh8 a1 0 0 x2) [(.long x2)])) rfl (hb hby d6_12) t k) ?_
  refine GoW.sg (mkF m 16 (Sh8 a1 0 0 x2) [(.int (lcmpW x2 (20000 : Int64)))]) (fun t k => XS.lcmp X341.here hx rfl (hb hby d6_15) rfl k) ?_
  refine GoW.sg (mkF m 19 (Sh8 a1 0 0 x2) []) (fun t k => XS.ifNo X341.here hx rfl (hb hby d6_16) rfl ((if0 _ _).trans (tlt ((lw_lt _ _).mpr u0)).2.1) k) ?_
  refine GoW.retV X341 hx Bd.returns (hb hby d6_19) Bd.notSynchronized ?_ (by decide) (by decide)
  rw [e341]
  exact ⟨rfl, N0, rfl⟩
def Q6_39 (Z : State) (a1 : Addr) (x2 : Int64) (h0 : Heap) (n0 : Nat) (v : Option Value) (h : Heap) (L : List Loc) : Prop := v = none ∧ Fr n0 L ∧ (h = h0)
theorem ef6_rm6_39 (m : MethodId) (a1 : Addr) (x2 : Int64) : entryFrame m #[(.ref a1), (.int (0 : Int32)), (.int (1 : Int32)), (.long x2)] 6 = (mkF m 0 #[.val (.ref a1), .val (.int 0), .val (.int 1), .val (.long x2), .second, .unset] []) := by first | (simp [entryFrame, mkF, argsToLocals, Value.category, maxLocals]; done) | rfl
set_option maxRecDepth 65536 in
set_option maxHeartbeats 40000000 in
theorem rm6_39 (l : Launch) (Z : State) (a0 : Array Value) (hw : ∀ d ∈ tables_1, d.before a0 Z = true) (ws : List Jvm.Cond) (a1 : Addr) (x2 : Int64)  (h0 : Heap) (n0 : Nat) (P0 : Exa Z h0 a1 "com/example/spindle/spindle/SpinRule") (P1 : Fld Z h0 a1 "com/example/spindle/spindle/SpinRule" "answeredShare" "D" (.double (4597461529758007296 : UInt64))) (P2 : Fld Z h0 a1 "com/example/spindle/spindle/SpinRule" "handedOn" "Z" (.int (0 : Int32))) (P3 : Fld Z h0 a1 "com/example/spindle/spindle/SpinRule" "awaitsAnswer" "Z" (.int (1 : Int32)))   (u0 : x2 < (20000 : Int64))  :
    MetFree l (⟨"com/example/spindle/spindle/SpinRule", "countWait", "(ZZJ)V"⟩ : MethodName) (head1 (Jvm.Cond.code (⟨"com/example/spindle/spindle/SpinRule", "countWait", "(ZZJ)V"⟩ : MethodName) prog_40_method_5_code 6 none :: ws) ({ frames := 0, cells := 0, slots := 0, locals := 0 } : Room)) (fun a U => a = #[(.ref a1), (.int (0 : Int32)), (.int (1 : Int32)), (.long x2)] ∧ Z.Warmed39 U.vm ∧ U.heap = h0) (fun _ _ _ _ _ => True) (fun _ U o U' => ∃ v L, o = .returned v ∧ (Q6_39 Z a1 x2 h0 n0) v U'.heap L ∧ FrameEnd U o U' L 0 0) := by
  refine MetFree.of_bodySF (plainFor_of_name pn_com_example_spindle_spindle_SpinRule) hisR ?_
  intro p e s m args below meth c s₁ Bd hml0 hP hK
  obtain ⟨rfl, hZ, hh⟩ := hP
  have hx := Bd.exec
  have hby := Bd.bytes
  have hml : c.maxLocals = 6 := hml0
  have hown : s.vm.findClass "com/example/spindle/spindle/SpinRule" = some m.cls := findClass_of_methodNamed Bd.named
  have hnm := (name_of_methodNamed Bd.named Bd.method).1
  have X0 : Stand p l e ({ frames := 0, cells := 0, slots := 0, locals := 0 } : Room) s m #[(.ref a1), (.int (0 : Int32)), (.int (1 : Int32)), (.long x2)] below meth c s₁ [] 0 0 := Stand.of_body Bd
  have e0 : s₁.heap = h0 := by rw [← hh, Bd.state]; rfl
  have N0 := Fr.nil n0
  refine GoW.mk ?_
  refine GoW.st (fun t k => castTop (ef6_rm6_39 m a1 x2) k) ?_
  show GoW p e below s (Q6_39 Z a1 x2 h0 n0) 0 0 (s₁.setTop (mkF m 0 (Sh8 a1 0 1 x2) []))
  refine GoW.sg (mkF m 1 (Sh8 a1 0 1 x2) [(.ref a1)]) (fun t k => XS.aloadN X0.here hx rfl (hb hby d6_0) rfl rfl k) ?_
  obtain ⟨T346, X346, e346, st346⟩ := getF X0 hx hZ hown (host := "") (Or.inl (ww hw 26 rfl)) Via.refl e0 P3 (g := (mkF m 1 (Sh8 a1 0 1 x2) [(.ref a1)])) rfl rfl (hb hby d6_1)
  refine GoW.sg (mkF m 4 (Sh8 a1 0 1 x2) [(.int 1)]) (fun t k => st346 t k) ?_
  refine GoW.sg (mkF m 7 (Sh8 a1 0 1 x2) []) (fun t k => XS.ifNo X346.here hx rfl (hb hby d6_4) rfl (by decide) k) ?_
  refine GoW.sg (mkF m 8 (Sh8 a1 0 1 x2) [(.int 0)]) (fun t k => XS.iloadN X346.here hx rfl (hb hby d6_7) rfl k) ?_
  refine GoW.sg (mkF m 11 (Sh8 a1 0 1 x2) []) (fun t k => XS.ifNo X346.here hx rfl (hb hby d6_8) rfl (by decide) k) ?_
  refine GoW.sg (mkF m 12 (Sh8 a1 0 1 x2) [(.long x2)]) (fun t k => XS.lloadN X346.here hx rfl (hb hby d6_11) rfl k) ?_
  refine GoW.sg (mkF m 15 (Sh8 a1 0 1 x2) [(.long 20000), (.long x2)]) (fun t k => X346.ldc2Long hx hown (mvT hZ (ww hw 28 rfl)) (g := (mkF m 12 (Sh8 a1 0 1 x2) [(.long x2)])) rfl (hb hby d6_12) t k) ?_
  refine GoW.sg (mkF m 16 (Sh8 a1 0 1 x2) [(.int (lcmpW x2 (20000 : Int64)))]) (fun t k => XS.lcmp X346.here hx rfl (hb hby d6_15) rfl k) ?_
  refine GoW.sg (mkF m 19 (Sh8 a1 0 1 x2) []) (fun t k => XS.ifNo X346.here hx rfl (hb hby d6_16) rfl ((if0 _ _).trans (tlt ((lw_lt _ _).mpr u0)).2.1) k) ?_
  refine GoW.retV X346 hx Bd.returns (hb hby d6_19) Bd.notSynchronized ?_ (by decide) (by decide)
  rw [e346]
  exact ⟨rfl, N0, rfl⟩
def Q6_40 (Z : State) (a1 : Addr) (x2 : Int64) (h0 : Heap) (n0 : Nat) (v : Option Value) (h : Heap) (L : List Loc) : Prop := v = none ∧ Fr n0 L ∧ (Keep h0 h [a1]) ∧ (Exa Z h a1 "com/example/spindle/spindle/SpinRule") ∧ (Fld Z h a1 "com/example/spindle/spindle/SpinRule" "answeredShare" "D" (.double (4596424841074573312 : UInt64))) ∧ (Fld Z h a1 "com/example/spindle/spindle/SpinRule" "handedOn" "Z" (.int (0 : Int32))) ∧ (Fld Z h a1 "com/example/spindle/spindle/SpinRule" "awaitsAnswer" "Z" (.int (1 : Int32)))
theorem ef6_rm6_40 (m : MethodId) (a1 : Addr) (x2 : Int64) : entryFrame m #[(.ref a1), (.int (1 : Int32)), (.int (0 : Int32)), (.long x2)] 6 = (mkF m 0 #[.val (.ref a1), .val (.int 1), .val (.int 0), .val (.long x2), .second, .unset] []) := by first | (simp [entryFrame, mkF, argsToLocals, Value.category, maxLocals]; done) | rfl
set_option maxRecDepth 65536 in
set_option maxHeartbeats 40000000 in
theorem rm6_40 (l : Launch) (Z : State) (a0 : Array Value) (hw : ∀ d ∈ tables_1, d.before a0 Z = true) (ws : List Jvm.Cond) (a1 : Addr) (x2 : Int64)  (h0 : Heap) (n0 : Nat) (P0 : Exa Z h0 a1 "com/example/spindle/spindle/SpinRule") (P1 : Fld Z h0 a1 "com/example/spindle/spindle/SpinRule" "answeredShare" "D" (.double (4597461529758007296 : UInt64))) (P2 : Fld Z h0 a1 "com/example/spindle/spindle/SpinRule" "handedOn" "Z" (.int (0 : Int32))) (P3 : Fld Z h0 a1 "com/example/spindle/spindle/SpinRule" "awaitsAnswer" "Z" (.int (1 : Int32))) (g_a1 : n0 ≤ a1)  (u0 : x2 < (20000 : Int64))  :
    MetFree l (⟨"com/example/spindle/spindle/SpinRule", "countWait", "(ZZJ)V"⟩ : MethodName) (head1 (Jvm.Cond.code (⟨"com/example/spindle/spindle/SpinRule", "countWait", "(ZZJ)V"⟩ : MethodName) prog_40_method_5_code 6 none :: ws) ({ frames := 0, cells := 0, slots := 0, locals := 0 } : Room)) (fun a U => a = #[(.ref a1), (.int (1 : Int32)), (.int (0 : Int32)), (.long x2)] ∧ Z.Warmed39 U.vm ∧ U.heap = h0) (fun _ _ _ _ _ => True) (fun _ U o U' => ∃ v L, o = .returned v ∧ (Q6_40 Z a1 x2 h0 n0) v U'.heap L ∧ FrameEnd U o U' L 0 0) := by
  refine MetFree.of_bodySF (plainFor_of_name pn_com_example_spindle_spindle_SpinRule) hisR ?_
  intro p e s m args below meth c s₁ Bd hml0 hP hK
  obtain ⟨rfl, hZ, hh⟩ := hP
  have hx := Bd.exec
  have hby := Bd.bytes
  have hml : c.maxLocals = 6 := hml0
  have hown : s.vm.findClass "com/example/spindle/spindle/SpinRule" = some m.cls := findClass_of_methodNamed Bd.named
  have hnm := (name_of_methodNamed Bd.named Bd.method).1
  have X0 : Stand p l e ({ frames := 0, cells := 0, slots := 0, locals := 0 } : Room) s m #[(.ref a1), (.int (1 : Int32)), (.int (0 : Int32)), (.long x2)] below meth c s₁ [] 0 0 := Stand.of_body Bd
  have e0 : s₁.heap = h0 := by rw [← hh, Bd.state]; rfl
  have N0 := Fr.nil n0
  refine GoW.mk ?_
  refine GoW.st (fun t k => castTop (ef6_rm6_40 m a1 x2) k) ?_
  show GoW p e below s (Q6_40 Z a1 x2 h0 n0) 0 0 (s₁.setTop (mkF m 0 (Sh8 a1 1 0 x2) []))
  refine GoW.sg (mkF m 1 (Sh8 a1 1 0 x2) [(.ref a1)]) (fun t k => XS.aloadN X0.here hx rfl (hb hby d6_0) rfl rfl k) ?_
  obtain ⟨T354, X354, e354, st354⟩ := getF X0 hx hZ hown (host := "") (Or.inl (ww hw 26 rfl)) Via.refl e0 P3 (g := (mkF m 1 (Sh8 a1 1 0 x2) [(.ref a1)])) rfl rfl (hb hby d6_1)
  refine GoW.sg (mkF m 4 (Sh8 a1 1 0 x2) [(.int 1)]) (fun t k => st354 t k) ?_
  refine GoW.sg (mkF m 7 (Sh8 a1 1 0 x2) []) (fun t k => XS.ifNo X354.here hx rfl (hb hby d6_4) rfl (by decide) k) ?_
  refine GoW.sg (mkF m 8 (Sh8 a1 1 0 x2) [(.int 1)]) (fun t k => XS.iloadN X354.here hx rfl (hb hby d6_7) rfl k) ?_
  refine GoW.sg (mkF m 20 (Sh8 a1 1 0 x2) []) (fun t k => XS.ifYes X354.here hx rfl (pc0 := 8) (pc' := 20) rfl (hb hby d6_8) rfl (by decide) (by decide) (by decide) k) ?_
  refine GoW.sg (mkF m 21 (Sh8 a1 1 0 x2) [(.int 1)]) (fun t k => XS.iloadN X354.here hx rfl (hb hby d6_20) rfl k) ?_
  refine GoW.sg (mkF m 24 (Sh8 a1 1 0 x2) []) (fun t k => XS.ifNo X354.here hx rfl (hb hby d6_21) rfl (by decide) k) ?_
  refine GoW.sg (mkF m 25 (Sh8 a1 1 0 x2) [(.int 0)]) (fun t k => XS.iloadN X354.here hx rfl (hb hby d6_24) rfl k) ?_
  refine GoW.sg (mkF m 40 (Sh8 a1 1 0 x2) []) (fun t k => XS.ifYes X354.here hx rfl (pc0 := 25) (pc' := 40) rfl (hb hby d6_25) rfl (by decide) (by decide) (by decide) k) ?_
  refine GoW.sg (mkF m 41 (Sh8 a1 1 0 x2) [(.int 0)]) (fun t k => XS.iconst X354.here hx rfl (hb hby d6_40) k) ?_
  refine GoW.sg (mkF m 43 (Sh9 a1 1 0 x2 0) []) (fun t k => XS.istore X354.here hx rfl (hb hby d6_41) rfl (l' := (Sh9 a1 1 0 x2 0)) rfl k) ?_
  refine GoW.sg (mkF m 44 (Sh9 a1 1 0 x2 0) [(.ref a1)]) (fun t k => XS.aloadN X354.here hx rfl (hb hby d6_43) rfl rfl k) ?_
  refine GoW.sg (mkF m 45 (Sh9 a1 1 0 x2 0) [(.ref a1), (.ref a1)]) (fun t k => XS.dup X354.here hx rfl (hb hby d6_44) rfl rfl k) ?_
  obtain ⟨T355, X355, e355, st355⟩ := getF X354 hx hZ hown (host := "") (Or.inl (ww hw 11 rfl)) Via.refl e354 P1 (g := (mkF m 45 (Sh9 a1 1 0 x2 0) [(.ref a1), (.ref a1)])) rfl rfl (hb hby d6_45)
  refine GoW.sg (mkF m 48 (Sh9 a1 1 0 x2 0) [(.double 4597461529758007296), (.ref a1)]) (fun t k => st355 t k) ?_
  refine GoW.sg (mkF m 50 (Sh9 a1 1 0 x2 0) [(.int 0), (.double 4597461529758007296), (.ref a1)]) (fun t k => XS.iload X355.here hx rfl (hb hby d6_48) rfl k) ?_
  refine GoW.sg (mkF m 57 (Sh9 a1 1 0 x2 0) [(.double 4597461529758007296), (.ref a1)]) (fun t k => XS.ifYes X355.here hx rfl (pc0 := 50) (pc' := 57) rfl (hb hby d6_50) rfl (by decide) (by decide) (by decide) k) ?_
  refine GoW.sg (mkF m 58 (Sh9 a1 1 0 x2 0) [(.int 0), (.double 4597461529758007296), (.ref a1)]) (fun t k => XS.iconst X355.here hx rfl (hb hby d6_57) k) ?_
  refine GoW.sg (mkF m 59 (Sh9 a1 1 0 x2 0) [(.double 0), (.double 4597461529758007296), (.ref a1)]) (fun t k => XS.i2dS X355.here hx rfl (hb hby d6_58) rfl (v := (0 : UInt64)) (by decide +kernel) k) ?_
  refine GoW.sg (mkF m 60 (Sh9 a1 1 0 x2 0) [(.ref a1), (.double 0), (.double 4597461529758007296), (.ref a1)]) (fun t k => XS.aloadN X355.here hx rfl (hb hby d6_59) rfl rfl k) ?_
  obtain ⟨T356, X356, e356, st356⟩ := getF X355 hx hZ hown (host := "") (Or.inl (ww hw 11 rfl)) Via.refl e355 P1 (g := (mkF m 60 (Sh9 a1 1 0 x2 0) [(.ref a1), (.double 0), (.double 4597461529758007296), (.ref a1)])) rfl rfl (hb hby d6_60)
  refine GoW.sg (mkF m 63 (Sh9 a1 1 0 x2 0) [(.double 4597461529758007296), (.double 0), (.double 4597461529758007296), (.ref a1)]) (fun t k => st356 t k) ?_
  refine GoW.sg (mkF m 64 (Sh9 a1 1 0 x2 0) [(.double 13820833566612783104), (.double 4597461529758007296), (.ref a1)]) (fun t k => XS.dsubS X356.here hx rfl (hb hby d6_63) rfl (v := (13820833566612783104 : UInt64)) (by decide +kernel) (by decide +kernel) k) ?_
  refine GoW.sg (mkF m 67 (Sh9 a1 1 0 x2 0) [(.double 4593671619917905920), (.double 13820833566612783104), (.double 4597461529758007296), (.ref a1)]) (fun t k => X356.ldc2DoubleC hx hown (mvT hZ (ww hw 40 rfl)) (g := (mkF m 64 (Sh9 a1 1 0 x2 0) [(.double 13820833566612783104), (.double 4597461529758007296), (.ref a1)])) rfl (hb hby d6_64) t k) ?_
  refine GoW.sg (mkF m 68 (Sh9 a1 1 0 x2 0) [(.double 13807322767730671616), (.double 4597461529758007296), (.ref a1)]) (fun t k => XS.dmulS X356.here hx rfl (hb hby d6_67) rfl (v := (13807322767730671616 : UInt64)) (by decide +kernel) (by decide +kernel) k) ?_
  refine GoW.sg (mkF m 69 (Sh9 a1 1 0 x2 0) [(.double 4596424841074573312), (.ref a1)]) (fun t k => XS.daddS X356.here hx rfl (hb hby d6_68) rfl (v := (4596424841074573312 : UInt64)) (by decide +kernel) (by decide +kernel) k) ?_
  obtain ⟨T357, h357, X357, e357, W357, st357⟩ := putF X356 hx hZ hown (host := "") (Or.inl (ww hw 11 rfl)) Via.refl e356 P1 P0 (Or.inl (ww hw 12 rfl)) (ww hw 3 rfl) (ty := .double) (by decide) rfl rfl (g := (mkF m 69 (Sh9 a1 1 0 x2 0) [(.double 4596424841074573312), (.ref a1)])) rfl rfl (hb hby d6_69)
  have N357 := Fr.snoc X357 N0 g_a1
  have Exa_a1_357 : Exa Z h357 a1 "com/example/spindle/spindle/SpinRule" := P0.wr W357
  have Fld_a1_handedOn_357 : Fld Z h357 a1 "com/example/spindle/spindle/SpinRule" "handedOn" "Z" (.int (0 : Int32)) := P2.other W357 (Or.inr (slot_ne (t := .boolean) (t' := .double) (Or.inl (ww hw 19 rfl)) (Or.inl (ww hw 12 rfl)) (by decide) (by decide) (by decide)))
  have Fld_a1_awaitsAnswer_357 : Fld Z h357 a1 "com/example/spindle/spindle/SpinRule" "awaitsAnswer" "Z" (.int (1 : Int32)) := P3.other W357 (Or.inr (slot_ne (t := .boolean) (t' := .double) (Or.inl (ww hw 27 rfl)) (Or.inl (ww hw 12 rfl)) (by decide) (by decide) (by decide)))
  have Keep_357 : Keep h0 h357 [a1] := (Keep.refl h0 [a1]).wr W357 (Or.inl (List.mem_of_getElem? (i := 0) rfl))
  have Fld_a1_answeredShare_357 : Fld Z h357 a1 "com/example/spindle/spindle/SpinRule" "answeredShare" "D" (.double (4596424841074573312 : UInt64)) := P1.same W357
  refine GoW.sg (mkF m 72 (Sh9 a1 1 0 x2 0) []) (fun t k => st357 t k) ?_
  refine GoW.retV X357 hx Bd.returns (hb hby d6_72) Bd.notSynchronized ?_ (by decide) (by decide)
  rw [e357]
  exact ⟨rfl, N357, Keep_357, Exa_a1_357, Fld_a1_answeredShare_357, Fld_a1_handedOn_357, Fld_a1_awaitsAnswer_357⟩
def Q3_41 (Z : State) (a1 : Addr) (h0 : Heap) (n0 : Nat) (v : Option Value) (h : Heap) (L : List Loc) : Prop := v = none ∧ Fr n0 L ∧ (Keep h0 h [a1]) ∧ (Exa Z h a1 "com/example/spindle/spindle/SpinRule") ∧ (Fld Z h a1 "com/example/spindle/spindle/SpinRule" "answeredShare" "D" (.double (4596424841074573312 : UInt64))) ∧ (Fld Z h a1 "com/example/spindle/spindle/SpinRule" "handedOn" "Z" (.int (1 : Int32))) ∧ (Fld Z h a1 "com/example/spindle/spindle/SpinRule" "awaitsAnswer" "Z" (.int (1 : Int32)))
theorem ef3_rm3_41 (m : MethodId) (a1 : Addr) : entryFrame m #[(.ref a1)] 1 = (mkF m 0 #[.val (.ref a1)] []) := by first | (simp [entryFrame, mkF, argsToLocals, Value.category, maxLocals]; done) | rfl
set_option maxRecDepth 65536 in
set_option maxHeartbeats 40000000 in
theorem rm3_41 (l : Launch) (Z : State) (a0 : Array Value) (hw : ∀ d ∈ tables_1, d.before a0 Z = true) (ws : List Jvm.Cond) (a1 : Addr)  (h0 : Heap) (n0 : Nat) (P0 : Exa Z h0 a1 "com/example/spindle/spindle/SpinRule") (P1 : Fld Z h0 a1 "com/example/spindle/spindle/SpinRule" "answeredShare" "D" (.double (4596424841074573312 : UInt64))) (P2 : Fld Z h0 a1 "com/example/spindle/spindle/SpinRule" "handedOn" "Z" (.int (0 : Int32))) (P3 : Fld Z h0 a1 "com/example/spindle/spindle/SpinRule" "awaitsAnswer" "Z" (.int (1 : Int32))) (g_a1 : n0 ≤ a1)    :
    MetFree l (⟨"com/example/spindle/spindle/SpinRule", "handedOn", "()V"⟩ : MethodName) (head1 (Jvm.Cond.code (⟨"com/example/spindle/spindle/SpinRule", "handedOn", "()V"⟩ : MethodName) prog_40_method_2_code 1 none :: ws) ({ frames := 0, cells := 0, slots := 0, locals := 0 } : Room)) (fun a U => a = #[(.ref a1)] ∧ Z.Warmed39 U.vm ∧ U.heap = h0) (fun _ _ _ _ _ => True) (fun _ U o U' => ∃ v L, o = .returned v ∧ (Q3_41 Z a1 h0 n0) v U'.heap L ∧ FrameEnd U o U' L 0 0) := by
  refine MetFree.of_bodySF (plainFor_of_name pn_com_example_spindle_spindle_SpinRule) hisR ?_
  intro p e s m args below meth c s₁ Bd hml0 hP hK
  obtain ⟨rfl, hZ, hh⟩ := hP
  have hx := Bd.exec
  have hby := Bd.bytes
  have hml : c.maxLocals = 1 := hml0
  have hown : s.vm.findClass "com/example/spindle/spindle/SpinRule" = some m.cls := findClass_of_methodNamed Bd.named
  have hnm := (name_of_methodNamed Bd.named Bd.method).1
  have X0 : Stand p l e ({ frames := 0, cells := 0, slots := 0, locals := 0 } : Room) s m #[(.ref a1)] below meth c s₁ [] 0 0 := Stand.of_body Bd
  have e0 : s₁.heap = h0 := by rw [← hh, Bd.state]; rfl
  have N0 := Fr.nil n0
  refine GoW.mk ?_
  refine GoW.st (fun t k => castTop (ef3_rm3_41 m a1) k) ?_
  show GoW p e below s (Q3_41 Z a1 h0 n0) 0 0 (s₁.setTop (mkF m 0 #[.val (.ref a1)] []))
  refine GoW.sg (mkF m 1 #[.val (.ref a1)] [(.ref a1)]) (fun t k => XS.aloadN X0.here hx rfl (hb hby d3_0) rfl rfl k) ?_
  refine GoW.sg (mkF m 2 #[.val (.ref a1)] [(.int 1), (.ref a1)]) (fun t k => XS.iconst X0.here hx rfl (hb hby d3_1) k) ?_
  obtain ⟨T360, h360, X360, e360, W360, st360⟩ := putF X0 hx hZ hown (host := "") (Or.inl (ww hw 18 rfl)) Via.refl e0 P2 P0 (Or.inl (ww hw 19 rfl)) (ww hw 3 rfl) (ty := .boolean) (by decide) rfl rfl (g := (mkF m 2 #[.val (.ref a1)] [(.int 1), (.ref a1)])) rfl rfl (hb hby d3_2)
  have N360 := Fr.snoc X360 N0 g_a1
  have Exa_a1_360 : Exa Z h360 a1 "com/example/spindle/spindle/SpinRule" := P0.wr W360
  have Fld_a1_answeredShare_360 : Fld Z h360 a1 "com/example/spindle/spindle/SpinRule" "answeredShare" "D" (.double (4596424841074573312 : UInt64)) := P1.other W360 (Or.inr (slot_ne (t := .double) (t' := .boolean) (Or.inl (ww hw 12 rfl)) (Or.inl (ww hw 19 rfl)) (by decide) (by decide) (by decide)))
  have Fld_a1_awaitsAnswer_360 : Fld Z h360 a1 "com/example/spindle/spindle/SpinRule" "awaitsAnswer" "Z" (.int (1 : Int32)) := P3.other W360 (Or.inr (slot_ne (t := .boolean) (t' := .boolean) (Or.inl (ww hw 27 rfl)) (Or.inl (ww hw 19 rfl)) (by decide) (by decide) (by decide)))
  have Keep_360 : Keep h0 h360 [a1] := (Keep.refl h0 [a1]).wr W360 (Or.inl (List.mem_of_getElem? (i := 0) rfl))
  have Fld_a1_handedOn_360 : Fld Z h360 a1 "com/example/spindle/spindle/SpinRule" "handedOn" "Z" (.int (1 : Int32)) := P2.same W360
  refine GoW.sg (mkF m 5 #[.val (.ref a1)] []) (fun t k => st360 t k) ?_
  refine GoW.retV X360 hx Bd.returns (hb hby d3_5) Bd.notSynchronized ?_ (by decide) (by decide)
  rw [e360]
  exact ⟨rfl, N360, Keep_360, Exa_a1_360, Fld_a1_answeredShare_360, Fld_a1_handedOn_360, Fld_a1_awaitsAnswer_360⟩
def Q4_42 (Z : State) (a1 : Addr) (h0 : Heap) (n0 : Nat) (v : Option Value) (h : Heap) (L : List Loc) : Prop := v = some (.long (0 : Int64)) ∧ Fr n0 L ∧ (Keep h0 h [a1]) ∧ (Exa Z h a1 "com/example/spindle/spindle/SpinRule") ∧ (Fld Z h a1 "com/example/spindle/spindle/SpinRule" "answeredShare" "D" (.double (4596424841074573312 : UInt64))) ∧ (Fld Z h a1 "com/example/spindle/spindle/SpinRule" "handedOn" "Z" (.int (0 : Int32))) ∧ (Fld Z h a1 "com/example/spindle/spindle/SpinRule" "awaitsAnswer" "Z" (.int (1 : Int32)))
theorem ef4_rm4_42 (m : MethodId) (a1 : Addr) : entryFrame m #[(.ref a1), (.long (9223372036854775807 : Int64))] 3 = (mkF m 0 #[.val (.ref a1), .val (.long 9223372036854775807), .second] []) := by first | (simp [entryFrame, mkF, argsToLocals, Value.category, maxLocals]; done) | rfl
set_option maxRecDepth 65536 in
set_option maxHeartbeats 40000000 in
theorem rm4_42 (l : Launch) (Z : State) (a0 : Array Value) (hw : ∀ d ∈ tables_1, d.before a0 Z = true) (ws : List Jvm.Cond) (a1 : Addr)  (h0 : Heap) (n0 : Nat) (P0 : Exa Z h0 a1 "com/example/spindle/spindle/SpinRule") (P1 : Fld Z h0 a1 "com/example/spindle/spindle/SpinRule" "answeredShare" "D" (.double (4596424841074573312 : UInt64))) (P2 : Fld Z h0 a1 "com/example/spindle/spindle/SpinRule" "handedOn" "Z" (.int (1 : Int32))) (P3 : Fld Z h0 a1 "com/example/spindle/spindle/SpinRule" "awaitsAnswer" "Z" (.int (1 : Int32))) (g_a1 : n0 ≤ a1)    :
    MetFree l (⟨"com/example/spindle/spindle/SpinRule", "spinNanos", "(J)J"⟩ : MethodName) (head1 (Jvm.Cond.code (⟨"com/example/spindle/spindle/SpinRule", "spinNanos", "(J)J"⟩ : MethodName) prog_40_method_3_code 3 (some .long) :: ws) ({ frames := 0, cells := 0, slots := 0, locals := 0 } : Room)) (fun a U => a = #[(.ref a1), (.long (9223372036854775807 : Int64))] ∧ Z.Warmed39 U.vm ∧ U.heap = h0) (fun _ _ _ _ _ => True) (fun _ U o U' => ∃ v L, o = .returned v ∧ (Q4_42 Z a1 h0 n0) v U'.heap L ∧ FrameEnd U o U' L 0 0) := by
  refine MetFree.of_bodySF (plainFor_of_name pn_com_example_spindle_spindle_SpinRule) hisR ?_
  intro p e s m args below meth c s₁ Bd hml0 hP hK
  obtain ⟨rfl, hZ, hh⟩ := hP
  have hx := Bd.exec
  have hby := Bd.bytes
  have hml : c.maxLocals = 3 := hml0
  have hown : s.vm.findClass "com/example/spindle/spindle/SpinRule" = some m.cls := findClass_of_methodNamed Bd.named
  have hnm := (name_of_methodNamed Bd.named Bd.method).1
  have X0 : Stand p l e ({ frames := 0, cells := 0, slots := 0, locals := 0 } : Room) s m #[(.ref a1), (.long (9223372036854775807 : Int64))] below meth c s₁ [] 0 0 := Stand.of_body Bd
  have e0 : s₁.heap = h0 := by rw [← hh, Bd.state]; rfl
  have N0 := Fr.nil n0
  refine GoW.mk ?_
  refine GoW.st (fun t k => castTop (ef4_rm4_42 m a1) k) ?_
  show GoW p e below s (Q4_42 Z a1 h0 n0) 0 0 (s₁.setTop (mkF m 0 (Sh7 a1 9223372036854775807) []))
  refine GoW.sg (mkF m 1 (Sh7 a1 9223372036854775807) [(.ref a1)]) (fun t k => XS.aloadN X0.here hx rfl (hb hby d4_0) rfl rfl k) ?_
  refine GoW.sg (mkF m 2 (Sh7 a1 9223372036854775807) [(.ref a1), (.ref a1)]) (fun t k => XS.aloadN X0.here hx rfl (hb hby d4_1) rfl rfl k) ?_
  obtain ⟨T367, X367, e367, st367⟩ := getF X0 hx hZ hown (host := "") (Or.inl (ww hw 18 rfl)) Via.refl e0 P2 (g := (mkF m 2 (Sh7 a1 9223372036854775807) [(.ref a1), (.ref a1)])) rfl rfl (hb hby d4_2)
  refine GoW.sg (mkF m 5 (Sh7 a1 9223372036854775807) [(.int 1), (.ref a1)]) (fun t k => st367 t k) ?_
  obtain ⟨T368, h368, X368, e368, W368, st368⟩ := putF X367 hx hZ hown (host := "") (Or.inl (ww hw 26 rfl)) Via.refl e367 P3 P0 (Or.inl (ww hw 27 rfl)) (ww hw 3 rfl) (ty := .boolean) (by decide) rfl rfl (g := (mkF m 5 (Sh7 a1 9223372036854775807) [(.int 1), (.ref a1)])) rfl rfl (hb hby d4_5)
  have N368 := Fr.snoc X368 N0 g_a1
  have Exa_a1_368 : Exa Z h368 a1 "com/example/spindle/spindle/SpinRule" := P0.wr W368
  have Fld_a1_answeredShare_368 : Fld Z h368 a1 "com/example/spindle/spindle/SpinRule" "answeredShare" "D" (.double (4596424841074573312 : UInt64)) := P1.other W368 (Or.inr (slot_ne (t := .double) (t' := .boolean) (Or.inl (ww hw 12 rfl)) (Or.inl (ww hw 27 rfl)) (by decide) (by decide) (by decide)))
  have Fld_a1_handedOn_368 : Fld Z h368 a1 "com/example/spindle/spindle/SpinRule" "handedOn" "Z" (.int (1 : Int32)) := P2.other W368 (Or.inr (slot_ne (t := .boolean) (t' := .boolean) (Or.inl (ww hw 19 rfl)) (Or.inl (ww hw 27 rfl)) (by decide) (by decide) (by decide)))
  have Keep_368 : Keep h0 h368 [a1] := (Keep.refl h0 [a1]).wr W368 (Or.inl (List.mem_of_getElem? (i := 0) rfl))
  have Fld_a1_awaitsAnswer_368 : Fld Z h368 a1 "com/example/spindle/spindle/SpinRule" "awaitsAnswer" "Z" (.int (1 : Int32)) := P3.same W368
  refine GoW.sg (mkF m 8 (Sh7 a1 9223372036854775807) []) (fun t k => st368 t k) ?_
  refine GoW.sg (mkF m 9 (Sh7 a1 9223372036854775807) [(.ref a1)]) (fun t k => XS.aloadN X368.here hx rfl (hb hby d4_8) rfl rfl k) ?_
  refine GoW.sg (mkF m 10 (Sh7 a1 9223372036854775807) [(.int 0), (.ref a1)]) (fun t k => XS.iconst X368.here hx rfl (hb hby d4_9) k) ?_
  obtain ⟨T369, h369, X369, e369, W369, st369⟩ := putF X368 hx hZ hown (host := "") (Or.inl (ww hw 18 rfl)) Via.refl e368 Fld_a1_handedOn_368 Exa_a1_368 (Or.inl (ww hw 19 rfl)) (ww hw 3 rfl) (ty := .boolean) (by decide) rfl rfl (g := (mkF m 10 (Sh7 a1 9223372036854775807) [(.int 0), (.ref a1)])) rfl rfl (hb hby d4_10)
  have N369 := Fr.snoc X369 N368 g_a1
  have Exa_a1_369 : Exa Z h369 a1 "com/example/spindle/spindle/SpinRule" := Exa_a1_368.wr W369
  have Fld_a1_answeredShare_369 : Fld Z h369 a1 "com/example/spindle/spindle/SpinRule" "answeredShare" "D" (.double (4596424841074573312 : UInt64)) := Fld_a1_answeredShare_368.other W369 (Or.inr (slot_ne (t := .double) (t' := .boolean) (Or.inl (ww hw 12 rfl)) (Or.inl (ww hw 19 rfl)) (by decide) (by decide) (by decide)))
  have Fld_a1_awaitsAnswer_369 : Fld Z h369 a1 "com/example/spindle/spindle/SpinRule" "awaitsAnswer" "Z" (.int (1 : Int32)) := Fld_a1_awaitsAnswer_368.other W369 (Or.inr (slot_ne (t := .boolean) (t' := .boolean) (Or.inl (ww hw 27 rfl)) (Or.inl (ww hw 19 rfl)) (by decide) (by decide) (by decide)))
  have Keep_369 : Keep h0 h369 [a1] := Keep_368.wr W369 (Or.inl (List.mem_of_getElem? (i := 0) rfl))
  have Fld_a1_handedOn_369 : Fld Z h369 a1 "com/example/spindle/spindle/SpinRule" "handedOn" "Z" (.int (0 : Int32)) := Fld_a1_handedOn_368.same W369
  refine GoW.sg (mkF m 13 (Sh7 a1 9223372036854775807) []) (fun t k => st369 t k) ?_
  refine GoW.sg (mkF m 14 (Sh7 a1 9223372036854775807) [(.long 9223372036854775807)]) (fun t k => XS.lloadN X369.here hx rfl (hb hby d4_13) rfl k) ?_
  refine GoW.sg (mkF m 17 (Sh7 a1 9223372036854775807) [(.long 20000), (.long 9223372036854775807)]) (fun t k => X369.ldc2Long hx hown (mvT hZ (ww hw 28 rfl)) (g := (mkF m 14 (Sh7 a1 9223372036854775807) [(.long 9223372036854775807)])) rfl (hb hby d4_14) t k) ?_
  refine GoW.sg (mkF m 18 (Sh7 a1 9223372036854775807) [(.int (lcmpW (9223372036854775807 : Int64) (20000 : Int64)))]) (fun t k => XS.lcmp X369.here hx rfl (hb hby d4_17) rfl k) ?_
  refine GoW.sg (mkF m 23 (Sh7 a1 9223372036854775807) []) (fun t k => XS.ifYes X369.here hx rfl (pc0 := 18) (pc' := 23) rfl (hb hby d4_18) rfl (by decide) (by decide) (by decide) k) ?_
  refine GoW.sg (mkF m 24 (Sh7 a1 9223372036854775807) [(.ref a1)]) (fun t k => XS.aloadN X369.here hx rfl (hb hby d4_23) rfl rfl k) ?_
  obtain ⟨T370, X370, e370, st370⟩ := getF X369 hx hZ hown (host := "") (Or.inl (ww hw 26 rfl)) Via.refl e369 Fld_a1_awaitsAnswer_369 (g := (mkF m 24 (Sh7 a1 9223372036854775807) [(.ref a1)])) rfl rfl (hb hby d4_24)
  refine GoW.sg (mkF m 27 (Sh7 a1 9223372036854775807) [(.int 1)]) (fun t k => st370 t k) ?_
  refine GoW.sg (mkF m 30 (Sh7 a1 9223372036854775807) []) (fun t k => XS.ifNo X370.here hx rfl (hb hby d4_27) rfl (by decide) k) ?_
  refine GoW.sg (mkF m 31 (Sh7 a1 9223372036854775807) [(.ref a1)]) (fun t k => XS.aloadN X370.here hx rfl (hb hby d4_30) rfl rfl k) ?_
  obtain ⟨T371, X371, e371, st371⟩ := getF X370 hx hZ hown (host := "") (Or.inl (ww hw 11 rfl)) Via.refl e370 Fld_a1_answeredShare_369 (g := (mkF m 31 (Sh7 a1 9223372036854775807) [(.ref a1)])) rfl rfl (hb hby d4_31)
  refine GoW.sg (mkF m 34 (Sh7 a1 9223372036854775807) [(.double 4596424841074573312)]) (fun t k => st371 t k) ?_
  refine GoW.sg (mkF m 37 (Sh7 a1 9223372036854775807) [(.double 4598175219545276416), (.double 4596424841074573312)]) (fun t k => X371.ldc2DoubleC hx hown (mvT hZ (ww hw 29 rfl)) (g := (mkF m 34 (Sh7 a1 9223372036854775807) [(.double 4596424841074573312)])) rfl (hb hby d4_34) t k) ?_
  refine GoW.sg (mkF m 38 (Sh7 a1 9223372036854775807) [(.int (-1))]) (fun t k => XS.dcmpS X371.here hx rfl (hb hby d4_37) rfl (v := (-1 : Int32)) (by decide +kernel) k) ?_
  refine GoW.sg (mkF m 47 (Sh7 a1 9223372036854775807) []) (fun t k => XS.ifYes X371.here hx rfl (pc0 := 38) (pc' := 47) rfl (hb hby d4_38) rfl (by decide) (by decide) (by decide) k) ?_
  refine GoW.sg (mkF m 48 (Sh7 a1 9223372036854775807) [(.long 0)]) (fun t k => XS.lconst X371.here hx rfl (hb hby d4_47) k) ?_
  refine GoW.retL X371 hx Bd.returns (hb hby d4_48) Bd.notSynchronized ?_ (by decide) (by decide)
  rw [e371]
  exact ⟨rfl, N369, Keep_369, Exa_a1_369, Fld_a1_answeredShare_369, Fld_a1_handedOn_369, Fld_a1_awaitsAnswer_369⟩
def Q6_43 (Z : State) (a1 : Addr) (x2 : Int64) (h0 : Heap) (n0 : Nat) (v : Option Value) (h : Heap) (L : List Loc) : Prop := v = none ∧ Fr n0 L ∧ (Keep h0 h [a1]) ∧ (Exa Z h a1 "com/example/spindle/spindle/SpinRule") ∧ (Fld Z h a1 "com/example/spindle/spindle/SpinRule" "answeredShare" "D" (.double (4599551830123610112 : UInt64))) ∧ (Fld Z h a1 "com/example/spindle/spindle/SpinRule" "handedOn" "Z" (.int (0 : Int32))) ∧ (Fld Z h a1 "com/example/spindle/spindle/SpinRule" "awaitsAnswer" "Z" (.int (1 : Int32)))
theorem ef6_rm6_43 (m : MethodId) (a1 : Addr) (x2 : Int64) : entryFrame m #[(.ref a1), (.int (1 : Int32)), (.int (1 : Int32)), (.long x2)] 6 = (mkF m 0 #[.val (.ref a1), .val (.int 1), .val (.int 1), .val (.long x2), .second, .unset] []) := by first | (simp [entryFrame, mkF, argsToLocals, Value.category, maxLocals]; done) | rfl
set_option maxRecDepth 65536 in
set_option maxHeartbeats 40000000 in
theorem rm6_43 (l : Launch) (Z : State) (a0 : Array Value) (hw : ∀ d ∈ tables_1, d.before a0 Z = true) (ws : List Jvm.Cond) (a1 : Addr) (x2 : Int64)  (h0 : Heap) (n0 : Nat) (P0 : Exa Z h0 a1 "com/example/spindle/spindle/SpinRule") (P1 : Fld Z h0 a1 "com/example/spindle/spindle/SpinRule" "answeredShare" "D" (.double (4597461529758007296 : UInt64))) (P2 : Fld Z h0 a1 "com/example/spindle/spindle/SpinRule" "handedOn" "Z" (.int (0 : Int32))) (P3 : Fld Z h0 a1 "com/example/spindle/spindle/SpinRule" "awaitsAnswer" "Z" (.int (1 : Int32))) (g_a1 : n0 ≤ a1)  (u0 : x2 < (20000 : Int64))  :
    MetFree l (⟨"com/example/spindle/spindle/SpinRule", "countWait", "(ZZJ)V"⟩ : MethodName) (head1 (Jvm.Cond.code (⟨"com/example/spindle/spindle/SpinRule", "countWait", "(ZZJ)V"⟩ : MethodName) prog_40_method_5_code 6 none :: ws) ({ frames := 0, cells := 0, slots := 0, locals := 0 } : Room)) (fun a U => a = #[(.ref a1), (.int (1 : Int32)), (.int (1 : Int32)), (.long x2)] ∧ Z.Warmed39 U.vm ∧ U.heap = h0) (fun _ _ _ _ _ => True) (fun _ U o U' => ∃ v L, o = .returned v ∧ (Q6_43 Z a1 x2 h0 n0) v U'.heap L ∧ FrameEnd U o U' L 0 0) := by
  refine MetFree.of_bodySF (plainFor_of_name pn_com_example_spindle_spindle_SpinRule) hisR ?_
  intro p e s m args below meth c s₁ Bd hml0 hP hK
  obtain ⟨rfl, hZ, hh⟩ := hP
  have hx := Bd.exec
  have hby := Bd.bytes
  have hml : c.maxLocals = 6 := hml0
  have hown : s.vm.findClass "com/example/spindle/spindle/SpinRule" = some m.cls := findClass_of_methodNamed Bd.named
  have hnm := (name_of_methodNamed Bd.named Bd.method).1
  have X0 : Stand p l e ({ frames := 0, cells := 0, slots := 0, locals := 0 } : Room) s m #[(.ref a1), (.int (1 : Int32)), (.int (1 : Int32)), (.long x2)] below meth c s₁ [] 0 0 := Stand.of_body Bd
  have e0 : s₁.heap = h0 := by rw [← hh, Bd.state]; rfl
  have N0 := Fr.nil n0
  refine GoW.mk ?_
  refine GoW.st (fun t k => castTop (ef6_rm6_43 m a1 x2) k) ?_
  show GoW p e below s (Q6_43 Z a1 x2 h0 n0) 0 0 (s₁.setTop (mkF m 0 (Sh8 a1 1 1 x2) []))
  refine GoW.sg (mkF m 1 (Sh8 a1 1 1 x2) [(.ref a1)]) (fun t k => XS.aloadN X0.here hx rfl (hb hby d6_0) rfl rfl k) ?_
  obtain ⟨T377, X377, e377, st377⟩ := getF X0 hx hZ hown (host := "") (Or.inl (ww hw 26 rfl)) Via.refl e0 P3 (g := (mkF m 1 (Sh8 a1 1 1 x2) [(.ref a1)])) rfl rfl (hb hby d6_1)
  refine GoW.sg (mkF m 4 (Sh8 a1 1 1 x2) [(.int 1)]) (fun t k => st377 t k) ?_
  refine GoW.sg (mkF m 7 (Sh8 a1 1 1 x2) []) (fun t k => XS.ifNo X377.here hx rfl (hb hby d6_4) rfl (by decide) k) ?_
  refine GoW.sg (mkF m 8 (Sh8 a1 1 1 x2) [(.int 1)]) (fun t k => XS.iloadN X377.here hx rfl (hb hby d6_7) rfl k) ?_
  refine GoW.sg (mkF m 20 (Sh8 a1 1 1 x2) []) (fun t k => XS.ifYes X377.here hx rfl (pc0 := 8) (pc' := 20) rfl (hb hby d6_8) rfl (by decide) (by decide) (by decide) k) ?_
  refine GoW.sg (mkF m 21 (Sh8 a1 1 1 x2) [(.int 1)]) (fun t k => XS.iloadN X377.here hx rfl (hb hby d6_20) rfl k) ?_
  refine GoW.sg (mkF m 24 (Sh8 a1 1 1 x2) []) (fun t k => XS.ifNo X377.here hx rfl (hb hby d6_21) rfl (by decide) k) ?_
  refine GoW.sg (mkF m 25 (Sh8 a1 1 1 x2) [(.int 1)]) (fun t k => XS.iloadN X377.here hx rfl (hb hby d6_24) rfl k) ?_
  refine GoW.sg (mkF m 28 (Sh8 a1 1 1 x2) []) (fun t k => XS.ifNo X377.here hx rfl (hb hby d6_25) rfl (by decide) k) ?_
  refine GoW.sg (mkF m 29 (Sh8 a1 1 1 x2) [(.long x2)]) (fun t k => XS.lloadN X377.here hx rfl (hb hby d6_28) rfl k) ?_
  refine GoW.sg (mkF m 32 (Sh8 a1 1 1 x2) [(.long 20000), (.long x2)]) (fun t k => X377.ldc2Long hx hown (mvT hZ (ww hw 28 rfl)) (g := (mkF m 29 (Sh8 a1 1 1 x2) [(.long x2)])) rfl (hb hby d6_29) t k) ?_
  refine GoW.sg (mkF m 33 (Sh8 a1 1 1 x2) [(.int (lcmpW x2 (20000 : Int64)))]) (fun t k => XS.lcmp X377.here hx rfl (hb hby d6_32) rfl k) ?_
  refine GoW.sg (mkF m 36 (Sh8 a1 1 1 x2) []) (fun t k => XS.ifNo X377.here hx rfl (hb hby d6_33) rfl ((if0 _ _).trans (tlt ((lw_lt _ _).mpr u0)).2.1) k) ?_
  refine GoW.sg (mkF m 37 (Sh8 a1 1 1 x2) [(.int 1)]) (fun t k => XS.iconst X377.here hx rfl (hb hby d6_36) k) ?_
  refine GoW.sg (mkF m 41 (Sh8 a1 1 1 x2) [(.int 1)]) (fun t k => XS.goto X377.here hx rfl (pc0 := 37) (pc' := 41) rfl (hb hby d6_37) (by decide) (by decide) k) ?_
  refine GoW.sg (mkF m 43 (Sh9 a1 1 1 x2 1) []) (fun t k => XS.istore X377.here hx rfl (hb hby d6_41) rfl (l' := (Sh9 a1 1 1 x2 1)) rfl k) ?_
  refine GoW.sg (mkF m 44 (Sh9 a1 1 1 x2 1) [(.ref a1)]) (fun t k => XS.aloadN X377.here hx rfl (hb hby d6_43) rfl rfl k) ?_
  refine GoW.sg (mkF m 45 (Sh9 a1 1 1 x2 1) [(.ref a1), (.ref a1)]) (fun t k => XS.dup X377.here hx rfl (hb hby d6_44) rfl rfl k) ?_
  obtain ⟨T378, X378, e378, st378⟩ := getF X377 hx hZ hown (host := "") (Or.inl (ww hw 11 rfl)) Via.refl e377 P1 (g := (mkF m 45 (Sh9 a1 1 1 x2 1) [(.ref a1), (.ref a1)])) rfl rfl (hb hby d6_45)
  refine GoW.sg (mkF m 48 (Sh9 a1 1 1 x2 1) [(.double 4597461529758007296), (.ref a1)]) (fun t k => st378 t k) ?_
  refine GoW.sg (mkF m 50 (Sh9 a1 1 1 x2 1) [(.int 1), (.double 4597461529758007296), (.ref a1)]) (fun t k => XS.iload X378.here hx rfl (hb hby d6_48) rfl k) ?_
  refine GoW.sg (mkF m 53 (Sh9 a1 1 1 x2 1) [(.double 4597461529758007296), (.ref a1)]) (fun t k => XS.ifNo X378.here hx rfl (hb hby d6_50) rfl (by decide) k) ?_
  refine GoW.sg (mkF m 54 (Sh9 a1 1 1 x2 1) [(.int 1), (.double 4597461529758007296), (.ref a1)]) (fun t k => XS.iconst X378.here hx rfl (hb hby d6_53) k) ?_
  refine GoW.sg (mkF m 58 (Sh9 a1 1 1 x2 1) [(.int 1), (.double 4597461529758007296), (.ref a1)]) (fun t k => XS.goto X378.here hx rfl (pc0 := 54) (pc' := 58) rfl (hb hby d6_54) (by decide) (by decide) k) ?_
  refine GoW.sg (mkF m 59 (Sh9 a1 1 1 x2 1) [(.double 4607182418800017408), (.double 4597461529758007296), (.ref a1)]) (fun t k => XS.i2dS X378.here hx rfl (hb hby d6_58) rfl (v := (4607182418800017408 : UInt64)) (by decide +kernel) k) ?_
  refine GoW.sg (mkF m 60 (Sh9 a1 1 1 x2 1) [(.ref a1), (.double 4607182418800017408), (.double 4597461529758007296), (.ref a1)]) (fun t k => XS.aloadN X378.here hx rfl (hb hby d6_59) rfl rfl k) ?_
  obtain ⟨T379, X379, e379, st379⟩ := getF X378 hx hZ hown (host := "") (Or.inl (ww hw 11 rfl)) Via.refl e378 P1 (g := (mkF m 60 (Sh9 a1 1 1 x2 1) [(.ref a1), (.double 4607182418800017408), (.double 4597461529758007296), (.ref a1)])) rfl rfl (hb hby d6_60)
  refine GoW.sg (mkF m 63 (Sh9 a1 1 1 x2 1) [(.double 4597461529758007296), (.double 4607182418800017408), (.double 4597461529758007296), (.ref a1)]) (fun t k => st379 t k) ?_
  refine GoW.sg (mkF m 64 (Sh9 a1 1 1 x2 1) [(.double 4605109041433149440), (.double 4597461529758007296), (.ref a1)]) (fun t k => XS.dsubS X379.here hx rfl (hb hby d6_63) rfl (v := (4605109041433149440 : UInt64)) (by decide +kernel) (by decide +kernel) k) ?_
  refine GoW.sg (mkF m 67 (Sh9 a1 1 1 x2 1) [(.double 4593671619917905920), (.double 4605109041433149440), (.double 4597461529758007296), (.ref a1)]) (fun t k => X379.ldc2DoubleC hx hown (mvT hZ (ww hw 40 rfl)) (g := (mkF m 64 (Sh9 a1 1 1 x2 1) [(.double 4605109041433149440), (.double 4597461529758007296), (.ref a1)])) rfl (hb hby d6_64) t k) ?_
  refine GoW.sg (mkF m 68 (Sh9 a1 1 1 x2 1) [(.double 4591598242551037952), (.double 4597461529758007296), (.ref a1)]) (fun t k => XS.dmulS X379.here hx rfl (hb hby d6_67) rfl (v := (4591598242551037952 : UInt64)) (by decide +kernel) (by decide +kernel) k) ?_
  refine GoW.sg (mkF m 69 (Sh9 a1 1 1 x2 1) [(.double 4599551830123610112), (.ref a1)]) (fun t k => XS.daddS X379.here hx rfl (hb hby d6_68) rfl (v := (4599551830123610112 : UInt64)) (by decide +kernel) (by decide +kernel) k) ?_
  obtain ⟨T380, h380, X380, e380, W380, st380⟩ := putF X379 hx hZ hown (host := "") (Or.inl (ww hw 11 rfl)) Via.refl e379 P1 P0 (Or.inl (ww hw 12 rfl)) (ww hw 3 rfl) (ty := .double) (by decide) rfl rfl (g := (mkF m 69 (Sh9 a1 1 1 x2 1) [(.double 4599551830123610112), (.ref a1)])) rfl rfl (hb hby d6_69)
  have N380 := Fr.snoc X380 N0 g_a1
  have Exa_a1_380 : Exa Z h380 a1 "com/example/spindle/spindle/SpinRule" := P0.wr W380
  have Fld_a1_handedOn_380 : Fld Z h380 a1 "com/example/spindle/spindle/SpinRule" "handedOn" "Z" (.int (0 : Int32)) := P2.other W380 (Or.inr (slot_ne (t := .boolean) (t' := .double) (Or.inl (ww hw 19 rfl)) (Or.inl (ww hw 12 rfl)) (by decide) (by decide) (by decide)))
  have Fld_a1_awaitsAnswer_380 : Fld Z h380 a1 "com/example/spindle/spindle/SpinRule" "awaitsAnswer" "Z" (.int (1 : Int32)) := P3.other W380 (Or.inr (slot_ne (t := .boolean) (t' := .double) (Or.inl (ww hw 27 rfl)) (Or.inl (ww hw 12 rfl)) (by decide) (by decide) (by decide)))
  have Keep_380 : Keep h0 h380 [a1] := (Keep.refl h0 [a1]).wr W380 (Or.inl (List.mem_of_getElem? (i := 0) rfl))
  have Fld_a1_answeredShare_380 : Fld Z h380 a1 "com/example/spindle/spindle/SpinRule" "answeredShare" "D" (.double (4599551830123610112 : UInt64)) := P1.same W380
  refine GoW.sg (mkF m 72 (Sh9 a1 1 1 x2 1) []) (fun t k => st380 t k) ?_
  refine GoW.retV X380 hx Bd.returns (hb hby d6_72) Bd.notSynchronized ?_ (by decide) (by decide)
  rw [e380]
  exact ⟨rfl, N380, Keep_380, Exa_a1_380, Fld_a1_answeredShare_380, Fld_a1_handedOn_380, Fld_a1_awaitsAnswer_380⟩
def Q3_44 (Z : State) (a1 : Addr) (h0 : Heap) (n0 : Nat) (v : Option Value) (h : Heap) (L : List Loc) : Prop := v = none ∧ Fr n0 L ∧ (Keep h0 h [a1]) ∧ (Exa Z h a1 "com/example/spindle/spindle/SpinRule") ∧ (Fld Z h a1 "com/example/spindle/spindle/SpinRule" "answeredShare" "D" (.double (4599551830123610112 : UInt64))) ∧ (Fld Z h a1 "com/example/spindle/spindle/SpinRule" "handedOn" "Z" (.int (1 : Int32))) ∧ (Fld Z h a1 "com/example/spindle/spindle/SpinRule" "awaitsAnswer" "Z" (.int (1 : Int32)))
theorem ef3_rm3_44 (m : MethodId) (a1 : Addr) : entryFrame m #[(.ref a1)] 1 = (mkF m 0 #[.val (.ref a1)] []) := by first | (simp [entryFrame, mkF, argsToLocals, Value.category, maxLocals]; done) | rfl
set_option maxRecDepth 65536 in
set_option maxHeartbeats 40000000 in
theorem rm3_44 (l : Launch) (Z : State) (a0 : Array Value) (hw : ∀ d ∈ tables_1, d.before a0 Z = true) (ws : List Jvm.Cond) (a1 : Addr)  (h0 : Heap) (n0 : Nat) (P0 : Exa Z h0 a1 "com/example/spindle/spindle/SpinRule") (P1 : Fld Z h0 a1 "com/example/spindle/spindle/SpinRule" "answeredShare" "D" (.double (4599551830123610112 : UInt64))) (P2 : Fld Z h0 a1 "com/example/spindle/spindle/SpinRule" "handedOn" "Z" (.int (0 : Int32))) (P3 : Fld Z h0 a1 "com/example/spindle/spindle/SpinRule" "awaitsAnswer" "Z" (.int (1 : Int32))) (g_a1 : n0 ≤ a1)    :
    MetFree l (⟨"com/example/spindle/spindle/SpinRule", "handedOn", "()V"⟩ : MethodName) (head1 (Jvm.Cond.code (⟨"com/example/spindle/spindle/SpinRule", "handedOn", "()V"⟩ : MethodName) prog_40_method_2_code 1 none :: ws) ({ frames := 0, cells := 0, slots := 0, locals := 0 } : Room)) (fun a U => a = #[(.ref a1)] ∧ Z.Warmed39 U.vm ∧ U.heap = h0) (fun _ _ _ _ _ => True) (fun _ U o U' => ∃ v L, o = .returned v ∧ (Q3_44 Z a1 h0 n0) v U'.heap L ∧ FrameEnd U o U' L 0 0) := by
  refine MetFree.of_bodySF (plainFor_of_name pn_com_example_spindle_spindle_SpinRule) hisR ?_
  intro p e s m args below meth c s₁ Bd hml0 hP hK
  obtain ⟨rfl, hZ, hh⟩ := hP
  have hx := Bd.exec
  have hby := Bd.bytes
  have hml : c.maxLocals = 1 := hml0
  have hown : s.vm.findClass "com/example/spindle/spindle/SpinRule" = some m.cls := findClass_of_methodNamed Bd.named
  have hnm := (name_of_methodNamed Bd.named Bd.method).1
  have X0 : Stand p l e ({ frames := 0, cells := 0, slots := 0, locals := 0 } : Room) s m #[(.ref a1)] below meth c s₁ [] 0 0 := Stand.of_body Bd
  have e0 : s₁.heap = h0 := by rw [← hh, Bd.state]; rfl
  have N0 := Fr.nil n0
  refine GoW.mk ?_
  refine GoW.st (fun t k => castTop (ef3_rm3_44 m a1) k) ?_
  show GoW p e below s (Q3_44 Z a1 h0 n0) 0 0 (s₁.setTop (mkF m 0 #[.val (.ref a1)] []))
  refine GoW.sg (mkF m 1 #[.val (.ref a1)] [(.ref a1)]) (fun t k => XS.aloadN X0.here hx rfl (hb hby d3_0) rfl rfl k) ?_
  refine GoW.sg (mkF m 2 #[.val (.ref a1)] [(.int 1), (.ref a1)]) (fun t k => XS.iconst X0.here hx rfl (hb hby d3_1) k) ?_
  obtain ⟨T383, h383, X383, e383, W383, st383⟩ := putF X0 hx hZ hown (host := "") (Or.inl (ww hw 18 rfl)) Via.refl e0 P2 P0 (Or.inl (ww hw 19 rfl)) (ww hw 3 rfl) (ty := .boolean) (by decide) rfl rfl (g := (mkF m 2 #[.val (.ref a1)] [(.int 1), (.ref a1)])) rfl rfl (hb hby d3_2)
  have N383 := Fr.snoc X383 N0 g_a1
  have Exa_a1_383 : Exa Z h383 a1 "com/example/spindle/spindle/SpinRule" := P0.wr W383
  have Fld_a1_answeredShare_383 : Fld Z h383 a1 "com/example/spindle/spindle/SpinRule" "answeredShare" "D" (.double (4599551830123610112 : UInt64)) := P1.other W383 (Or.inr (slot_ne (t := .double) (t' := .boolean) (Or.inl (ww hw 12 rfl)) (Or.inl (ww hw 19 rfl)) (by decide) (by decide) (by decide)))
  have Fld_a1_awaitsAnswer_383 : Fld Z h383 a1 "com/example/spindle/spindle/SpinRule" "awaitsAnswer" "Z" (.int (1 : Int32)) := P3.other W383 (Or.inr (slot_ne (t := .boolean) (t' := .boolean) (Or.inl (ww hw 27 rfl)) (Or.inl (ww hw 19 rfl)) (by decide) (by decide) (by decide)))
  have Keep_383 : Keep h0 h383 [a1] := (Keep.refl h0 [a1]).wr W383 (Or.inl (List.mem_of_getElem? (i := 0) rfl))
  have Fld_a1_handedOn_383 : Fld Z h383 a1 "com/example/spindle/spindle/SpinRule" "handedOn" "Z" (.int (1 : Int32)) := P2.same W383
  refine GoW.sg (mkF m 5 #[.val (.ref a1)] []) (fun t k => st383 t k) ?_
  refine GoW.retV X383 hx Bd.returns (hb hby d3_5) Bd.notSynchronized ?_ (by decide) (by decide)
  rw [e383]
  exact ⟨rfl, N383, Keep_383, Exa_a1_383, Fld_a1_answeredShare_383, Fld_a1_handedOn_383, Fld_a1_awaitsAnswer_383⟩
def Q4_45 (Z : State) (a1 : Addr) (h0 : Heap) (n0 : Nat) (v : Option Value) (h : Heap) (L : List Loc) : Prop := v = some (.long (20000 : Int64)) ∧ Fr n0 L ∧ (Keep h0 h [a1]) ∧ (Exa Z h a1 "com/example/spindle/spindle/SpinRule") ∧ (Fld Z h a1 "com/example/spindle/spindle/SpinRule" "answeredShare" "D" (.double (4599551830123610112 : UInt64))) ∧ (Fld Z h a1 "com/example/spindle/spindle/SpinRule" "handedOn" "Z" (.int (0 : Int32))) ∧ (Fld Z h a1 "com/example/spindle/spindle/SpinRule" "awaitsAnswer" "Z" (.int (1 : Int32)))
theorem ef4_rm4_45 (m : MethodId) (a1 : Addr) : entryFrame m #[(.ref a1), (.long (9223372036854775807 : Int64))] 3 = (mkF m 0 #[.val (.ref a1), .val (.long 9223372036854775807), .second] []) := by first | (simp [entryFrame, mkF, argsToLocals, Value.category, maxLocals]; done) | rfl
set_option maxRecDepth 65536 in
set_option maxHeartbeats 40000000 in
theorem rm4_45 (l : Launch) (Z : State) (a0 : Array Value) (hw : ∀ d ∈ tables_1, d.before a0 Z = true) (ws : List Jvm.Cond) (a1 : Addr)  (h0 : Heap) (n0 : Nat) (P0 : Exa Z h0 a1 "com/example/spindle/spindle/SpinRule") (P1 : Fld Z h0 a1 "com/example/spindle/spindle/SpinRule" "answeredShare" "D" (.double (4599551830123610112 : UInt64))) (P2 : Fld Z h0 a1 "com/example/spindle/spindle/SpinRule" "handedOn" "Z" (.int (1 : Int32))) (P3 : Fld Z h0 a1 "com/example/spindle/spindle/SpinRule" "awaitsAnswer" "Z" (.int (1 : Int32))) (g_a1 : n0 ≤ a1)    :
    MetFree l (⟨"com/example/spindle/spindle/SpinRule", "spinNanos", "(J)J"⟩ : MethodName) (head1 (Jvm.Cond.code (⟨"com/example/spindle/spindle/SpinRule", "spinNanos", "(J)J"⟩ : MethodName) prog_40_method_3_code 3 (some .long) :: ws) ({ frames := 0, cells := 0, slots := 0, locals := 0 } : Room)) (fun a U => a = #[(.ref a1), (.long (9223372036854775807 : Int64))] ∧ Z.Warmed39 U.vm ∧ U.heap = h0) (fun _ _ _ _ _ => True) (fun _ U o U' => ∃ v L, o = .returned v ∧ (Q4_45 Z a1 h0 n0) v U'.heap L ∧ FrameEnd U o U' L 0 0) := by
  refine MetFree.of_bodySF (plainFor_of_name pn_com_example_spindle_spindle_SpinRule) hisR ?_
  intro p e s m args below meth c s₁ Bd hml0 hP hK
  obtain ⟨rfl, hZ, hh⟩ := hP
  have hx := Bd.exec
  have hby := Bd.bytes
  have hml : c.maxLocals = 3 := hml0
  have hown : s.vm.findClass "com/example/spindle/spindle/SpinRule" = some m.cls := findClass_of_methodNamed Bd.named
  have hnm := (name_of_methodNamed Bd.named Bd.method).1
  have X0 : Stand p l e ({ frames := 0, cells := 0, slots := 0, locals := 0 } : Room) s m #[(.ref a1), (.long (9223372036854775807 : Int64))] below meth c s₁ [] 0 0 := Stand.of_body Bd
  have e0 : s₁.heap = h0 := by rw [← hh, Bd.state]; rfl
  have N0 := Fr.nil n0
  refine GoW.mk ?_
  refine GoW.st (fun t k => castTop (ef4_rm4_45 m a1) k) ?_
  show GoW p e below s (Q4_45 Z a1 h0 n0) 0 0 (s₁.setTop (mkF m 0 (Sh7 a1 9223372036854775807) []))
  refine GoW.sg (mkF m 1 (Sh7 a1 9223372036854775807) [(.ref a1)]) (fun t k => XS.aloadN X0.here hx rfl (hb hby d4_0) rfl rfl k) ?_
  refine GoW.sg (mkF m 2 (Sh7 a1 9223372036854775807) [(.ref a1), (.ref a1)]) (fun t k => XS.aloadN X0.here hx rfl (hb hby d4_1) rfl rfl k) ?_
  obtain ⟨T390, X390, e390, st390⟩ := getF X0 hx hZ hown (host := "") (Or.inl (ww hw 18 rfl)) Via.refl e0 P2 (g := (mkF m 2 (Sh7 a1 9223372036854775807) [(.ref a1), (.ref a1)])) rfl rfl (hb hby d4_2)
  refine GoW.sg (mkF m 5 (Sh7 a1 9223372036854775807) [(.int 1), (.ref a1)]) (fun t k => st390 t k) ?_
  obtain ⟨T391, h391, X391, e391, W391, st391⟩ := putF X390 hx hZ hown (host := "") (Or.inl (ww hw 26 rfl)) Via.refl e390 P3 P0 (Or.inl (ww hw 27 rfl)) (ww hw 3 rfl) (ty := .boolean) (by decide) rfl rfl (g := (mkF m 5 (Sh7 a1 9223372036854775807) [(.int 1), (.ref a1)])) rfl rfl (hb hby d4_5)
  have N391 := Fr.snoc X391 N0 g_a1
  have Exa_a1_391 : Exa Z h391 a1 "com/example/spindle/spindle/SpinRule" := P0.wr W391
  have Fld_a1_answeredShare_391 : Fld Z h391 a1 "com/example/spindle/spindle/SpinRule" "answeredShare" "D" (.double (4599551830123610112 : UInt64)) := P1.other W391 (Or.inr (slot_ne (t := .double) (t' := .boolean) (Or.inl (ww hw 12 rfl)) (Or.inl (ww hw 27 rfl)) (by decide) (by decide) (by decide)))
  have Fld_a1_handedOn_391 : Fld Z h391 a1 "com/example/spindle/spindle/SpinRule" "handedOn" "Z" (.int (1 : Int32)) := P2.other W391 (Or.inr (slot_ne (t := .boolean) (t' := .boolean) (Or.inl (ww hw 19 rfl)) (Or.inl (ww hw 27 rfl)) (by decide) (by decide) (by decide)))
  have Keep_391 : Keep h0 h391 [a1] := (Keep.refl h0 [a1]).wr W391 (Or.inl (List.mem_of_getElem? (i := 0) rfl))
  have Fld_a1_awaitsAnswer_391 : Fld Z h391 a1 "com/example/spindle/spindle/SpinRule" "awaitsAnswer" "Z" (.int (1 : Int32)) := P3.same W391
  refine GoW.sg (mkF m 8 (Sh7 a1 9223372036854775807) []) (fun t k => st391 t k) ?_
  refine GoW.sg (mkF m 9 (Sh7 a1 9223372036854775807) [(.ref a1)]) (fun t k => XS.aloadN X391.here hx rfl (hb hby d4_8) rfl rfl k) ?_
  refine GoW.sg (mkF m 10 (Sh7 a1 9223372036854775807) [(.int 0), (.ref a1)]) (fun t k => XS.iconst X391.here hx rfl (hb hby d4_9) k) ?_
  obtain ⟨T392, h392, X392, e392, W392, st392⟩ := putF X391 hx hZ hown (host := "") (Or.inl (ww hw 18 rfl)) Via.refl e391 Fld_a1_handedOn_391 Exa_a1_391 (Or.inl (ww hw 19 rfl)) (ww hw 3 rfl) (ty := .boolean) (by decide) rfl rfl (g := (mkF m 10 (Sh7 a1 9223372036854775807) [(.int 0), (.ref a1)])) rfl rfl (hb hby d4_10)
  have N392 := Fr.snoc X392 N391 g_a1
  have Exa_a1_392 : Exa Z h392 a1 "com/example/spindle/spindle/SpinRule" := Exa_a1_391.wr W392
  have Fld_a1_answeredShare_392 : Fld Z h392 a1 "com/example/spindle/spindle/SpinRule" "answeredShare" "D" (.double (4599551830123610112 : UInt64)) := Fld_a1_answeredShare_391.other W392 (Or.inr (slot_ne (t := .double) (t' := .boolean) (Or.inl (ww hw 12 rfl)) (Or.inl (ww hw 19 rfl)) (by decide) (by decide) (by decide)))
  have Fld_a1_awaitsAnswer_392 : Fld Z h392 a1 "com/example/spindle/spindle/SpinRule" "awaitsAnswer" "Z" (.int (1 : Int32)) := Fld_a1_awaitsAnswer_391.other W392 (Or.inr (slot_ne (t := .boolean) (t' := .boolean) (Or.inl (ww hw 27 rfl)) (Or.inl (ww hw 19 rfl)) (by decide) (by decide) (by decide)))
  have Keep_392 : Keep h0 h392 [a1] := Keep_391.wr W392 (Or.inl (List.mem_of_getElem? (i := 0) rfl))
  have Fld_a1_handedOn_392 : Fld Z h392 a1 "com/example/spindle/spindle/SpinRule" "handedOn" "Z" (.int (0 : Int32)) := Fld_a1_handedOn_391.same W392
  refine GoW.sg (mkF m 13 (Sh7 a1 9223372036854775807) []) (fun t k => st392 t k) ?_
  refine GoW.sg (mkF m 14 (Sh7 a1 9223372036854775807) [(.long 9223372036854775807)]) (fun t k => XS.lloadN X392.here hx rfl (hb hby d4_13) rfl k) ?_
  refine GoW.sg (mkF m 17 (Sh7 a1 9223372036854775807) [(.long 20000), (.long 9223372036854775807)]) (fun t k => X392.ldc2Long hx hown (mvT hZ (ww hw 28 rfl)) (g := (mkF m 14 (Sh7 a1 9223372036854775807) [(.long 9223372036854775807)])) rfl (hb hby d4_14) t k) ?_
  refine GoW.sg (mkF m 18 (Sh7 a1 9223372036854775807) [(.int (lcmpW (9223372036854775807 : Int64) (20000 : Int64)))]) (fun t k => XS.lcmp X392.here hx rfl (hb hby d4_17) rfl k) ?_
  refine GoW.sg (mkF m 23 (Sh7 a1 9223372036854775807) []) (fun t k => XS.ifYes X392.here hx rfl (pc0 := 18) (pc' := 23) rfl (hb hby d4_18) rfl (by decide) (by decide) (by decide) k) ?_
  refine GoW.sg (mkF m 24 (Sh7 a1 9223372036854775807) [(.ref a1)]) (fun t k => XS.aloadN X392.here hx rfl (hb hby d4_23) rfl rfl k) ?_
  obtain ⟨T393, X393, e393, st393⟩ := getF X392 hx hZ hown (host := "") (Or.inl (ww hw 26 rfl)) Via.refl e392 Fld_a1_awaitsAnswer_392 (g := (mkF m 24 (Sh7 a1 9223372036854775807) [(.ref a1)])) rfl rfl (hb hby d4_24)
  refine GoW.sg (mkF m 27 (Sh7 a1 9223372036854775807) [(.int 1)]) (fun t k => st393 t k) ?_
  refine GoW.sg (mkF m 30 (Sh7 a1 9223372036854775807) []) (fun t k => XS.ifNo X393.here hx rfl (hb hby d4_27) rfl (by decide) k) ?_
  refine GoW.sg (mkF m 31 (Sh7 a1 9223372036854775807) [(.ref a1)]) (fun t k => XS.aloadN X393.here hx rfl (hb hby d4_30) rfl rfl k) ?_
  obtain ⟨T394, X394, e394, st394⟩ := getF X393 hx hZ hown (host := "") (Or.inl (ww hw 11 rfl)) Via.refl e393 Fld_a1_answeredShare_392 (g := (mkF m 31 (Sh7 a1 9223372036854775807) [(.ref a1)])) rfl rfl (hb hby d4_31)
  refine GoW.sg (mkF m 34 (Sh7 a1 9223372036854775807) [(.double 4599551830123610112)]) (fun t k => st394 t k) ?_
  refine GoW.sg (mkF m 37 (Sh7 a1 9223372036854775807) [(.double 4598175219545276416), (.double 4599551830123610112)]) (fun t k => X394.ldc2DoubleC hx hown (mvT hZ (ww hw 29 rfl)) (g := (mkF m 34 (Sh7 a1 9223372036854775807) [(.double 4599551830123610112)])) rfl (hb hby d4_34) t k) ?_
  refine GoW.sg (mkF m 38 (Sh7 a1 9223372036854775807) [(.int 1)]) (fun t k => XS.dcmpS X394.here hx rfl (hb hby d4_37) rfl (v := (1 : Int32)) (by decide +kernel) k) ?_
  refine GoW.sg (mkF m 41 (Sh7 a1 9223372036854775807) []) (fun t k => XS.ifNo X394.here hx rfl (hb hby d4_38) rfl (by decide) k) ?_
  refine GoW.sg (mkF m 44 (Sh7 a1 9223372036854775807) [(.long 20000)]) (fun t k => X394.ldc2Long hx hown (mvT hZ (ww hw 28 rfl)) (g := (mkF m 41 (Sh7 a1 9223372036854775807) [])) rfl (hb hby d4_41) t k) ?_
  refine GoW.sg (mkF m 48 (Sh7 a1 9223372036854775807) [(.long 20000)]) (fun t k => XS.goto X394.here hx rfl (pc0 := 44) (pc' := 48) rfl (hb hby d4_44) (by decide) (by decide) k) ?_
  refine GoW.retL X394 hx Bd.returns (hb hby d4_48) Bd.notSynchronized ?_ (by decide) (by decide)
  rw [e394]
  exact ⟨rfl, N392, Keep_392, Exa_a1_392, Fld_a1_answeredShare_392, Fld_a1_handedOn_392, Fld_a1_awaitsAnswer_392⟩
def Q6_46 (Z : State) (a1 : Addr) (x2 : Int64) (h0 : Heap) (n0 : Nat) (v : Option Value) (h : Heap) (L : List Loc) : Prop := v = none ∧ Fr n0 L ∧ (Keep h0 h [a1]) ∧ (Exa Z h a1 "com/example/spindle/spindle/SpinRule") ∧ (Fld Z h a1 "com/example/spindle/spindle/SpinRule" "answeredShare" "D" (.double (4596424841074573312 : UInt64))) ∧ (Fld Z h a1 "com/example/spindle/spindle/SpinRule" "handedOn" "Z" (.int (0 : Int32))) ∧ (Fld Z h a1 "com/example/spindle/spindle/SpinRule" "awaitsAnswer" "Z" (.int (1 : Int32)))
theorem ef6_rm6_46 (m : MethodId) (a1 : Addr) (x2 : Int64) : entryFrame m #[(.ref a1), (.int (0 : Int32)), (.int (0 : Int32)), (.long x2)] 6 = (mkF m 0 #[.val (.ref a1), .val (.int 0), .val (.int 0), .val (.long x2), .second, .unset] []) := by first | (simp [entryFrame, mkF, argsToLocals, Value.category, maxLocals]; done) | rfl
set_option maxRecDepth 65536 in
set_option maxHeartbeats 40000000 in
theorem rm6_46 (l : Launch) (Z : State) (a0 : Array Value) (hw : ∀ d ∈ tables_1, d.before a0 Z = true) (ws : List Jvm.Cond) (a1 : Addr) (x2 : Int64)  (h0 : Heap) (n0 : Nat) (P0 : Exa Z h0 a1 "com/example/spindle/spindle/SpinRule") (P1 : Fld Z h0 a1 "com/example/spindle/spindle/SpinRule" "answeredShare" "D" (.double (4597461529758007296 : UInt64))) (P2 : Fld Z h0 a1 "com/example/spindle/spindle/SpinRule" "handedOn" "Z" (.int (0 : Int32))) (P3 : Fld Z h0 a1 "com/example/spindle/spindle/SpinRule" "awaitsAnswer" "Z" (.int (1 : Int32))) (g_a1 : n0 ≤ a1)  (u0 : ¬ (x2 < (20000 : Int64)))  :
    MetFree l (⟨"com/example/spindle/spindle/SpinRule", "countWait", "(ZZJ)V"⟩ : MethodName) (head1 (Jvm.Cond.code (⟨"com/example/spindle/spindle/SpinRule", "countWait", "(ZZJ)V"⟩ : MethodName) prog_40_method_5_code 6 none :: ws) ({ frames := 0, cells := 0, slots := 0, locals := 0 } : Room)) (fun a U => a = #[(.ref a1), (.int (0 : Int32)), (.int (0 : Int32)), (.long x2)] ∧ Z.Warmed39 U.vm ∧ U.heap = h0) (fun _ _ _ _ _ => True) (fun _ U o U' => ∃ v L, o = .returned v ∧ (Q6_46 Z a1 x2 h0 n0) v U'.heap L ∧ FrameEnd U o U' L 0 0) := by
  refine MetFree.of_bodySF (plainFor_of_name pn_com_example_spindle_spindle_SpinRule) hisR ?_
  intro p e s m args below meth c s₁ Bd hml0 hP hK
  obtain ⟨rfl, hZ, hh⟩ := hP
  have hx := Bd.exec
  have hby := Bd.bytes
  have hml : c.maxLocals = 6 := hml0
  have hown : s.vm.findClass "com/example/spindle/spindle/SpinRule" = some m.cls := findClass_of_methodNamed Bd.named
  have hnm := (name_of_methodNamed Bd.named Bd.method).1
  have X0 : Stand p l e ({ frames := 0, cells := 0, slots := 0, locals := 0 } : Room) s m #[(.ref a1), (.int (0 : Int32)), (.int (0 : Int32)), (.long x2)] below meth c s₁ [] 0 0 := Stand.of_body Bd
  have e0 : s₁.heap = h0 := by rw [← hh, Bd.state]; rfl
  have N0 := Fr.nil n0
  refine GoW.mk ?_
  refine GoW.st (fun t k => castTop (ef6_rm6_46 m a1 x2) k) ?_
  show GoW p e below s (Q6_46 Z a1 x2 h0 n0) 0 0 (s₁.setTop (mkF m 0 (Sh8 a1 0 0 x2) []))
  refine GoW.sg (mkF m 1 (Sh8 a1 0 0 x2) [(.ref a1)]) (fun t k => XS.aloadN X0.here hx rfl (hb hby d6_0) rfl rfl k) ?_
  obtain ⟨T400, X400, e400, st400⟩ := getF X0 hx hZ hown (host := "") (Or.inl (ww hw 26 rfl)) Via.refl e0 P3 (g := (mkF m 1 (Sh8 a1 0 0 x2) [(.ref a1)])) rfl rfl (hb hby d6_1)
  refine GoW.sg (mkF m 4 (Sh8 a1 0 0 x2) [(.int 1)]) (fun t k => st400 t k) ?_
  refine GoW.sg (mkF m 7 (Sh8 a1 0 0 x2) []) (fun t k => XS.ifNo X400.here hx rfl (hb hby d6_4) rfl (by decide) k) ?_
  refine GoW.sg (mkF m 8 (Sh8 a1 0 0 x2) [(.int 0)]) (fun t k => XS.iloadN X400.here hx rfl (hb hby d6_7) rfl k) ?_
  refine GoW.sg (mkF m 11 (Sh8 a1 0 0 x2) []) (fun t k => XS.ifNo X400.here hx rfl (hb hby d6_8) rfl (by decide) k) ?_
  refine GoW.sg (mkF m 12 (Sh8 a1 0 0 x2) [(.long x2)]) (fun t k => XS.lloadN X400.here hx rfl (hb hby d6_11) rfl k) ?_
  refine GoW.sg (mkF m 15 (Sh8 a1 0 0 x2) [(.long 20000), (.long x2)]) (fun t k => X400.ldc2Long hx hown (mvT hZ (ww hw 28 rfl)) (g := (mkF m 12 (Sh8 a1 0 0 x2) [(.long x2)])) rfl (hb hby d6_12) t k) ?_
  refine GoW.sg (mkF m 16 (Sh8 a1 0 0 x2) [(.int (lcmpW x2 (20000 : Int64)))]) (fun t k => XS.lcmp X400.here hx rfl (hb hby d6_15) rfl k) ?_
  refine GoW.sg (mkF m 20 (Sh8 a1 0 0 x2) []) (fun t k => XS.ifYes X400.here hx rfl (pc0 := 16) (pc' := 20) rfl (hb hby d6_16) rfl ((if0 _ _).trans (flt (mt (lw_lt _ _).mp u0)).2.1) (by decide) (by decide) k) ?_
  refine GoW.sg (mkF m 21 (Sh8 a1 0 0 x2) [(.int 0)]) (fun t k => XS.iloadN X400.here hx rfl (hb hby d6_20) rfl k) ?_
  refine GoW.sg (mkF m 40 (Sh8 a1 0 0 x2) []) (fun t k => XS.ifYes X400.here hx rfl (pc0 := 21) (pc' := 40) rfl (hb hby d6_21) rfl (by decide) (by decide) (by decide) k) ?_
  refine GoW.sg (mkF m 41 (Sh8 a1 0 0 x2) [(.int 0)]) (fun t k => XS.iconst X400.here hx rfl (hb hby d6_40) k) ?_
  refine GoW.sg (mkF m 43 (Sh9 a1 0 0 x2 0) []) (fun t k => XS.istore X400.here hx rfl (hb hby d6_41) rfl (l' := (Sh9 a1 0 0 x2 0)) rfl k) ?_
  refine GoW.sg (mkF m 44 (Sh9 a1 0 0 x2 0) [(.ref a1)]) (fun t k => XS.aloadN X400.here hx rfl (hb hby d6_43) rfl rfl k) ?_
  refine GoW.sg (mkF m 45 (Sh9 a1 0 0 x2 0) [(.ref a1), (.ref a1)]) (fun t k => XS.dup X400.here hx rfl (hb hby d6_44) rfl rfl k) ?_
  obtain ⟨T401, X401, e401, st401⟩ := getF X400 hx hZ hown (host := "") (Or.inl (ww hw 11 rfl)) Via.refl e400 P1 (g := (mkF m 45 (Sh9 a1 0 0 x2 0) [(.ref a1), (.ref a1)])) rfl rfl (hb hby d6_45)
  refine GoW.sg (mkF m 48 (Sh9 a1 0 0 x2 0) [(.double 4597461529758007296), (.ref a1)]) (fun t k => st401 t k) ?_
  refine GoW.sg (mkF m 50 (Sh9 a1 0 0 x2 0) [(.int 0), (.double 4597461529758007296), (.ref a1)]) (fun t k => XS.iload X401.here hx rfl (hb hby d6_48) rfl k) ?_
  refine GoW.sg (mkF m 57 (Sh9 a1 0 0 x2 0) [(.double 4597461529758007296), (.ref a1)]) (fun t k => XS.ifYes X401.here hx rfl (pc0 := 50) (pc' := 57) rfl (hb hby d6_50) rfl (by decide) (by decide) (by decide) k) ?_
  refine GoW.sg (mkF m 58 (Sh9 a1 0 0 x2 0) [(.int 0), (.double 4597461529758007296), (.ref a1)]) (fun t k => XS.iconst X401.here hx rfl (hb hby d6_57) k) ?_
  refine GoW.sg (mkF m 59 (Sh9 a1 0 0 x2 0) [(.double 0), (.double 4597461529758007296), (.ref a1)]) (fun t k => XS.i2dS X401.here hx rfl (hb hby d6_58) rfl (v := (0 : UInt64)) (by decide +kernel) k) ?_
  refine GoW.sg (mkF m 60 (Sh9 a1 0 0 x2 0) [(.ref a1), (.double 0), (.double 4597461529758007296), (.ref a1)]) (fun t k => XS.aloadN X401.here hx rfl (hb hby d6_59) rfl rfl k) ?_
  obtain ⟨T402, X402, e402, st402⟩ := getF X401 hx hZ hown (host := "") (Or.inl (ww hw 11 rfl)) Via.refl e401 P1 (g := (mkF m 60 (Sh9 a1 0 0 x2 0) [(.ref a1), (.double 0), (.double 4597461529758007296), (.ref a1)])) rfl rfl (hb hby d6_60)
  refine GoW.sg (mkF m 63 (Sh9 a1 0 0 x2 0) [(.double 4597461529758007296), (.double 0), (.double 4597461529758007296), (.ref a1)]) (fun t k => st402 t k) ?_
  refine GoW.sg (mkF m 64 (Sh9 a1 0 0 x2 0) [(.double 13820833566612783104), (.double 4597461529758007296), (.ref a1)]) (fun t k => XS.dsubS X402.here hx rfl (hb hby d6_63) rfl (v := (13820833566612783104 : UInt64)) (by decide +kernel) (by decide +kernel) k) ?_
  refine GoW.sg (mkF m 67 (Sh9 a1 0 0 x2 0) [(.double 4593671619917905920), (.double 13820833566612783104), (.double 4597461529758007296), (.ref a1)]) (fun t k => X402.ldc2DoubleC hx hown (mvT hZ (ww hw 40 rfl)) (g := (mkF m 64 (Sh9 a1 0 0 x2 0) [(.double 13820833566612783104), (.double 4597461529758007296), (.ref a1)])) rfl (hb hby d6_64) t k) ?_
  refine GoW.sg (mkF m 68 (Sh9 a1 0 0 x2 0) [(.double 13807322767730671616), (.double 4597461529758007296), (.ref a1)]) (fun t k => XS.dmulS X402.here hx rfl (hb hby d6_67) rfl (v := (13807322767730671616 : UInt64)) (by decide +kernel) (by decide +kernel) k) ?_
  refine GoW.sg (mkF m 69 (Sh9 a1 0 0 x2 0) [(.double 4596424841074573312), (.ref a1)]) (fun t k => XS.daddS X402.here hx rfl (hb hby d6_68) rfl (v := (4596424841074573312 : UInt64)) (by decide +kernel) (by decide +kernel) k) ?_
  obtain ⟨T403, h403, X403, e403, W403, st403⟩ := putF X402 hx hZ hown (host := "") (Or.inl (ww hw 11 rfl)) Via.refl e402 P1 P0 (Or.inl (ww hw 12 rfl)) (ww hw 3 rfl) (ty := .double) (by decide) rfl rfl (g := (mkF m 69 (Sh9 a1 0 0 x2 0) [(.double 4596424841074573312), (.ref a1)])) rfl rfl (hb hby d6_69)
  have N403 := Fr.snoc X403 N0 g_a1
  have Exa_a1_403 : Exa Z h403 a1 "com/example/spindle/spindle/SpinRule" := P0.wr W403
  have Fld_a1_handedOn_403 : Fld Z h403 a1 "com/example/spindle/spindle/SpinRule" "handedOn" "Z" (.int (0 : Int32)) := P2.other W403 (Or.inr (slot_ne (t := .boolean) (t' := .double) (Or.inl (ww hw 19 rfl)) (Or.inl (ww hw 12 rfl)) (by decide) (by decide) (by decide)))
  have Fld_a1_awaitsAnswer_403 : Fld Z h403 a1 "com/example/spindle/spindle/SpinRule" "awaitsAnswer" "Z" (.int (1 : Int32)) := P3.other W403 (Or.inr (slot_ne (t := .boolean) (t' := .double) (Or.inl (ww hw 27 rfl)) (Or.inl (ww hw 12 rfl)) (by decide) (by decide) (by decide)))
  have Keep_403 : Keep h0 h403 [a1] := (Keep.refl h0 [a1]).wr W403 (Or.inl (List.mem_of_getElem? (i := 0) rfl))
  have Fld_a1_answeredShare_403 : Fld Z h403 a1 "com/example/spindle/spindle/SpinRule" "answeredShare" "D" (.double (4596424841074573312 : UInt64)) := P1.same W403
  refine GoW.sg (mkF m 72 (Sh9 a1 0 0 x2 0) []) (fun t k => st403 t k) ?_
  refine GoW.retV X403 hx Bd.returns (hb hby d6_72) Bd.notSynchronized ?_ (by decide) (by decide)
  rw [e403]
  exact ⟨rfl, N403, Keep_403, Exa_a1_403, Fld_a1_answeredShare_403, Fld_a1_handedOn_403, Fld_a1_awaitsAnswer_403⟩
def Q6_47 (Z : State) (a1 : Addr) (x2 : Int64) (h0 : Heap) (n0 : Nat) (v : Option Value) (h : Heap) (L : List Loc) : Prop := v = none ∧ Fr n0 L ∧ (Keep h0 h [a1]) ∧ (Exa Z h a1 "com/example/spindle/spindle/SpinRule") ∧ (Fld Z h a1 "com/example/spindle/spindle/SpinRule" "answeredShare" "D" (.double (4596424841074573312 : UInt64))) ∧ (Fld Z h a1 "com/example/spindle/spindle/SpinRule" "handedOn" "Z" (.int (0 : Int32))) ∧ (Fld Z h a1 "com/example/spindle/spindle/SpinRule" "awaitsAnswer" "Z" (.int (1 : Int32)))
theorem ef6_rm6_47 (m : MethodId) (a1 : Addr) (x2 : Int64) : entryFrame m #[(.ref a1), (.int (0 : Int32)), (.int (1 : Int32)), (.long x2)] 6 = (mkF m 0 #[.val (.ref a1), .val (.int 0), .val (.int 1), .val (.long x2), .second, .unset] []) := by first | (simp [entryFrame, mkF, argsToLocals, Value.category, maxLocals]; done) | rfl
set_option maxRecDepth 65536 in
set_option maxHeartbeats 40000000 in
theorem rm6_47 (l : Launch) (Z : State) (a0 : Array Value) (hw : ∀ d ∈ tables_1, d.before a0 Z = true) (ws : List Jvm.Cond) (a1 : Addr) (x2 : Int64)  (h0 : Heap) (n0 : Nat) (P0 : Exa Z h0 a1 "com/example/spindle/spindle/SpinRule") (P1 : Fld Z h0 a1 "com/example/spindle/spindle/SpinRule" "answeredShare" "D" (.double (4597461529758007296 : UInt64))) (P2 : Fld Z h0 a1 "com/example/spindle/spindle/SpinRule" "handedOn" "Z" (.int (0 : Int32))) (P3 : Fld Z h0 a1 "com/example/spindle/spindle/SpinRule" "awaitsAnswer" "Z" (.int (1 : Int32))) (g_a1 : n0 ≤ a1)  (u0 : ¬ (x2 < (20000 : Int64)))  :
    MetFree l (⟨"com/example/spindle/spindle/SpinRule", "countWait", "(ZZJ)V"⟩ : MethodName) (head1 (Jvm.Cond.code (⟨"com/example/spindle/spindle/SpinRule", "countWait", "(ZZJ)V"⟩ : MethodName) prog_40_method_5_code 6 none :: ws) ({ frames := 0, cells := 0, slots := 0, locals := 0 } : Room)) (fun a U => a = #[(.ref a1), (.int (0 : Int32)), (.int (1 : Int32)), (.long x2)] ∧ Z.Warmed39 U.vm ∧ U.heap = h0) (fun _ _ _ _ _ => True) (fun _ U o U' => ∃ v L, o = .returned v ∧ (Q6_47 Z a1 x2 h0 n0) v U'.heap L ∧ FrameEnd U o U' L 0 0) := by
  refine MetFree.of_bodySF (plainFor_of_name pn_com_example_spindle_spindle_SpinRule) hisR ?_
  intro p e s m args below meth c s₁ Bd hml0 hP hK
  obtain ⟨rfl, hZ, hh⟩ := hP
  have hx := Bd.exec
  have hby := Bd.bytes
  have hml : c.maxLocals = 6 := hml0
  have hown : s.vm.findClass "com/example/spindle/spindle/SpinRule" = some m.cls := findClass_of_methodNamed Bd.named
  have hnm := (name_of_methodNamed Bd.named Bd.method).1
  have X0 : Stand p l e ({ frames := 0, cells := 0, slots := 0, locals := 0 } : Room) s m #[(.ref a1), (.int (0 : Int32)), (.int (1 : Int32)), (.long x2)] below meth c s₁ [] 0 0 := Stand.of_body Bd
  have e0 : s₁.heap = h0 := by rw [← hh, Bd.state]; rfl
  have N0 := Fr.nil n0
  refine GoW.mk ?_
  refine GoW.st (fun t k => castTop (ef6_rm6_47 m a1 x2) k) ?_
  show GoW p e below s (Q6_47 Z a1 x2 h0 n0) 0 0 (s₁.setTop (mkF m 0 (Sh8 a1 0 1 x2) []))
  refine GoW.sg (mkF m 1 (Sh8 a1 0 1 x2) [(.ref a1)]) (fun t k => XS.aloadN X0.here hx rfl (hb hby d6_0) rfl rfl k) ?_
  obtain ⟨T411, X411, e411, st411⟩ := getF X0 hx hZ hown (host := "") (Or.inl (ww hw 26 rfl)) Via.refl e0 P3 (g := (mkF m 1 (Sh8 a1 0 1 x2) [(.ref a1)])) rfl rfl (hb hby d6_1)
  refine GoW.sg (mkF m 4 (Sh8 a1 0 1 x2) [(.int 1)]) (fun t k => st411 t k) ?_
  refine GoW.sg (mkF m 7 (Sh8 a1 0 1 x2) []) (fun t k => XS.ifNo X411.here hx rfl (hb hby d6_4) rfl (by decide) k) ?_
  refine GoW.sg (mkF m 8 (Sh8 a1 0 1 x2) [(.int 0)]) (fun t k => XS.iloadN X411.here hx rfl (hb hby d6_7) rfl k) ?_
  refine GoW.sg (mkF m 11 (Sh8 a1 0 1 x2) []) (fun t k => XS.ifNo X411.here hx rfl (hb hby d6_8) rfl (by decide) k) ?_
  refine GoW.sg (mkF m 12 (Sh8 a1 0 1 x2) [(.long x2)]) (fun t k => XS.lloadN X411.here hx rfl (hb hby d6_11) rfl k) ?_
  refine GoW.sg (mkF m 15 (Sh8 a1 0 1 x2) [(.long 20000), (.long x2)]) (fun t k => X411.ldc2Long hx hown (mvT hZ (ww hw 28 rfl)) (g := (mkF m 12 (Sh8 a1 0 1 x2) [(.long x2)])) rfl (hb hby d6_12) t k) ?_
  refine GoW.sg (mkF m 16 (Sh8 a1 0 1 x2) [(.int (lcmpW x2 (20000 : Int64)))]) (fun t k => XS.lcmp X411.here hx rfl (hb hby d6_15) rfl k) ?_
  refine GoW.sg (mkF m 20 (Sh8 a1 0 1 x2) []) (fun t k => XS.ifYes X411.here hx rfl (pc0 := 16) (pc' := 20) rfl (hb hby d6_16) rfl ((if0 _ _).trans (flt (mt (lw_lt _ _).mp u0)).2.1) (by decide) (by decide) k) ?_
  refine GoW.sg (mkF m 21 (Sh8 a1 0 1 x2) [(.int 0)]) (fun t k => XS.iloadN X411.here hx rfl (hb hby d6_20) rfl k) ?_
  refine GoW.sg (mkF m 40 (Sh8 a1 0 1 x2) []) (fun t k => XS.ifYes X411.here hx rfl (pc0 := 21) (pc' := 40) rfl (hb hby d6_21) rfl (by decide) (by decide) (by decide) k) ?_
  refine GoW.sg (mkF m 41 (Sh8 a1 0 1 x2) [(.int 0)]) (fun t k => XS.iconst X411.here hx rfl (hb hby d6_40) k) ?_
  refine GoW.sg (mkF m 43 (Sh9 a1 0 1 x2 0) []) (fun t k => XS.istore X411.here hx rfl (hb hby d6_41) rfl (l' := (Sh9 a1 0 1 x2 0)) rfl k) ?_
  refine GoW.sg (mkF m 44 (Sh9 a1 0 1 x2 0) [(.ref a1)]) (fun t k => XS.aloadN X411.here hx rfl (hb hby d6_43) rfl rfl k) ?_
  refine GoW.sg (mkF m 45 (Sh9 a1 0 1 x2 0) [(.ref a1), (.ref a1)]) (fun t k => XS.dup X411.here hx rfl (hb hby d6_44) rfl rfl k) ?_
  obtain ⟨T412, X412, e412, st412⟩ := getF X411 hx hZ hown (host := "") (Or.inl (ww hw 11 rfl)) Via.refl e411 P1 (g := (mkF m 45 (Sh9 a1 0 1 x2 0) [(.ref a1), (.ref a1)])) rfl rfl (hb hby d6_45)
  refine GoW.sg (mkF m 48 (Sh9 a1 0 1 x2 0) [(.double 4597461529758007296), (.ref a1)]) (fun t k => st412 t k) ?_
  refine GoW.sg (mkF m 50 (Sh9 a1 0 1 x2 0) [(.int 0), (.double 4597461529758007296), (.ref a1)]) (fun t k => XS.iload X412.here hx rfl (hb hby d6_48) rfl k) ?_
  refine GoW.sg (mkF m 57 (Sh9 a1 0 1 x2 0) [(.double 4597461529758007296), (.ref a1)]) (fun t k => XS.ifYes X412.here hx rfl (pc0 := 50) (pc' := 57) rfl (hb hby d6_50) rfl (by decide) (by decide) (by decide) k) ?_
  refine GoW.sg (mkF m 58 (Sh9 a1 0 1 x2 0) [(.int 0), (.double 4597461529758007296), (.ref a1)]) (fun t k => XS.iconst X412.here hx rfl (hb hby d6_57) k) ?_
  refine GoW.sg (mkF m 59 (Sh9 a1 0 1 x2 0) [(.double 0), (.double 4597461529758007296), (.ref a1)]) (fun t k => XS.i2dS X412.here hx rfl (hb hby d6_58) rfl (v := (0 : UInt64)) (by decide +kernel) k) ?_
  refine GoW.sg (mkF m 60 (Sh9 a1 0 1 x2 0) [(.ref a1), (.double 0), (.double 4597461529758007296), (.ref a1)]) (fun t k => XS.aloadN X412.here hx rfl (hb hby d6_59) rfl rfl k) ?_
  obtain ⟨T413, X413, e413, st413⟩ := getF X412 hx hZ hown (host := "") (Or.inl (ww hw 11 rfl)) Via.refl e412 P1 (g := (mkF m 60 (Sh9 a1 0 1 x2 0) [(.ref a1), (.double 0), (.double 4597461529758007296), (.ref a1)])) rfl rfl (hb hby d6_60)
  refine GoW.sg (mkF m 63 (Sh9 a1 0 1 x2 0) [(.double 4597461529758007296), (.double 0), (.double 4597461529758007296), (.ref a1)]) (fun t k => st413 t k) ?_
  refine GoW.sg (mkF m 64 (Sh9 a1 0 1 x2 0) [(.double 13820833566612783104), (.double 4597461529758007296), (.ref a1)]) (fun t k => XS.dsubS X413.here hx rfl (hb hby d6_63) rfl (v := (13820833566612783104 : UInt64)) (by decide +kernel) (by decide +kernel) k) ?_
  refine GoW.sg (mkF m 67 (Sh9 a1 0 1 x2 0) [(.double 4593671619917905920), (.double 13820833566612783104), (.double 4597461529758007296), (.ref a1)]) (fun t k => X413.ldc2DoubleC hx hown (mvT hZ (ww hw 40 rfl)) (g := (mkF m 64 (Sh9 a1 0 1 x2 0) [(.double 13820833566612783104), (.double 4597461529758007296), (.ref a1)])) rfl (hb hby d6_64) t k) ?_
  refine GoW.sg (mkF m 68 (Sh9 a1 0 1 x2 0) [(.double 13807322767730671616), (.double 4597461529758007296), (.ref a1)]) (fun t k => XS.dmulS X413.here hx rfl (hb hby d6_67) rfl (v := (13807322767730671616 : UInt64)) (by decide +kernel) (by decide +kernel) k) ?_
  refine GoW.sg (mkF m 69 (Sh9 a1 0 1 x2 0) [(.double 4596424841074573312), (.ref a1)]) (fun t k => XS.daddS X413.here hx rfl (hb hby d6_68) rfl (v := (4596424841074573312 : UInt64)) (by decide +kernel) (by decide +kernel) k) ?_
  obtain ⟨T414, h414, X414, e414, W414, st414⟩ := putF X413 hx hZ hown (host := "") (Or.inl (ww hw 11 rfl)) Via.refl e413 P1 P0 (Or.inl (ww hw 12 rfl)) (ww hw 3 rfl) (ty := .double) (by decide) rfl rfl (g := (mkF m 69 (Sh9 a1 0 1 x2 0) [(.double 4596424841074573312), (.ref a1)])) rfl rfl (hb hby d6_69)
  have N414 := Fr.snoc X414 N0 g_a1
  have Exa_a1_414 : Exa Z h414 a1 "com/example/spindle/spindle/SpinRule" := P0.wr W414
  have Fld_a1_handedOn_414 : Fld Z h414 a1 "com/example/spindle/spindle/SpinRule" "handedOn" "Z" (.int (0 : Int32)) := P2.other W414 (Or.inr (slot_ne (t := .boolean) (t' := .double) (Or.inl (ww hw 19 rfl)) (Or.inl (ww hw 12 rfl)) (by decide) (by decide) (by decide)))
  have Fld_a1_awaitsAnswer_414 : Fld Z h414 a1 "com/example/spindle/spindle/SpinRule" "awaitsAnswer" "Z" (.int (1 : Int32)) := P3.other W414 (Or.inr (slot_ne (t := .boolean) (t' := .double) (Or.inl (ww hw 27 rfl)) (Or.inl (ww hw 12 rfl)) (by decide) (by decide) (by decide)))
  have Keep_414 : Keep h0 h414 [a1] := (Keep.refl h0 [a1]).wr W414 (Or.inl (List.mem_of_getElem? (i := 0) rfl))
  have Fld_a1_answeredShare_414 : Fld Z h414 a1 "com/example/spindle/spindle/SpinRule" "answeredShare" "D" (.double (4596424841074573312 : UInt64)) := P1.same W414
  refine GoW.sg (mkF m 72 (Sh9 a1 0 1 x2 0) []) (fun t k => st414 t k) ?_
  refine GoW.retV X414 hx Bd.returns (hb hby d6_72) Bd.notSynchronized ?_ (by decide) (by decide)
  rw [e414]
  exact ⟨rfl, N414, Keep_414, Exa_a1_414, Fld_a1_answeredShare_414, Fld_a1_handedOn_414, Fld_a1_awaitsAnswer_414⟩
def Q6_48 (Z : State) (a1 : Addr) (x2 : Int64) (h0 : Heap) (n0 : Nat) (v : Option Value) (h : Heap) (L : List Loc) : Prop := v = none ∧ Fr n0 L ∧ (Keep h0 h [a1]) ∧ (Exa Z h a1 "com/example/spindle/spindle/SpinRule") ∧ (Fld Z h a1 "com/example/spindle/spindle/SpinRule" "answeredShare" "D" (.double (4596424841074573312 : UInt64))) ∧ (Fld Z h a1 "com/example/spindle/spindle/SpinRule" "handedOn" "Z" (.int (0 : Int32))) ∧ (Fld Z h a1 "com/example/spindle/spindle/SpinRule" "awaitsAnswer" "Z" (.int (1 : Int32)))
theorem ef6_rm6_48 (m : MethodId) (a1 : Addr) (x2 : Int64) : entryFrame m #[(.ref a1), (.int (1 : Int32)), (.int (0 : Int32)), (.long x2)] 6 = (mkF m 0 #[.val (.ref a1), .val (.int 1), .val (.int 0), .val (.long x2), .second, .unset] []) := by first | (simp [entryFrame, mkF, argsToLocals, Value.category, maxLocals]; done) | rfl
set_option maxRecDepth 65536 in
set_option maxHeartbeats 40000000 in
theorem rm6_48 (l : Launch) (Z : State) (a0 : Array Value) (hw : ∀ d ∈ tables_1, d.before a0 Z = true) (ws : List Jvm.Cond) (a1 : Addr) (x2 : Int64)  (h0 : Heap) (n0 : Nat) (P0 : Exa Z h0 a1 "com/example/spindle/spindle/SpinRule") (P1 : Fld Z h0 a1 "com/example/spindle/spindle/SpinRule" "answeredShare" "D" (.double (4597461529758007296 : UInt64))) (P2 : Fld Z h0 a1 "com/example/spindle/spindle/SpinRule" "handedOn" "Z" (.int (0 : Int32))) (P3 : Fld Z h0 a1 "com/example/spindle/spindle/SpinRule" "awaitsAnswer" "Z" (.int (1 : Int32))) (g_a1 : n0 ≤ a1)  (u0 : ¬ (x2 < (20000 : Int64)))  :
    MetFree l (⟨"com/example/spindle/spindle/SpinRule", "countWait", "(ZZJ)V"⟩ : MethodName) (head1 (Jvm.Cond.code (⟨"com/example/spindle/spindle/SpinRule", "countWait", "(ZZJ)V"⟩ : MethodName) prog_40_method_5_code 6 none :: ws) ({ frames := 0, cells := 0, slots := 0, locals := 0 } : Room)) (fun a U => a = #[(.ref a1), (.int (1 : Int32)), (.int (0 : Int32)), (.long x2)] ∧ Z.Warmed39 U.vm ∧ U.heap = h0) (fun _ _ _ _ _ => True) (fun _ U o U' => ∃ v L, o = .returned v ∧ (Q6_48 Z a1 x2 h0 n0) v U'.heap L ∧ FrameEnd U o U' L 0 0) := by
  refine MetFree.of_bodySF (plainFor_of_name pn_com_example_spindle_spindle_SpinRule) hisR ?_
  intro p e s m args below meth c s₁ Bd hml0 hP hK
  obtain ⟨rfl, hZ, hh⟩ := hP
  have hx := Bd.exec
  have hby := Bd.bytes
  have hml : c.maxLocals = 6 := hml0
  have hown : s.vm.findClass "com/example/spindle/spindle/SpinRule" = some m.cls := findClass_of_methodNamed Bd.named
  have hnm := (name_of_methodNamed Bd.named Bd.method).1
  have X0 : Stand p l e ({ frames := 0, cells := 0, slots := 0, locals := 0 } : Room) s m #[(.ref a1), (.int (1 : Int32)), (.int (0 : Int32)), (.long x2)] below meth c s₁ [] 0 0 := Stand.of_body Bd
  have e0 : s₁.heap = h0 := by rw [← hh, Bd.state]; rfl
  have N0 := Fr.nil n0
  refine GoW.mk ?_
  refine GoW.st (fun t k => castTop (ef6_rm6_48 m a1 x2) k) ?_
  show GoW p e below s (Q6_48 Z a1 x2 h0 n0) 0 0 (s₁.setTop (mkF m 0 (Sh8 a1 1 0 x2) []))
  refine GoW.sg (mkF m 1 (Sh8 a1 1 0 x2) [(.ref a1)]) (fun t k => XS.aloadN X0.here hx rfl (hb hby d6_0) rfl rfl k) ?_
  obtain ⟨T422, X422, e422, st422⟩ := getF X0 hx hZ hown (host := "") (Or.inl (ww hw 26 rfl)) Via.refl e0 P3 (g := (mkF m 1 (Sh8 a1 1 0 x2) [(.ref a1)])) rfl rfl (hb hby d6_1)
  refine GoW.sg (mkF m 4 (Sh8 a1 1 0 x2) [(.int 1)]) (fun t k => st422 t k) ?_
  refine GoW.sg (mkF m 7 (Sh8 a1 1 0 x2) []) (fun t k => XS.ifNo X422.here hx rfl (hb hby d6_4) rfl (by decide) k) ?_
  refine GoW.sg (mkF m 8 (Sh8 a1 1 0 x2) [(.int 1)]) (fun t k => XS.iloadN X422.here hx rfl (hb hby d6_7) rfl k) ?_
  refine GoW.sg (mkF m 20 (Sh8 a1 1 0 x2) []) (fun t k => XS.ifYes X422.here hx rfl (pc0 := 8) (pc' := 20) rfl (hb hby d6_8) rfl (by decide) (by decide) (by decide) k) ?_
  refine GoW.sg (mkF m 21 (Sh8 a1 1 0 x2) [(.int 1)]) (fun t k => XS.iloadN X422.here hx rfl (hb hby d6_20) rfl k) ?_
  refine GoW.sg (mkF m 24 (Sh8 a1 1 0 x2) []) (fun t k => XS.ifNo X422.here hx rfl (hb hby d6_21) rfl (by decide) k) ?_
  refine GoW.sg (mkF m 25 (Sh8 a1 1 0 x2) [(.int 0)]) (fun t k => XS.iloadN X422.here hx rfl (hb hby d6_24) rfl k) ?_
  refine GoW.sg (mkF m 40 (Sh8 a1 1 0 x2) []) (fun t k => XS.ifYes X422.here hx rfl (pc0 := 25) (pc' := 40) rfl (hb hby d6_25) rfl (by decide) (by decide) (by decide) k) ?_
  refine GoW.sg (mkF m 41 (Sh8 a1 1 0 x2) [(.int 0)]) (fun t k => XS.iconst X422.here hx rfl (hb hby d6_40) k) ?_
  refine GoW.sg (mkF m 43 (Sh9 a1 1 0 x2 0) []) (fun t k => XS.istore X422.here hx rfl (hb hby d6_41) rfl (l' := (Sh9 a1 1 0 x2 0)) rfl k) ?_
  refine GoW.sg (mkF m 44 (Sh9 a1 1 0 x2 0) [(.ref a1)]) (fun t k => XS.aloadN X422.here hx rfl (hb hby d6_43) rfl rfl k) ?_
  refine GoW.sg (mkF m 45 (Sh9 a1 1 0 x2 0) [(.ref a1), (.ref a1)]) (fun t k => XS.dup X422.here hx rfl (hb hby d6_44) rfl rfl k) ?_
  obtain ⟨T423, X423, e423, st423⟩ := getF X422 hx hZ hown (host := "") (Or.inl (ww hw 11 rfl)) Via.refl e422 P1 (g := (mkF m 45 (Sh9 a1 1 0 x2 0) [(.ref a1), (.ref a1)])) rfl rfl (hb hby d6_45)
  refine GoW.sg (mkF m 48 (Sh9 a1 1 0 x2 0) [(.double 4597461529758007296), (.ref a1)]) (fun t k => st423 t k) ?_
  refine GoW.sg (mkF m 50 (Sh9 a1 1 0 x2 0) [(.int 0), (.double 4597461529758007296), (.ref a1)]) (fun t k => XS.iload X423.here hx rfl (hb hby d6_48) rfl k) ?_
  refine GoW.sg (mkF m 57 (Sh9 a1 1 0 x2 0) [(.double 4597461529758007296), (.ref a1)]) (fun t k => XS.ifYes X423.here hx rfl (pc0 := 50) (pc' := 57) rfl (hb hby d6_50) rfl (by decide) (by decide) (by decide) k) ?_
  refine GoW.sg (mkF m 58 (Sh9 a1 1 0 x2 0) [(.int 0), (.double 4597461529758007296), (.ref a1)]) (fun t k => XS.iconst X423.here hx rfl (hb hby d6_57) k) ?_
  refine GoW.sg (mkF m 59 (Sh9 a1 1 0 x2 0) [(.double 0), (.double 4597461529758007296), (.ref a1)]) (fun t k => XS.i2dS X423.here hx rfl (hb hby d6_58) rfl (v := (0 : UInt64)) (by decide +kernel) k) ?_
  refine GoW.sg (mkF m 60 (Sh9 a1 1 0 x2 0) [(.ref a1), (.double 0), (.double 4597461529758007296), (.ref a1)]) (fun t k => XS.aloadN X423.here hx rfl (hb hby d6_59) rfl rfl k) ?_
  obtain ⟨T424, X424, e424, st424⟩ := getF X423 hx hZ hown (host := "") (Or.inl (ww hw 11 rfl)) Via.refl e423 P1 (g := (mkF m 60 (Sh9 a1 1 0 x2 0) [(.ref a1), (.double 0), (.double 4597461529758007296), (.ref a1)])) rfl rfl (hb hby d6_60)
  refine GoW.sg (mkF m 63 (Sh9 a1 1 0 x2 0) [(.double 4597461529758007296), (.double 0), (.double 4597461529758007296), (.ref a1)]) (fun t k => st424 t k) ?_
  refine GoW.sg (mkF m 64 (Sh9 a1 1 0 x2 0) [(.double 13820833566612783104), (.double 4597461529758007296), (.ref a1)]) (fun t k => XS.dsubS X424.here hx rfl (hb hby d6_63) rfl (v := (13820833566612783104 : UInt64)) (by decide +kernel) (by decide +kernel) k) ?_
  refine GoW.sg (mkF m 67 (Sh9 a1 1 0 x2 0) [(.double 4593671619917905920), (.double 13820833566612783104), (.double 4597461529758007296), (.ref a1)]) (fun t k => X424.ldc2DoubleC hx hown (mvT hZ (ww hw 40 rfl)) (g := (mkF m 64 (Sh9 a1 1 0 x2 0) [(.double 13820833566612783104), (.double 4597461529758007296), (.ref a1)])) rfl (hb hby d6_64) t k) ?_
  refine GoW.sg (mkF m 68 (Sh9 a1 1 0 x2 0) [(.double 13807322767730671616), (.double 4597461529758007296), (.ref a1)]) (fun t k => XS.dmulS X424.here hx rfl (hb hby d6_67) rfl (v := (13807322767730671616 : UInt64)) (by decide +kernel) (by decide +kernel) k) ?_
  refine GoW.sg (mkF m 69 (Sh9 a1 1 0 x2 0) [(.double 4596424841074573312), (.ref a1)]) (fun t k => XS.daddS X424.here hx rfl (hb hby d6_68) rfl (v := (4596424841074573312 : UInt64)) (by decide +kernel) (by decide +kernel) k) ?_
  obtain ⟨T425, h425, X425, e425, W425, st425⟩ := putF X424 hx hZ hown (host := "") (Or.inl (ww hw 11 rfl)) Via.refl e424 P1 P0 (Or.inl (ww hw 12 rfl)) (ww hw 3 rfl) (ty := .double) (by decide) rfl rfl (g := (mkF m 69 (Sh9 a1 1 0 x2 0) [(.double 4596424841074573312), (.ref a1)])) rfl rfl (hb hby d6_69)
  have N425 := Fr.snoc X425 N0 g_a1
  have Exa_a1_425 : Exa Z h425 a1 "com/example/spindle/spindle/SpinRule" := P0.wr W425
  have Fld_a1_handedOn_425 : Fld Z h425 a1 "com/example/spindle/spindle/SpinRule" "handedOn" "Z" (.int (0 : Int32)) := P2.other W425 (Or.inr (slot_ne (t := .boolean) (t' := .double) (Or.inl (ww hw 19 rfl)) (Or.inl (ww hw 12 rfl)) (by decide) (by decide) (by decide)))
  have Fld_a1_awaitsAnswer_425 : Fld Z h425 a1 "com/example/spindle/spindle/SpinRule" "awaitsAnswer" "Z" (.int (1 : Int32)) := P3.other W425 (Or.inr (slot_ne (t := .boolean) (t' := .double) (Or.inl (ww hw 27 rfl)) (Or.inl (ww hw 12 rfl)) (by decide) (by decide) (by decide)))
  have Keep_425 : Keep h0 h425 [a1] := (Keep.refl h0 [a1]).wr W425 (Or.inl (List.mem_of_getElem? (i := 0) rfl))
  have Fld_a1_answeredShare_425 : Fld Z h425 a1 "com/example/spindle/spindle/SpinRule" "answeredShare" "D" (.double (4596424841074573312 : UInt64)) := P1.same W425
  refine GoW.sg (mkF m 72 (Sh9 a1 1 0 x2 0) []) (fun t k => st425 t k) ?_
  refine GoW.retV X425 hx Bd.returns (hb hby d6_72) Bd.notSynchronized ?_ (by decide) (by decide)
  rw [e425]
  exact ⟨rfl, N425, Keep_425, Exa_a1_425, Fld_a1_answeredShare_425, Fld_a1_handedOn_425, Fld_a1_awaitsAnswer_425⟩
def Q6_49 (Z : State) (a1 : Addr) (x2 : Int64) (h0 : Heap) (n0 : Nat) (v : Option Value) (h : Heap) (L : List Loc) : Prop := v = none ∧ Fr n0 L ∧ (Keep h0 h [a1]) ∧ (Exa Z h a1 "com/example/spindle/spindle/SpinRule") ∧ (Fld Z h a1 "com/example/spindle/spindle/SpinRule" "answeredShare" "D" (.double (4596424841074573312 : UInt64))) ∧ (Fld Z h a1 "com/example/spindle/spindle/SpinRule" "handedOn" "Z" (.int (0 : Int32))) ∧ (Fld Z h a1 "com/example/spindle/spindle/SpinRule" "awaitsAnswer" "Z" (.int (1 : Int32)))
theorem ef6_rm6_49 (m : MethodId) (a1 : Addr) (x2 : Int64) : entryFrame m #[(.ref a1), (.int (1 : Int32)), (.int (1 : Int32)), (.long x2)] 6 = (mkF m 0 #[.val (.ref a1), .val (.int 1), .val (.int 1), .val (.long x2), .second, .unset] []) := by first | (simp [entryFrame, mkF, argsToLocals, Value.category, maxLocals]; done) | rfl
set_option maxRecDepth 65536 in
set_option maxHeartbeats 40000000 in
theorem rm6_49 (l : Launch) (Z : State) (a0 : Array Value) (hw : ∀ d ∈ tables_1, d.before a0 Z = true) (ws : List Jvm.Cond) (a1 : Addr) (x2 : Int64)  (h0 : Heap) (n0 : Nat) (P0 : Exa Z h0 a1 "com/example/spindle/spindle/SpinRule") (P1 : Fld Z h0 a1 "com/example/spindle/spindle/SpinRule" "answeredShare" "D" (.double (4597461529758007296 : UInt64))) (P2 : Fld Z h0 a1 "com/example/spindle/spindle/SpinRule" "handedOn" "Z" (.int (0 : Int32))) (P3 : Fld Z h0 a1 "com/example/spindle/spindle/SpinRule" "awaitsAnswer" "Z" (.int (1 : Int32))) (g_a1 : n0 ≤ a1)  (u0 : ¬ (x2 < (20000 : Int64)))  :
    MetFree l (⟨"com/example/spindle/spindle/SpinRule", "countWait", "(ZZJ)V"⟩ : MethodName) (head1 (Jvm.Cond.code (⟨"com/example/spindle/spindle/SpinRule", "countWait", "(ZZJ)V"⟩ : MethodName) prog_40_method_5_code 6 none :: ws) ({ frames := 0, cells := 0, slots := 0, locals := 0 } : Room)) (fun a U => a = #[(.ref a1), (.int (1 : Int32)), (.int (1 : Int32)), (.long x2)] ∧ Z.Warmed39 U.vm ∧ U.heap = h0) (fun _ _ _ _ _ => True) (fun _ U o U' => ∃ v L, o = .returned v ∧ (Q6_49 Z a1 x2 h0 n0) v U'.heap L ∧ FrameEnd U o U' L 0 0) := by
  refine MetFree.of_bodySF (plainFor_of_name pn_com_example_spindle_spindle_SpinRule) hisR ?_
  intro p e s m args below meth c s₁ Bd hml0 hP hK
  obtain ⟨rfl, hZ, hh⟩ := hP
  have hx := Bd.exec
  have hby := Bd.bytes
  have hml : c.maxLocals = 6 := hml0
  have hown : s.vm.findClass "com/example/spindle/spindle/SpinRule" = some m.cls := findClass_of_methodNamed Bd.named
  have hnm := (name_of_methodNamed Bd.named Bd.method).1
  have X0 : Stand p l e ({ frames := 0, cells := 0, slots := 0, locals := 0 } : Room) s m #[(.ref a1), (.int (1 : Int32)), (.int (1 : Int32)), (.long x2)] below meth c s₁ [] 0 0 := Stand.of_body Bd
  have e0 : s₁.heap = h0 := by rw [← hh, Bd.state]; rfl
  have N0 := Fr.nil n0
  refine GoW.mk ?_
  refine GoW.st (fun t k => castTop (ef6_rm6_49 m a1 x2) k) ?_
  show GoW p e below s (Q6_49 Z a1 x2 h0 n0) 0 0 (s₁.setTop (mkF m 0 (Sh8 a1 1 1 x2) []))
  refine GoW.sg (mkF m 1 (Sh8 a1 1 1 x2) [(.ref a1)]) (fun t k => XS.aloadN X0.here hx rfl (hb hby d6_0) rfl rfl k) ?_
  obtain ⟨T433, X433, e433, st433⟩ := getF X0 hx hZ hown (host := "") (Or.inl (ww hw 26 rfl)) Via.refl e0 P3 (g := (mkF m 1 (Sh8 a1 1 1 x2) [(.ref a1)])) rfl rfl (hb hby d6_1)
  refine GoW.sg (mkF m 4 (Sh8 a1 1 1 x2) [(.int 1)]) (fun t k => st433 t k) ?_
  refine GoW.sg (mkF m 7 (Sh8 a1 1 1 x2) []) (fun t k => XS.ifNo X433.here hx rfl (hb hby d6_4) rfl (by decide) k) ?_
  refine GoW.sg (mkF m 8 (Sh8 a1 1 1 x2) [(.int 1)]) (fun t k => XS.iloadN X433.here hx rfl (hb hby d6_7) rfl k) ?_
  refine GoW.sg (mkF m 20 (Sh8 a1 1 1 x2) []) (fun t k => XS.ifYes X433.here hx rfl (pc0 := 8) (pc' := 20) rfl (hb hby d6_8) rfl (by decide) (by decide) (by decide) k) ?_
  refine GoW.sg (mkF m 21 (Sh8 a1 1 1 x2) [(.int 1)]) (fun t k => XS.iloadN X433.here hx rfl (hb hby d6_20) rfl k) ?_
  refine GoW.sg (mkF m 24 (Sh8 a1 1 1 x2) []) (fun t k => XS.ifNo X433.here hx rfl (hb hby d6_21) rfl (by decide) k) ?_
  refine GoW.sg (mkF m 25 (Sh8 a1 1 1 x2) [(.int 1)]) (fun t k => XS.iloadN X433.here hx rfl (hb hby d6_24) rfl k) ?_
  refine GoW.sg (mkF m 28 (Sh8 a1 1 1 x2) []) (fun t k => XS.ifNo X433.here hx rfl (hb hby d6_25) rfl (by decide) k) ?_
  refine GoW.sg (mkF m 29 (Sh8 a1 1 1 x2) [(.long x2)]) (fun t k => XS.lloadN X433.here hx rfl (hb hby d6_28) rfl k) ?_
  refine GoW.sg (mkF m 32 (Sh8 a1 1 1 x2) [(.long 20000), (.long x2)]) (fun t k => X433.ldc2Long hx hown (mvT hZ (ww hw 28 rfl)) (g := (mkF m 29 (Sh8 a1 1 1 x2) [(.long x2)])) rfl (hb hby d6_29) t k) ?_
  refine GoW.sg (mkF m 33 (Sh8 a1 1 1 x2) [(.int (lcmpW x2 (20000 : Int64)))]) (fun t k => XS.lcmp X433.here hx rfl (hb hby d6_32) rfl k) ?_
  refine GoW.sg (mkF m 40 (Sh8 a1 1 1 x2) []) (fun t k => XS.ifYes X433.here hx rfl (pc0 := 33) (pc' := 40) rfl (hb hby d6_33) rfl ((if0 _ _).trans (flt (mt (lw_lt _ _).mp u0)).2.1) (by decide) (by decide) k) ?_
  refine GoW.sg (mkF m 41 (Sh8 a1 1 1 x2) [(.int 0)]) (fun t k => XS.iconst X433.here hx rfl (hb hby d6_40) k) ?_
  refine GoW.sg (mkF m 43 (Sh9 a1 1 1 x2 0) []) (fun t k => XS.istore X433.here hx rfl (hb hby d6_41) rfl (l' := (Sh9 a1 1 1 x2 0)) rfl k) ?_
  refine GoW.sg (mkF m 44 (Sh9 a1 1 1 x2 0) [(.ref a1)]) (fun t k => XS.aloadN X433.here hx rfl (hb hby d6_43) rfl rfl k) ?_
  refine GoW.sg (mkF m 45 (Sh9 a1 1 1 x2 0) [(.ref a1), (.ref a1)]) (fun t k => XS.dup X433.here hx rfl (hb hby d6_44) rfl rfl k) ?_
  obtain ⟨T434, X434, e434, st434⟩ := getF X433 hx hZ hown (host := "") (Or.inl (ww hw 11 rfl)) Via.refl e433 P1 (g := (mkF m 45 (Sh9 a1 1 1 x2 0) [(.ref a1), (.ref a1)])) rfl rfl (hb hby d6_45)
  refine GoW.sg (mkF m 48 (Sh9 a1 1 1 x2 0) [(.double 4597461529758007296), (.ref a1)]) (fun t k => st434 t k) ?_
  refine GoW.sg (mkF m 50 (Sh9 a1 1 1 x2 0) [(.int 0), (.double 4597461529758007296), (.ref a1)]) (fun t k => XS.iload X434.here hx rfl (hb hby d6_48) rfl k) ?_
  refine GoW.sg (mkF m 57 (Sh9 a1 1 1 x2 0) [(.double 4597461529758007296), (.ref a1)]) (fun t k => XS.ifYes X434.here hx rfl (pc0 := 50) (pc' := 57) rfl (hb hby d6_50) rfl (by decide) (by decide) (by decide) k) ?_
  refine GoW.sg (mkF m 58 (Sh9 a1 1 1 x2 0) [(.int 0), (.double 4597461529758007296), (.ref a1)]) (fun t k => XS.iconst X434.here hx rfl (hb hby d6_57) k) ?_
  refine GoW.sg (mkF m 59 (Sh9 a1 1 1 x2 0) [(.double 0), (.double 4597461529758007296), (.ref a1)]) (fun t k => XS.i2dS X434.here hx rfl (hb hby d6_58) rfl (v := (0 : UInt64)) (by decide +kernel) k) ?_
  refine GoW.sg (mkF m 60 (Sh9 a1 1 1 x2 0) [(.ref a1), (.double 0), (.double 4597461529758007296), (.ref a1)]) (fun t k => XS.aloadN X434.here hx rfl (hb hby d6_59) rfl rfl k) ?_
  obtain ⟨T435, X435, e435, st435⟩ := getF X434 hx hZ hown (host := "") (Or.inl (ww hw 11 rfl)) Via.refl e434 P1 (g := (mkF m 60 (Sh9 a1 1 1 x2 0) [(.ref a1), (.double 0), (.double 4597461529758007296), (.ref a1)])) rfl rfl (hb hby d6_60)
  refine GoW.sg (mkF m 63 (Sh9 a1 1 1 x2 0) [(.double 4597461529758007296), (.double 0), (.double 4597461529758007296), (.ref a1)]) (fun t k => st435 t k) ?_
  refine GoW.sg (mkF m 64 (Sh9 a1 1 1 x2 0) [(.double 13820833566612783104), (.double 4597461529758007296), (.ref a1)]) (fun t k => XS.dsubS X435.here hx rfl (hb hby d6_63) rfl (v := (13820833566612783104 : UInt64)) (by decide +kernel) (by decide +kernel) k) ?_
  refine GoW.sg (mkF m 67 (Sh9 a1 1 1 x2 0) [(.double 4593671619917905920), (.double 13820833566612783104), (.double 4597461529758007296), (.ref a1)]) (fun t k => X435.ldc2DoubleC hx hown (mvT hZ (ww hw 40 rfl)) (g := (mkF m 64 (Sh9 a1 1 1 x2 0) [(.double 13820833566612783104), (.double 4597461529758007296), (.ref a1)])) rfl (hb hby d6_64) t k) ?_
  refine GoW.sg (mkF m 68 (Sh9 a1 1 1 x2 0) [(.double 13807322767730671616), (.double 4597461529758007296), (.ref a1)]) (fun t k => XS.dmulS X435.here hx rfl (hb hby d6_67) rfl (v := (13807322767730671616 : UInt64)) (by decide +kernel) (by decide +kernel) k) ?_
  refine GoW.sg (mkF m 69 (Sh9 a1 1 1 x2 0) [(.double 4596424841074573312), (.ref a1)]) (fun t k => XS.daddS X435.here hx rfl (hb hby d6_68) rfl (v := (4596424841074573312 : UInt64)) (by decide +kernel) (by decide +kernel) k) ?_
  obtain ⟨T436, h436, X436, e436, W436, st436⟩ := putF X435 hx hZ hown (host := "") (Or.inl (ww hw 11 rfl)) Via.refl e435 P1 P0 (Or.inl (ww hw 12 rfl)) (ww hw 3 rfl) (ty := .double) (by decide) rfl rfl (g := (mkF m 69 (Sh9 a1 1 1 x2 0) [(.double 4596424841074573312), (.ref a1)])) rfl rfl (hb hby d6_69)
  have N436 := Fr.snoc X436 N0 g_a1
  have Exa_a1_436 : Exa Z h436 a1 "com/example/spindle/spindle/SpinRule" := P0.wr W436
  have Fld_a1_handedOn_436 : Fld Z h436 a1 "com/example/spindle/spindle/SpinRule" "handedOn" "Z" (.int (0 : Int32)) := P2.other W436 (Or.inr (slot_ne (t := .boolean) (t' := .double) (Or.inl (ww hw 19 rfl)) (Or.inl (ww hw 12 rfl)) (by decide) (by decide) (by decide)))
  have Fld_a1_awaitsAnswer_436 : Fld Z h436 a1 "com/example/spindle/spindle/SpinRule" "awaitsAnswer" "Z" (.int (1 : Int32)) := P3.other W436 (Or.inr (slot_ne (t := .boolean) (t' := .double) (Or.inl (ww hw 27 rfl)) (Or.inl (ww hw 12 rfl)) (by decide) (by decide) (by decide)))
  have Keep_436 : Keep h0 h436 [a1] := (Keep.refl h0 [a1]).wr W436 (Or.inl (List.mem_of_getElem? (i := 0) rfl))
  have Fld_a1_answeredShare_436 : Fld Z h436 a1 "com/example/spindle/spindle/SpinRule" "answeredShare" "D" (.double (4596424841074573312 : UInt64)) := P1.same W436
  refine GoW.sg (mkF m 72 (Sh9 a1 1 1 x2 0) []) (fun t k => st436 t k) ?_
  refine GoW.retV X436 hx Bd.returns (hb hby d6_72) Bd.notSynchronized ?_ (by decide) (by decide)
  rw [e436]
  exact ⟨rfl, N436, Keep_436, Exa_a1_436, Fld_a1_answeredShare_436, Fld_a1_handedOn_436, Fld_a1_awaitsAnswer_436⟩
theorem ef0_rm0 (m : MethodId) (q1 : Int32) (q2 : Int64) : entryFrame m #[(.int q1), (.long q2)] maxLocals = (mkF m 0 #[.val (.int q1), .val (.long q2), .second, .unset, .unset, .unset, .unset, .unset, .unset, .unset, .unset, .unset, .unset, .unset, .unset] []) := by first | (simp [entryFrame, mkF, argsToLocals, Value.category, maxLocals]; done) | rfl
set_option maxRecDepth 65536 in
set_option maxHeartbeats 40000000 in
theorem rm0 (l : Launch) (Z : State) (a0 : Array Value) (hw : ∀ d ∈ tables_1, d.before a0 Z = true) (ws : List Jvm.Cond) (q1 : Int32) (q2 : Int64)  (h0 : Heap) (n0 : Nat) (Z0 : n0 ≤ h0.size)    :
    MetFree l x (head1 (Jvm.Cond.code x code maxLocals ret :: ws) room_1) (fun a U => a = #[(.int q1), (.long q2)] ∧ Z.Warmed39 U.vm ∧ U.heap = h0) (fun _ _ _ _ _ => True) (fun _ U o U' => ∃ v L, o = .returned v ∧ (ValQ (.int (1 : Int32)) n0) v U'.heap L ∧ FrameEnd U o U' L room_1.cells room_1.slots) := by
  refine MetFree.of_bodySF (plainFor_of_name pn_com_example_spindle_spindle_SpinRuleCountWaitPinLaw) hisR ?_
  intro p e s m args below meth c s₁ Bd hml0 hP hK
  obtain ⟨rfl, hZ, hh⟩ := hP
  have hx := Bd.exec
  have hby := Bd.bytes
  have hml : c.maxLocals = 15 := hml0
  have hown : s.vm.findClass "com/example/spindle/spindle/SpinRuleCountWaitPinLaw" = some m.cls := findClass_of_methodNamed Bd.named
  have hnm := (name_of_methodNamed Bd.named Bd.method).1
  have X0 : Stand p l e room_1 s m #[(.int q1), (.long q2)] below meth c s₁ [] 0 0 := Stand.of_body Bd
  have e0 : s₁.heap = h0 := by rw [← hh, Bd.state]; rfl
  have N0 := Fr.nil n0
  refine GoW.mk ?_
  refine GoW.st (fun t k => castTop (ef0_rm0 m q1 q2) k) ?_
  show GoW p e below s (ValQ (.int (1 : Int32)) n0) room_1.cells room_1.slots (s₁.setTop (mkF m 0 (Sh0 q1 q2) []))
  refine GoW.sg (mkF m 1 (Sh0 q1 q2) [(.int q1)]) (fun t k => XS.iloadN X0.here hx rfl (hb hby at_0) rfl k) ?_
  refine GoW.sg (mkF m 2 (Sh0 q1 q2) [(.int 1), (.int q1)]) (fun t k => XS.iconst X0.here hx rfl (hb hby at_1) k) ?_
  refine GoW.sg (mkF m 3 (Sh0 q1 q2) [(.int (q1 &&& (1 : Int32)))]) (fun t k => XS.iand X0.here hx rfl (hb hby at_2) rfl k) ?_
  have J11_3 : ∀ b2 : Int32, b2 = (if (q1 &&& (1 : Int32)) = (0 : Int32) then (0 : Int32) else (1 : Int32)) → GoW p e below s (ValQ (.int (1 : Int32)) n0) room_1.cells room_1.slots (s₁.setTop (mkF m 11 (Sh0 q1 q2) [(.int b2)])) := by
    intro b2 hb2
    refine GoW.sg (mkF m 12 (Sh1 q1 q2 b2) []) (fun t k => XS.istoreN X0.here hx rfl (hb hby at_11) rfl (l' := (Sh1 q1 q2 b2)) rfl k) ?_
    refine GoW.sg (mkF m 13 (Sh1 q1 q2 b2) [(.int q1)]) (fun t k => XS.iloadN X0.here hx rfl (hb hby at_12) rfl k) ?_
    refine GoW.sg (mkF m 14 (Sh1 q1 q2 b2) [(.int 2), (.int q1)]) (fun t k => XS.iconst X0.here hx rfl (hb hby at_13) k) ?_
    refine GoW.sg (mkF m 15 (Sh1 q1 q2 b2) [(.int (q1 &&& (2 : Int32)))]) (fun t k => XS.iand X0.here hx rfl (hb hby at_14) rfl k) ?_
    have J23_7 : ∀ b6 : Int32, b6 = (if (q1 &&& (2 : Int32)) = (0 : Int32) then (0 : Int32) else (1 : Int32)) → GoW p e below s (ValQ (.int (1 : Int32)) n0) room_1.cells room_1.slots (s₁.setTop (mkF m 23 (Sh1 q1 q2 b2) [(.int b6)])) := by
      intro b6 hb6
      refine GoW.sg (mkF m 25 (Sh2 q1 q2 b2 b6) []) (fun t k => XS.istore X0.here hx rfl (hb hby at_23) rfl (l' := (Sh2 q1 q2 b2 b6)) rfl k) ?_
      refine GoW.sg (mkF m 26 (Sh2 q1 q2 b2 b6) [(.int q1)]) (fun t k => XS.iloadN X0.here hx rfl (hb hby at_25) rfl k) ?_
      refine GoW.sg (mkF m 27 (Sh2 q1 q2 b2 b6) [(.int 4), (.int q1)]) (fun t k => XS.iconst X0.here hx rfl (hb hby at_26) k) ?_
      refine GoW.sg (mkF m 28 (Sh2 q1 q2 b2 b6) [(.int (q1 &&& (4 : Int32)))]) (fun t k => XS.iand X0.here hx rfl (hb hby at_27) rfl k) ?_
      have J36_11 : ∀ b10 : Int32, b10 = (if (q1 &&& (4 : Int32)) = (0 : Int32) then (0 : Int32) else (1 : Int32)) → GoW p e below s (ValQ (.int (1 : Int32)) n0) room_1.cells room_1.slots (s₁.setTop (mkF m 36 (Sh2 q1 q2 b2 b6) [(.int b10)])) := by
        intro b10 hb10
        refine GoW.sg (mkF m 38 (Sh3 q1 q2 b2 b6 b10) []) (fun t k => XS.istore X0.here hx rfl (hb hby at_36) rfl (l' := (Sh3 q1 q2 b2 b6 b10)) rfl k) ?_
        refine GoW.sg (mkF m 39 (Sh3 q1 q2 b2 b6 b10) [(.int q1)]) (fun t k => XS.iloadN X0.here hx rfl (hb hby at_38) rfl k) ?_
        refine GoW.sg (mkF m 41 (Sh3 q1 q2 b2 b6 b10) [(.int 8), (.int q1)]) (fun t k => XS.bipush X0.here hx rfl (hb hby at_39) k) ?_
        refine GoW.sg (mkF m 42 (Sh3 q1 q2 b2 b6 b10) [(.int (q1 &&& (8 : Int32)))]) (fun t k => XS.iand X0.here hx rfl (hb hby at_41) rfl k) ?_
        have J50_15 : ∀ b14 : Int32, b14 = (if (q1 &&& (8 : Int32)) = (0 : Int32) then (0 : Int32) else (1 : Int32)) → GoW p e below s (ValQ (.int (1 : Int32)) n0) room_1.cells room_1.slots (s₁.setTop (mkF m 50 (Sh3 q1 q2 b2 b6 b10) [(.int b14)])) := by
          intro b14 hb14
          refine GoW.sg (mkF m 52 (Sh4 q1 q2 b2 b6 b10 b14) []) (fun t k => XS.istore X0.here hx rfl (hb hby at_50) rfl (l' := (Sh4 q1 q2 b2 b6 b10 b14)) rfl k) ?_
          refine GoW.sg (mkF m 53 (Sh4 q1 q2 b2 b6 b10 b14) [(.int q1)]) (fun t k => XS.iloadN X0.here hx rfl (hb hby at_52) rfl k) ?_
          refine GoW.sg (mkF m 55 (Sh4 q1 q2 b2 b6 b10 b14) [(.int 16), (.int q1)]) (fun t k => XS.bipush X0.here hx rfl (hb hby at_53) k) ?_
          refine GoW.sg (mkF m 56 (Sh4 q1 q2 b2 b6 b10 b14) [(.int (q1 &&& (16 : Int32)))]) (fun t k => XS.iand X0.here hx rfl (hb hby at_55) rfl k) ?_
          have J72_19 : ∀ b18 : Int64, b18 = (if (q1 &&& (16 : Int32)) = (0 : Int32) then ((19998 : Int64) + (q2 &&& (3 : Int64))) else q2) → GoW p e below s (ValQ (.int (1 : Int32)) n0) room_1.cells room_1.slots (s₁.setTop (mkF m 72 (Sh4 q1 q2 b2 b6 b10 b14) [(.long b18)])) := by
            intro b18 hb18
            refine GoW.sg (mkF m 74 (Sh5 q1 q2 b2 b6 b10 b14 b18) []) (fun t k => XS.lstore X0.here hx rfl (hb hby at_72) rfl (l' := (Sh5 q1 q2 b2 b6 b10 b14 b18)) rfl k) ?_
            obtain ⟨T21, h21, X21, e21, E21, A21, D21, -, st21⟩ := newO X0 hx hZ hown (ww hw 2 rfl) (ww hw 3 rfl) (ww hw 4 rfl) e0 (g := (mkF m 74 (Sh5 q1 q2 b2 b6 b10 b14 b18) [])) rfl (hb hby at_74) (by decide) (by decide)
            obtain ⟨b21, g21⟩ : ∃ z, z = h0.size := ⟨_, rfl⟩
            rw [← g21] at A21 D21 st21
            have g_b21 : n0 ≤ b21 := Nat.le_trans Z0 (Nat.le_of_eq g21.symm)
            have Zs_21 : n0 ≤ h21.size := Nat.le_trans Z0 E21.1
            have Fld_b21_answeredShare_21 : Fld Z h21 b21 "com/example/spindle/spindle/SpinRule" "answeredShare" "D" (.double (0 : UInt64)) := D21 (Or.inl (ww hw 12 rfl)) (ty := .double) (by decide)
            have Fld_b21_handedOn_21 : Fld Z h21 b21 "com/example/spindle/spindle/SpinRule" "handedOn" "Z" (.int (0 : Int32)) := D21 (Or.inl (ww hw 19 rfl)) (ty := .boolean) (by decide)
            have Fld_b21_awaitsAnswer_21 : Fld Z h21 b21 "com/example/spindle/spindle/SpinRule" "awaitsAnswer" "Z" (.int (0 : Int32)) := D21 (Or.inl (ww hw 27 rfl)) (ty := .boolean) (by decide)
            refine GoW.sg (mkF m 77 (Sh5 q1 q2 b2 b6 b10 b14 b18) [(.ref b21)]) (fun t k => st21 t k) ?_
            refine GoW.sg (mkF m 78 (Sh5 q1 q2 b2 b6 b10 b14 b18) [(.ref b21), (.ref b21)]) (fun t k => XS.dup X21.here hx rfl (hb hby at_77) rfl rfl k) ?_
            obtain ⟨_, _, ⟨T26, L26, k26, n26⟩, -, X26, ⟨Lc26, hQ26, l26, y26, z26⟩, st26⟩ := X21.specialBack hx (y := (⟨"com/example/spindle/spindle/SpinRule", "<init>", "()V"⟩ : MethodName)) rfl hown (mvT hZ (ww hw 5 rfl)) (mvT hZ (ww hw 6 rfl)) (mvT hZ (ww hw 7 rfl)) (by decide) (backOf (W := 1) (rm1_1 l Z a0 hw [] b21  h21 n0  A21 Fld_b21_answeredShare_21 Fld_b21_handedOn_21 Fld_b21_awaitsAnswer_21 g_b21   ) hZ (ww hw 7 rfl) (ww hw 4 rfl) (by decide) (by decide)) (g := (mkF m 78 (Sh5 q1 q2 b2 b6 b10 b14 b18) [(.ref b21), (.ref b21)])) rfl (by rw [hml]; rfl) (Steps.refl _) (a := b21) (argsL := []) (rest := [(.ref b21)]) (lenOf pd_2829V rfl) rfl (by show 2 * 0 + _ ≤ _; exact Nat.le_of_eq rfl) (hb hby at_78) (fun _ _ => ⟨rfl, e21, (by decide : 1 + 0 ≤ _), (by decide : 3 + 0 ≤ _)⟩)
            dsimp only [Pt.U, Pt.locs, Pt.cells, Pt.slots] at X26 l26 y26 z26 st26 hQ26
            subst l26 y26 z26
            obtain ⟨rfl, N26q, K26, p26_0, p26_1, p26_2, p26_3⟩ := hQ26
            have N26 := Fr.app N0 N26q
            have Zs_26 : n0 ≤ T26.heap.size := Nat.le_trans Zs_21 K26.1
            refine GoW.sg (mkF m 81 (Sh5 q1 q2 b2 b6 b10 b14 b18) [(.ref b21)]) (fun t k => st26.trans k) ?_
            refine GoW.sg (mkF m 83 (Sh6 q1 q2 b2 b6 b10 b14 b18 b21) []) (fun t k => XS.astore X26.here hx rfl (hb hby at_81) rfl rfl (l' := (Sh6 q1 q2 b2 b6 b10 b14 b18 b21)) rfl k) ?_
            refine GoW.sg (mkF m 85 (Sh6 q1 q2 b2 b6 b10 b14 b18 b21) [(.ref b21)]) (fun t k => XS.aload X26.here hx rfl (hb hby at_83) rfl rfl k) ?_
            obtain ⟨cq29, kq29, q29a, q29b, q29c⟩ := isOf hZ rfl p26_0
            obtain ⟨_, _, ⟨T29, L29, k29, n29⟩, -, X29, ⟨Lc29, hQ29, l29, y29, z29⟩, st29⟩ := X26.virtualBack hx (y := (⟨"com/example/spindle/spindle/SpinRule", "handedOn", "()V"⟩ : MethodName)) (z := (⟨"com/example/spindle/spindle/SpinRule", "handedOn", "()V"⟩ : MethodName)) hown (mvT hZ (ww hw 13 rfl)) (mvT hZ (ww hw 14 rfl)) (notFace_of_selects (args := #[]) (mvT hZ (ww hw 16 rfl))) (mvT hZ (ww hw 16 rfl)) (mvT hZ (ww hw 15 rfl)) (by decide) (backOf (W := 0) (rm3_2 l Z a0 hw [] b21  T26.heap n0  p26_0 p26_1 p26_2 p26_3 g_b21   ) hZ (ww hw 17 rfl) (ww hw 4 rfl) (by decide) (by decide)) q29a q29c (g := (mkF m 85 (Sh6 q1 q2 b2 b6 b10 b14 b18 b21) [(.ref b21)])) rfl (by rw [hml]; rfl) (Steps.refl _) (argsL := []) (rest := []) (lenOf pd_2829V rfl) rfl (by show 2 * 0 + _ ≤ _; exact Nat.le_of_eq rfl) (hb hby at_85) (fun _ _ => ⟨rfl, rfl, (by decide : 1 + 0 ≤ _), (by decide : 3 + 0 ≤ _)⟩)
            dsimp only [Pt.U, Pt.locs, Pt.cells, Pt.slots] at X29 l29 y29 z29 st29 hQ29
            subst l29 y29 z29
            obtain ⟨rfl, N29q, K29, p29_0, p29_1, p29_2, p29_3⟩ := hQ29
            have N29 := Fr.app N26 N29q
            have Zs_29 : n0 ≤ T29.heap.size := Nat.le_trans Zs_26 K29.1
            refine GoW.sg (mkF m 88 (Sh6 q1 q2 b2 b6 b10 b14 b18 b21) []) (fun t k => st29.trans k) ?_
            refine GoW.sg (mkF m 90 (Sh6 q1 q2 b2 b6 b10 b14 b18 b21) [(.ref b21)]) (fun t k => XS.aload X29.here hx rfl (hb hby at_88) rfl rfl k) ?_
            refine GoW.sg (mkF m 93 (Sh6 q1 q2 b2 b6 b10 b14 b18 b21) [(.long 9223372036854775807), (.ref b21)]) (fun t k => X29.ldc2Long hx hown (mvT hZ (ww hw 20 rfl)) (g := (mkF m 90 (Sh6 q1 q2 b2 b6 b10 b14 b18 b21) [(.ref b21)])) rfl (hb hby at_90) t k) ?_
            obtain ⟨cq40, kq40, q40a, q40b, q40c⟩ := isOf hZ rfl p29_0
            obtain ⟨_, _, ⟨T40, L40, k40, n40⟩, -, X40, ⟨Lc40, hQ40, l40, y40, z40⟩, st40⟩ := X29.virtualBack hx (y := (⟨"com/example/spindle/spindle/SpinRule", "spinNanos", "(J)J"⟩ : MethodName)) (z := (⟨"com/example/spindle/spindle/SpinRule", "spinNanos", "(J)J"⟩ : MethodName)) hown (mvT hZ (ww hw 21 rfl)) (mvT hZ (ww hw 22 rfl)) (notFace_of_selects (args := #[]) (mvT hZ (ww hw 24 rfl))) (mvT hZ (ww hw 24 rfl)) (mvT hZ (ww hw 23 rfl)) (by decide) (backOf (W := 0) (rm4_3 l Z a0 hw [] b21  T29.heap n0  p29_0 p29_1 p29_2 p29_3 g_b21   ) hZ (ww hw 25 rfl) (ww hw 4 rfl) (by decide) (by decide)) q40a q40c (g := (mkF m 93 (Sh6 q1 q2 b2 b6 b10 b14 b18 b21) [(.long 9223372036854775807), (.ref b21)])) rfl (by rw [hml]; rfl) (Steps.refl _) (argsL := [(.long (9223372036854775807 : Int64))]) (rest := []) (lenOf pd_28J29J rfl) rfl (by show 2 * 0 + _ ≤ _; exact Nat.le_of_eq rfl) (hb hby at_93) (fun _ _ => ⟨rfl, rfl, (by decide : 1 + 0 ≤ _), (by decide : 3 + 0 ≤ _)⟩)
            dsimp only [Pt.U, Pt.locs, Pt.cells, Pt.slots] at X40 l40 y40 z40 st40 hQ40
            subst l40 y40 z40
            obtain ⟨rfl, N40q, K40, p40_0, p40_1, p40_2, p40_3⟩ := hQ40
            have N40 := Fr.app N29 N40q
            have Zs_40 : n0 ≤ T40.heap.size := Nat.le_trans Zs_29 K40.1
            refine GoW.sg (mkF m 96 (Sh6 q1 q2 b2 b6 b10 b14 b18 b21) [(.long 20000)]) (fun t k => st40.trans k) ?_
            refine GoW.sg (mkF m 97 (Sh6 q1 q2 b2 b6 b10 b14 b18 b21) []) (fun t k => own_pop2L X40.here hx rfl (hb hby at_96) rfl k) ?_
            refine GoW.sg (mkF m 99 (Sh6 q1 q2 b2 b6 b10 b14 b18 b21) [(.ref b21)]) (fun t k => XS.aload X40.here hx rfl (hb hby at_97) rfl rfl k) ?_
            obtain ⟨_, _, ⟨T141, L141, k141, n141⟩, -, X141, ⟨Lc141, hQ141, l141, y141, z141⟩, st141⟩ := Jvm.LawKit.callS X40 hx (y := (⟨"com/example/spindle/spindle/SpinRuleCountWaitPinLaw", "decayTen", "(Lcom/example/spindle/spindle/SpinRule;)V"⟩ : MethodName)) hown (mvT hZ (ww hw 30 rfl)) (mvT hZ (ww hw 31 rfl)) (mvT hZ (ww hw 32 rfl)) (mvT hZ (ww hw 33 rfl)) (by decide) (backOf (W := 0) (rm5_14 l Z a0 hw [] b21  T40.heap n0  p40_0 p40_1 p40_2 p40_3 g_b21   ) hZ (ww hw 33 rfl) (ww hw 32 rfl) (by decide) (by decide)) (g := (mkF m 99 (Sh6 q1 q2 b2 b6 b10 b14 b18 b21) [(.ref b21)])) rfl (by rw [hml]; rfl) (argsL := [(.ref b21)]) (rest := []) (lenOf pd_28Lcom2fexample2fspindle2fspindle2fSpinRule3b29V rfl) rfl (by show 2 * 0 + _ ≤ _; exact Nat.le_of_eq rfl) (hb hby at_99) (fun _ _ => ⟨rfl, rfl, (by decide : 1 + 0 ≤ _), (by decide : 3 + 0 ≤ _)⟩)
            dsimp only [Pt.U, Pt.locs, Pt.cells, Pt.slots] at X141 l141 y141 z141 st141 hQ141
            subst l141 y141 z141
            obtain ⟨rfl, N141q, K141, p141_0, p141_1, p141_2, p141_3⟩ := hQ141
            have N141 := Fr.app N40 N141q
            have Zs_141 : n0 ≤ T141.heap.size := Nat.le_trans Zs_40 K141.1
            refine GoW.sg (mkF m 102 (Sh6 q1 q2 b2 b6 b10 b14 b18 b21) []) (fun t k => st141 t k) ?_
            refine GoW.sg (mkF m 104 (Sh6 q1 q2 b2 b6 b10 b14 b18 b21) [(.int b14)]) (fun t k => XS.iload X141.here hx rfl (hb hby at_102) rfl k) ?_
            by_cases c142 : b14 = (0 : Int32)
            · refine GoW.sg (mkF m 117 (Sh6 q1 q2 b2 b6 b10 b14 b18 b21) []) (fun t k => XS.ifYes X141.here hx rfl (pc0 := 104) (pc' := 117) rfl (hb hby at_104) rfl ((if0 _ _).trans (teq c142).1) (by decide) (by decide) k) ?_
              refine GoW.sg (mkF m 119 (Sh6 q1 q2 b2 b6 b10 b14 b18 b21) [(.int b10)]) (fun t k => XS.iload X141.here hx rfl (hb hby at_117) rfl k) ?_
              by_cases c143 : b10 = (0 : Int32)
              · refine GoW.sg (mkF m 127 (Sh6 q1 q2 b2 b6 b10 b14 b18 b21) []) (fun t k => XS.ifYes X141.here hx rfl (pc0 := 119) (pc' := 127) rfl (hb hby at_119) rfl ((if0 _ _).trans (teq c143).1) (by decide) (by decide) k) ?_
                refine GoW.sg (mkF m 129 (Sh6 q1 q2 b2 b6 b10 b14 b18 b21) [(.ref b21)]) (fun t k => XS.aload X141.here hx rfl (hb hby at_127) rfl rfl k) ?_
                refine GoW.sg (mkF m 132 (Sh6 q1 q2 b2 b6 b10 b14 b18 b21) [(.long 9223372036854775807), (.ref b21)]) (fun t k => X141.ldc2Long hx hown (mvT hZ (ww hw 20 rfl)) (g := (mkF m 129 (Sh6 q1 q2 b2 b6 b10 b14 b18 b21) [(.ref b21)])) rfl (hb hby at_129) t k) ?_
                obtain ⟨cq152, kq152, q152a, q152b, q152c⟩ := isOf hZ rfl p141_0
                obtain ⟨_, _, ⟨T152, L152, k152, n152⟩, -, X152, ⟨Lc152, hQ152, l152, y152, z152⟩, st152⟩ := X141.virtualBack hx (y := (⟨"com/example/spindle/spindle/SpinRule", "spinNanos", "(J)J"⟩ : MethodName)) (z := (⟨"com/example/spindle/spindle/SpinRule", "spinNanos", "(J)J"⟩ : MethodName)) hown (mvT hZ (ww hw 21 rfl)) (mvT hZ (ww hw 22 rfl)) (notFace_of_selects (args := #[]) (mvT hZ (ww hw 24 rfl))) (mvT hZ (ww hw 24 rfl)) (mvT hZ (ww hw 23 rfl)) (by decide) (backOf (W := 0) (rm4_15 l Z a0 hw [] b21  T141.heap n0  p141_0 p141_1 p141_2 p141_3 g_b21   ) hZ (ww hw 25 rfl) (ww hw 4 rfl) (by decide) (by decide)) q152a q152c (g := (mkF m 132 (Sh6 q1 q2 b2 b6 b10 b14 b18 b21) [(.long 9223372036854775807), (.ref b21)])) rfl (by rw [hml]; rfl) (Steps.refl _) (argsL := [(.long (9223372036854775807 : Int64))]) (rest := []) (lenOf pd_28J29J rfl) rfl (by show 2 * 0 + _ ≤ _; exact Nat.le_of_eq rfl) (hb hby at_132) (fun _ _ => ⟨rfl, rfl, (by decide : 1 + 0 ≤ _), (by decide : 3 + 0 ≤ _)⟩)
                dsimp only [Pt.U, Pt.locs, Pt.cells, Pt.slots] at X152 l152 y152 z152 st152 hQ152
                subst l152 y152 z152
                obtain ⟨rfl, N152q, K152, p152_0, p152_1, p152_2, p152_3⟩ := hQ152
                have N152 := Fr.app N141 N152q
                have Zs_152 : n0 ≤ T152.heap.size := Nat.le_trans Zs_141 K152.1
                refine GoW.sg (mkF m 135 (Sh6 q1 q2 b2 b6 b10 b14 b18 b21) [(.long 0)]) (fun t k => st152.trans k) ?_
                refine GoW.sg (mkF m 136 (Sh6 q1 q2 b2 b6 b10 b14 b18 b21) []) (fun t k => own_pop2L X152.here hx rfl (hb hby at_135) rfl k) ?_
                refine GoW.sg (mkF m 138 (Sh6 q1 q2 b2 b6 b10 b14 b18 b21) [(.ref b21)]) (fun t k => XS.aload X152.here hx rfl (hb hby at_136) rfl rfl k) ?_
                refine GoW.sg (mkF m 139 (Sh6 q1 q2 b2 b6 b10 b14 b18 b21) [(.int b2), (.ref b21)]) (fun t k => XS.iloadN X152.here hx rfl (hb hby at_138) rfl k) ?_
                refine GoW.sg (mkF m 141 (Sh6 q1 q2 b2 b6 b10 b14 b18 b21) [(.int b6), (.int b2), (.ref b21)]) (fun t k => XS.iload X152.here hx rfl (hb hby at_139) rfl k) ?_
                refine GoW.sg (mkF m 143 (Sh6 q1 q2 b2 b6 b10 b14 b18 b21) [(.long b18), (.int b6), (.int b2), (.ref b21)]) (fun t k => XS.lload X152.here hx rfl (hb hby at_141) rfl k) ?_
                obtain ⟨cq155, kq155, q155a, q155b, q155c⟩ := isOf hZ rfl p152_0
                obtain ⟨_, _, ⟨T155, L155, k155, n155⟩, -, X155, ⟨Lc155, hQ155, l155, y155, z155⟩, st155⟩ := X152.virtualBack hx (y := (⟨"com/example/spindle/spindle/SpinRule", "countWait", "(ZZJ)V"⟩ : MethodName)) (z := (⟨"com/example/spindle/spindle/SpinRule", "countWait", "(ZZJ)V"⟩ : MethodName)) hown (mvT hZ (ww hw 35 rfl)) (mvT hZ (ww hw 36 rfl)) (notFace_of_selects (args := #[]) (mvT hZ (ww hw 38 rfl))) (mvT hZ (ww hw 38 rfl)) (mvT hZ (ww hw 37 rfl)) (by decide) (backOf (W := 0) (rm6_16 l Z a0 hw [] b21 b2 b6 b18  T152.heap n0  p152_0 p152_1 p152_2 p152_3    ) hZ (ww hw 39 rfl) (ww hw 4 rfl) (by decide) (by decide)) q155a q155c (g := (mkF m 143 (Sh6 q1 q2 b2 b6 b10 b14 b18 b21) [(.long b18), (.int b6), (.int b2), (.ref b21)])) rfl (by rw [hml]; rfl) (Steps.refl _) (argsL := [(.int b2), (.int b6), (.long b18)]) (rest := []) (lenOf pd_28ZZJ29V rfl) rfl (by show 2 * 0 + _ ≤ _; exact Nat.le_of_eq rfl) (hb hby at_143) (fun _ _ => ⟨rfl, rfl, (by decide : 1 + 0 ≤ _), (by decide : 3 + 0 ≤ _)⟩)
                dsimp only [Pt.U, Pt.locs, Pt.cells, Pt.slots] at X155 l155 y155 z155 st155 hQ155
                subst l155 y155 z155
                obtain ⟨rfl, N155q, e155⟩ := hQ155
                have N155 := Fr.app N152 N155q
                refine GoW.sg (mkF m 146 (Sh6 q1 q2 b2 b6 b10 b14 b18 b21) []) (fun t k => st155.trans k) ?_
                refine GoW.sg (mkF m 148 (Sh6 q1 q2 b2 b6 b10 b14 b18 b21) [(.ref b21)]) (fun t k => XS.aload X155.here hx rfl (hb hby at_146) rfl rfl k) ?_
                obtain ⟨cq158, kq158, q158a, q158b, q158c⟩ := isOf hZ e155 p152_0
                obtain ⟨_, _, ⟨T158, L158, k158, n158⟩, -, X158, ⟨Lc158, hQ158, l158, y158, z158⟩, st158⟩ := X155.virtualBack hx (y := (⟨"com/example/spindle/spindle/SpinRule", "handedOn", "()V"⟩ : MethodName)) (z := (⟨"com/example/spindle/spindle/SpinRule", "handedOn", "()V"⟩ : MethodName)) hown (mvT hZ (ww hw 13 rfl)) (mvT hZ (ww hw 14 rfl)) (notFace_of_selects (args := #[]) (mvT hZ (ww hw 16 rfl))) (mvT hZ (ww hw 16 rfl)) (mvT hZ (ww hw 15 rfl)) (by decide) (backOf (W := 0) (rm3_17 l Z a0 hw [] b21  T152.heap n0  p152_0 p152_1 p152_2 p152_3 g_b21   ) hZ (ww hw 17 rfl) (ww hw 4 rfl) (by decide) (by decide)) q158a q158c (g := (mkF m 148 (Sh6 q1 q2 b2 b6 b10 b14 b18 b21) [(.ref b21)])) rfl (by rw [hml]; rfl) (Steps.refl _) (argsL := []) (rest := []) (lenOf pd_2829V rfl) rfl (by show 2 * 0 + _ ≤ _; exact Nat.le_of_eq rfl) (hb hby at_148) (fun _ _ => ⟨rfl, e155, (by decide : 1 + 0 ≤ _), (by decide : 3 + 0 ≤ _)⟩)
                dsimp only [Pt.U, Pt.locs, Pt.cells, Pt.slots] at X158 l158 y158 z158 st158 hQ158
                subst l158 y158 z158
                obtain ⟨rfl, N158q, K158, p158_0, p158_1, p158_2, p158_3⟩ := hQ158
                have N158 := Fr.app N155 N158q
                have Zs_158 : n0 ≤ T158.heap.size := Nat.le_trans Zs_152 K158.1
                refine GoW.sg (mkF m 151 (Sh6 q1 q2 b2 b6 b10 b14 b18 b21) []) (fun t k => st158.trans k) ?_
                refine GoW.sg (mkF m 153 (Sh6 q1 q2 b2 b6 b10 b14 b18 b21) [(.ref b21)]) (fun t k => XS.aload X158.here hx rfl (hb hby at_151) rfl rfl k) ?_
                refine GoW.sg (mkF m 156 (Sh6 q1 q2 b2 b6 b10 b14 b18 b21) [(.long 9223372036854775807), (.ref b21)]) (fun t k => X158.ldc2Long hx hown (mvT hZ (ww hw 20 rfl)) (g := (mkF m 153 (Sh6 q1 q2 b2 b6 b10 b14 b18 b21) [(.ref b21)])) rfl (hb hby at_153) t k) ?_
                obtain ⟨cq169, kq169, q169a, q169b, q169c⟩ := isOf hZ rfl p158_0
                obtain ⟨_, _, ⟨T169, L169, k169, n169⟩, -, X169, ⟨Lc169, hQ169, l169, y169, z169⟩, st169⟩ := X158.virtualBack hx (y := (⟨"com/example/spindle/spindle/SpinRule", "spinNanos", "(J)J"⟩ : MethodName)) (z := (⟨"com/example/spindle/spindle/SpinRule", "spinNanos", "(J)J"⟩ : MethodName)) hown (mvT hZ (ww hw 21 rfl)) (mvT hZ (ww hw 22 rfl)) (notFace_of_selects (args := #[]) (mvT hZ (ww hw 24 rfl))) (mvT hZ (ww hw 24 rfl)) (mvT hZ (ww hw 23 rfl)) (by decide) (backOf (W := 0) (rm4_18 l Z a0 hw [] b21  T158.heap n0  p158_0 p158_1 p158_2 p158_3 g_b21   ) hZ (ww hw 25 rfl) (ww hw 4 rfl) (by decide) (by decide)) q169a q169c (g := (mkF m 156 (Sh6 q1 q2 b2 b6 b10 b14 b18 b21) [(.long 9223372036854775807), (.ref b21)])) rfl (by rw [hml]; rfl) (Steps.refl _) (argsL := [(.long (9223372036854775807 : Int64))]) (rest := []) (lenOf pd_28J29J rfl) rfl (by show 2 * 0 + _ ≤ _; exact Nat.le_of_eq rfl) (hb hby at_156) (fun _ _ => ⟨rfl, rfl, (by decide : 1 + 0 ≤ _), (by decide : 3 + 0 ≤ _)⟩)
                dsimp only [Pt.U, Pt.locs, Pt.cells, Pt.slots] at X169 l169 y169 z169 st169 hQ169
                subst l169 y169 z169
                obtain ⟨rfl, N169q, K169, p169_0, p169_1, p169_2, p169_3⟩ := hQ169
                have N169 := Fr.app N158 N169q
                have Zs_169 : n0 ≤ T169.heap.size := Nat.le_trans Zs_158 K169.1
                refine GoW.sg (mkF m 159 (Sh6 q1 q2 b2 b6 b10 b14 b18 b21) [(.long 20000)]) (fun t k => st169.trans k) ?_
                refine GoW.sg (mkF m 161 (Sh10 q1 q2 b2 b6 b10 b14 b18 b21 20000) []) (fun t k => XS.lstore X169.here hx rfl (hb hby at_159) rfl (l' := (Sh10 q1 q2 b2 b6 b10 b14 b18 b21 20000)) rfl k) ?_
                refine GoW.sg (mkF m 163 (Sh10 q1 q2 b2 b6 b10 b14 b18 b21 20000) [(.int b10)]) (fun t k => XS.iload X169.here hx rfl (hb hby at_161) rfl k) ?_
                refine GoW.sg (mkF m 183 (Sh10 q1 q2 b2 b6 b10 b14 b18 b21 20000) []) (fun t k => XS.ifYes X169.here hx rfl (pc0 := 163) (pc' := 183) rfl (hb hby at_163) rfl ((if0 _ _).trans (teq c143).1) (by decide) (by decide) k) ?_
                refine GoW.sg (mkF m 184 (Sh10 q1 q2 b2 b6 b10 b14 b18 b21 20000) [(.int 0)]) (fun t k => XS.iconst X169.here hx rfl (hb hby at_183) k) ?_
                refine GoW.sg (mkF m 186 (Sh11 q1 q2 b2 b6 b10 b14 b18 b21 20000 0) []) (fun t k => XS.istore X169.here hx rfl (hb hby at_184) rfl (l' := (Sh11 q1 q2 b2 b6 b10 b14 b18 b21 20000 0)) rfl k) ?_
                refine GoW.sg (mkF m 187 (Sh11 q1 q2 b2 b6 b10 b14 b18 b21 20000 0) [(.int b2)]) (fun t k => XS.iloadN X169.here hx rfl (hb hby at_186) rfl k) ?_
                have J209_174 : ∀ b173 : Int32, b173 = (if b2 = (0 : Int32) then (0 : Int32) else (if b6 = (0 : Int32) then (0 : Int32) else (if b18 < (20000 : Int64) then (1 : Int32) else (0 : Int32)))) → GoW p e below s (ValQ (.int (1 : Int32)) n0) room_1.cells room_1.slots (T169.setTop (mkF m 209 (Sh11 q1 q2 b2 b6 b10 b14 b18 b21 20000 0) [(.int b173)])) := by
                  intro b173 hb173
                  refine GoW.sg (mkF m 211 (Sh12 q1 q2 b2 b6 b10 b14 b18 b21 20000 0 b173) []) (fun t k => XS.istore X169.here hx rfl (hb hby at_209) rfl (l' := (Sh12 q1 q2 b2 b6 b10 b14 b18 b21 20000 0 b173)) rfl k) ?_
                  refine GoW.sg (mkF m 213 (Sh12 q1 q2 b2 b6 b10 b14 b18 b21 20000 0 b173) [(.int b14)]) (fun t k => XS.iload X169.here hx rfl (hb hby at_211) rfl k) ?_
                  refine GoW.sg (mkF m 236 (Sh12 q1 q2 b2 b6 b10 b14 b18 b21 20000 0 b173) []) (fun t k => XS.ifYes X169.here hx rfl (pc0 := 213) (pc' := 236) rfl (hb hby at_213) rfl ((if0 _ _).trans (teq c142).1) (by decide) (by decide) k) ?_
                  refine GoW.sg (mkF m 238 (Sh12 q1 q2 b2 b6 b10 b14 b18 b21 20000 0 b173) [(.int 0)]) (fun t k => XS.iload X169.here hx rfl (hb hby at_236) rfl k) ?_
                  refine GoW.sg (mkF m 246 (Sh12 q1 q2 b2 b6 b10 b14 b18 b21 20000 0 b173) []) (fun t k => XS.ifYes X169.here hx rfl (pc0 := 238) (pc' := 246) rfl (hb hby at_238) rfl (by decide) (by decide) (by decide) k) ?_
                  refine GoW.sg (mkF m 247 (Sh12 q1 q2 b2 b6 b10 b14 b18 b21 20000 0 b173) [(.int 1)]) (fun t k => XS.iconst X169.here hx rfl (hb hby at_246) k) ?_
                  refine GoW.sg (mkF m 251 (Sh12 q1 q2 b2 b6 b10 b14 b18 b21 20000 0 b173) [(.int 1)]) (fun t k => XS.goto X169.here hx rfl (pc0 := 247) (pc' := 251) rfl (hb hby at_247) (by decide) (by decide) k) ?_
                  refine GoW.sg (mkF m 253 (Sh13 q1 q2 b2 b6 b10 b14 b18 b21 20000 0 b173 1) []) (fun t k => XS.istore X169.here hx rfl (hb hby at_251) rfl (l' := (Sh13 q1 q2 b2 b6 b10 b14 b18 b21 20000 0 b173 1)) rfl k) ?_
                  refine GoW.sg (mkF m 255 (Sh13 q1 q2 b2 b6 b10 b14 b18 b21 20000 0 b173 1) [(.long 20000)]) (fun t k => XS.lload X169.here hx rfl (hb hby at_253) rfl k) ?_
                  refine GoW.sg (mkF m 257 (Sh13 q1 q2 b2 b6 b10 b14 b18 b21 20000 0 b173 1) [(.int 1), (.long 20000)]) (fun t k => XS.iload X169.here hx rfl (hb hby at_255) rfl k) ?_
                  refine GoW.sg (mkF m 260 (Sh13 q1 q2 b2 b6 b10 b14 b18 b21 20000 0 b173 1) [(.long 20000)]) (fun t k => XS.ifNo X169.here hx rfl (hb hby at_257) rfl (by decide) k) ?_
                  refine GoW.sg (mkF m 263 (Sh13 q1 q2 b2 b6 b10 b14 b18 b21 20000 0 b173 1) [(.long 20000), (.long 20000)]) (fun t k => X169.ldc2Long hx hown (mvT hZ (ww hw 34 rfl)) (g := (mkF m 260 (Sh13 q1 q2 b2 b6 b10 b14 b18 b21 20000 0 b173 1) [(.long 20000)])) rfl (hb hby at_260) t k) ?_
                  refine GoW.sg (mkF m 267 (Sh13 q1 q2 b2 b6 b10 b14 b18 b21 20000 0 b173 1) [(.long 20000), (.long 20000)]) (fun t k => XS.goto X169.here hx rfl (pc0 := 263) (pc' := 267) rfl (hb hby at_263) (by decide) (by decide) k) ?_
                  refine GoW.sg (mkF m 268 (Sh13 q1 q2 b2 b6 b10 b14 b18 b21 20000 0 b173 1) [(.int (lcmpW (20000 : Int64) (20000 : Int64)))]) (fun t k => XS.lcmp X169.here hx rfl (hb hby at_267) rfl k) ?_
                  refine GoW.sg (mkF m 271 (Sh13 q1 q2 b2 b6 b10 b14 b18 b21 20000 0 b173 1) []) (fun t k => XS.ifNo X169.here hx rfl (hb hby at_268) rfl (by decide) k) ?_
                  refine GoW.sg (mkF m 272 (Sh13 q1 q2 b2 b6 b10 b14 b18 b21 20000 0 b173 1) [(.int 1)]) (fun t k => XS.iconst X169.here hx rfl (hb hby at_271) k) ?_
                  refine GoW.sg (mkF m 276 (Sh13 q1 q2 b2 b6 b10 b14 b18 b21 20000 0 b173 1) [(.int 1)]) (fun t k => XS.goto X169.here hx rfl (pc0 := 272) (pc' := 276) rfl (hb hby at_272) (by decide) (by decide) k) ?_
                  refine GoW.retN X169 hx (t := .boolean) Bd.returns (by simp) (hb hby at_276) Bd.notSynchronized ?_ (by decide) (by decide)
                  exact ⟨rfl, N169⟩
                by_cases c175 : b2 = (0 : Int32)
                · refine GoW.sg (mkF m 208 (Sh11 q1 q2 b2 b6 b10 b14 b18 b21 20000 0) []) (fun t k => XS.ifYes X169.here hx rfl (pc0 := 187) (pc' := 208) rfl (hb hby at_187) rfl ((if0 _ _).trans (teq c175).1) (by decide) (by decide) k) ?_
                  refine GoW.sg (mkF m 209 (Sh11 q1 q2 b2 b6 b10 b14 b18 b21 20000 0) [(.int 0)]) (fun t k => XS.iconst X169.here hx rfl (hb hby at_208) k) ?_
                  exact J209_174 _ (by rw [if_pos c175])
                · refine GoW.sg (mkF m 190 (Sh11 q1 q2 b2 b6 b10 b14 b18 b21 20000 0) []) (fun t k => XS.ifNo X169.here hx rfl (hb hby at_187) rfl ((if0 _ _).trans (feq c175).1) k) ?_
                  refine GoW.sg (mkF m 192 (Sh11 q1 q2 b2 b6 b10 b14 b18 b21 20000 0) [(.int b6)]) (fun t k => XS.iload X169.here hx rfl (hb hby at_190) rfl k) ?_
                  by_cases c176 : b6 = (0 : Int32)
                  · refine GoW.sg (mkF m 208 (Sh11 q1 q2 b2 b6 b10 b14 b18 b21 20000 0) []) (fun t k => XS.ifYes X169.here hx rfl (pc0 := 192) (pc' := 208) rfl (hb hby at_192) rfl ((if0 _ _).trans (teq c176).1) (by decide) (by decide) k) ?_
                    refine GoW.sg (mkF m 209 (Sh11 q1 q2 b2 b6 b10 b14 b18 b21 20000 0) [(.int 0)]) (fun t k => XS.iconst X169.here hx rfl (hb hby at_208) k) ?_
                    exact J209_174 _ (by rw [if_neg c175, if_pos c176])
                  · refine GoW.sg (mkF m 195 (Sh11 q1 q2 b2 b6 b10 b14 b18 b21 20000 0) []) (fun t k => XS.ifNo X169.here hx rfl (hb hby at_192) rfl ((if0 _ _).trans (feq c176).1) k) ?_
                    refine GoW.sg (mkF m 197 (Sh11 q1 q2 b2 b6 b10 b14 b18 b21 20000 0) [(.long b18)]) (fun t k => XS.lload X169.here hx rfl (hb hby at_195) rfl k) ?_
                    refine GoW.sg (mkF m 200 (Sh11 q1 q2 b2 b6 b10 b14 b18 b21 20000 0) [(.long 20000), (.long b18)]) (fun t k => X169.ldc2Long hx hown (mvT hZ (ww hw 34 rfl)) (g := (mkF m 197 (Sh11 q1 q2 b2 b6 b10 b14 b18 b21 20000 0) [(.long b18)])) rfl (hb hby at_197) t k) ?_
                    refine GoW.sg (mkF m 201 (Sh11 q1 q2 b2 b6 b10 b14 b18 b21 20000 0) [(.int (lcmpW b18 (20000 : Int64)))]) (fun t k => XS.lcmp X169.here hx rfl (hb hby at_200) rfl k) ?_
                    by_cases c177 : b18 < (20000 : Int64)
                    · refine GoW.sg (mkF m 204 (Sh11 q1 q2 b2 b6 b10 b14 b18 b21 20000 0) []) (fun t k => XS.ifNo X169.here hx rfl (hb hby at_201) rfl ((if0 _ _).trans (tlt ((lw_lt _ _).mpr c177)).2.1) k) ?_
                      refine GoW.sg (mkF m 205 (Sh11 q1 q2 b2 b6 b10 b14 b18 b21 20000 0) [(.int 1)]) (fun t k => XS.iconst X169.here hx rfl (hb hby at_204) k) ?_
                      refine GoW.sg (mkF m 209 (Sh11 q1 q2 b2 b6 b10 b14 b18 b21 20000 0) [(.int 1)]) (fun t k => XS.goto X169.here hx rfl (pc0 := 205) (pc' := 209) rfl (hb hby at_205) (by decide) (by decide) k) ?_
                      exact J209_174 _ (by rw [if_neg c175, if_neg c176, if_pos c177])
                    · refine GoW.sg (mkF m 208 (Sh11 q1 q2 b2 b6 b10 b14 b18 b21 20000 0) []) (fun t k => XS.ifYes X169.here hx rfl (pc0 := 201) (pc' := 208) rfl (hb hby at_201) rfl ((if0 _ _).trans (flt (mt (lw_lt _ _).mp c177)).2.1) (by decide) (by decide) k) ?_
                      refine GoW.sg (mkF m 209 (Sh11 q1 q2 b2 b6 b10 b14 b18 b21 20000 0) [(.int 0)]) (fun t k => XS.iconst X169.here hx rfl (hb hby at_208) k) ?_
                      exact J209_174 _ (by rw [if_neg c175, if_neg c176, if_neg c177])
              · refine GoW.sg (mkF m 122 (Sh6 q1 q2 b2 b6 b10 b14 b18 b21) []) (fun t k => XS.ifNo X141.here hx rfl (hb hby at_119) rfl ((if0 _ _).trans (feq c143).1) k) ?_
                refine GoW.sg (mkF m 124 (Sh6 q1 q2 b2 b6 b10 b14 b18 b21) [(.ref b21)]) (fun t k => XS.aload X141.here hx rfl (hb hby at_122) rfl rfl k) ?_
                obtain ⟨cq180, kq180, q180a, q180b, q180c⟩ := isOf hZ rfl p141_0
                obtain ⟨_, _, ⟨T180, L180, k180, n180⟩, -, X180, ⟨Lc180, hQ180, l180, y180, z180⟩, st180⟩ := X141.virtualBack hx (y := (⟨"com/example/spindle/spindle/SpinRule", "handedOn", "()V"⟩ : MethodName)) (z := (⟨"com/example/spindle/spindle/SpinRule", "handedOn", "()V"⟩ : MethodName)) hown (mvT hZ (ww hw 13 rfl)) (mvT hZ (ww hw 14 rfl)) (notFace_of_selects (args := #[]) (mvT hZ (ww hw 16 rfl))) (mvT hZ (ww hw 16 rfl)) (mvT hZ (ww hw 15 rfl)) (by decide) (backOf (W := 0) (rm3_19 l Z a0 hw [] b21  T141.heap n0  p141_0 p141_1 p141_2 p141_3 g_b21   ) hZ (ww hw 17 rfl) (ww hw 4 rfl) (by decide) (by decide)) q180a q180c (g := (mkF m 124 (Sh6 q1 q2 b2 b6 b10 b14 b18 b21) [(.ref b21)])) rfl (by rw [hml]; rfl) (Steps.refl _) (argsL := []) (rest := []) (lenOf pd_2829V rfl) rfl (by show 2 * 0 + _ ≤ _; exact Nat.le_of_eq rfl) (hb hby at_124) (fun _ _ => ⟨rfl, rfl, (by decide : 1 + 0 ≤ _), (by decide : 3 + 0 ≤ _)⟩)
                dsimp only [Pt.U, Pt.locs, Pt.cells, Pt.slots] at X180 l180 y180 z180 st180 hQ180
                subst l180 y180 z180
                obtain ⟨rfl, N180q, K180, p180_0, p180_1, p180_2, p180_3⟩ := hQ180
                have N180 := Fr.app N141 N180q
                have Zs_180 : n0 ≤ T180.heap.size := Nat.le_trans Zs_141 K180.1
                refine GoW.sg (mkF m 127 (Sh6 q1 q2 b2 b6 b10 b14 b18 b21) []) (fun t k => st180.trans k) ?_
                refine GoW.sg (mkF m 129 (Sh6 q1 q2 b2 b6 b10 b14 b18 b21) [(.ref b21)]) (fun t k => XS.aload X180.here hx rfl (hb hby at_127) rfl rfl k) ?_
                refine GoW.sg (mkF m 132 (Sh6 q1 q2 b2 b6 b10 b14 b18 b21) [(.long 9223372036854775807), (.ref b21)]) (fun t k => X180.ldc2Long hx hown (mvT hZ (ww hw 20 rfl)) (g := (mkF m 129 (Sh6 q1 q2 b2 b6 b10 b14 b18 b21) [(.ref b21)])) rfl (hb hby at_129) t k) ?_
                obtain ⟨cq191, kq191, q191a, q191b, q191c⟩ := isOf hZ rfl p180_0
                obtain ⟨_, _, ⟨T191, L191, k191, n191⟩, -, X191, ⟨Lc191, hQ191, l191, y191, z191⟩, st191⟩ := X180.virtualBack hx (y := (⟨"com/example/spindle/spindle/SpinRule", "spinNanos", "(J)J"⟩ : MethodName)) (z := (⟨"com/example/spindle/spindle/SpinRule", "spinNanos", "(J)J"⟩ : MethodName)) hown (mvT hZ (ww hw 21 rfl)) (mvT hZ (ww hw 22 rfl)) (notFace_of_selects (args := #[]) (mvT hZ (ww hw 24 rfl))) (mvT hZ (ww hw 24 rfl)) (mvT hZ (ww hw 23 rfl)) (by decide) (backOf (W := 0) (rm4_20 l Z a0 hw [] b21  T180.heap n0  p180_0 p180_1 p180_2 p180_3 g_b21   ) hZ (ww hw 25 rfl) (ww hw 4 rfl) (by decide) (by decide)) q191a q191c (g := (mkF m 132 (Sh6 q1 q2 b2 b6 b10 b14 b18 b21) [(.long 9223372036854775807), (.ref b21)])) rfl (by rw [hml]; rfl) (Steps.refl _) (argsL := [(.long (9223372036854775807 : Int64))]) (rest := []) (lenOf pd_28J29J rfl) rfl (by show 2 * 0 + _ ≤ _; exact Nat.le_of_eq rfl) (hb hby at_132) (fun _ _ => ⟨rfl, rfl, (by decide : 1 + 0 ≤ _), (by decide : 3 + 0 ≤ _)⟩)
                dsimp only [Pt.U, Pt.locs, Pt.cells, Pt.slots] at X191 l191 y191 z191 st191 hQ191
                subst l191 y191 z191
                obtain ⟨rfl, N191q, K191, p191_0, p191_1, p191_2, p191_3⟩ := hQ191
                have N191 := Fr.app N180 N191q
                have Zs_191 : n0 ≤ T191.heap.size := Nat.le_trans Zs_180 K191.1
                refine GoW.sg (mkF m 135 (Sh6 q1 q2 b2 b6 b10 b14 b18 b21) [(.long 20000)]) (fun t k => st191.trans k) ?_
                refine GoW.sg (mkF m 136 (Sh6 q1 q2 b2 b6 b10 b14 b18 b21) []) (fun t k => own_pop2L X191.here hx rfl (hb hby at_135) rfl k) ?_
                by_cases c192 : b18 < (20000 : Int64)
                · show GoW p e below s (ValQ (.int (1 : Int32)) n0) room_1.cells room_1.slots (T191.setTop (mkF m 136 (Sh6 q1 q2 b2 b6 b10 b14 b18 b21) []))
                  rcases own_01 hb2 with cc | cc
                  · subst cc
                    show GoW p e below s (ValQ (.int (1 : Int32)) n0) room_1.cells room_1.slots (T191.setTop (mkF m 136 (Sh6 q1 q2 0 b6 b10 b14 b18 b21) []))
                    rcases own_01 hb6 with cc | cc
                    · subst cc
                      show GoW p e below s (ValQ (.int (1 : Int32)) n0) room_1.cells room_1.slots (T191.setTop (mkF m 136 (Sh6 q1 q2 0 0 b10 b14 b18 b21) []))
                      refine GoW.sg (mkF m 138 (Sh6 q1 q2 0 0 b10 b14 b18 b21) [(.ref b21)]) (fun t k => XS.aload X191.here hx rfl (hb hby at_136) rfl rfl k) ?_
                      refine GoW.sg (mkF m 139 (Sh6 q1 q2 0 0 b10 b14 b18 b21) [(.int 0), (.ref b21)]) (fun t k => XS.iloadN X191.here hx rfl (hb hby at_138) rfl k) ?_
                      refine GoW.sg (mkF m 141 (Sh6 q1 q2 0 0 b10 b14 b18 b21) [(.int 0), (.int 0), (.ref b21)]) (fun t k => XS.iload X191.here hx rfl (hb hby at_139) rfl k) ?_
                      refine GoW.sg (mkF m 143 (Sh6 q1 q2 0 0 b10 b14 b18 b21) [(.long b18), (.int 0), (.int 0), (.ref b21)]) (fun t k => XS.lload X191.here hx rfl (hb hby at_141) rfl k) ?_
                      obtain ⟨cq195, kq195, q195a, q195b, q195c⟩ := isOf hZ rfl p191_0
                      obtain ⟨_, _, ⟨T195, L195, k195, n195⟩, -, X195, ⟨Lc195, hQ195, l195, y195, z195⟩, st195⟩ := X191.virtualBack hx (y := (⟨"com/example/spindle/spindle/SpinRule", "countWait", "(ZZJ)V"⟩ : MethodName)) (z := (⟨"com/example/spindle/spindle/SpinRule", "countWait", "(ZZJ)V"⟩ : MethodName)) hown (mvT hZ (ww hw 35 rfl)) (mvT hZ (ww hw 36 rfl)) (notFace_of_selects (args := #[]) (mvT hZ (ww hw 38 rfl))) (mvT hZ (ww hw 38 rfl)) (mvT hZ (ww hw 37 rfl)) (by decide) (backOf (W := 0) (rm6_21 l Z a0 hw [] b21 b18  T191.heap n0  p191_0 p191_1 p191_2 p191_3   c192 ) hZ (ww hw 39 rfl) (ww hw 4 rfl) (by decide) (by decide)) q195a q195c (g := (mkF m 143 (Sh6 q1 q2 0 0 b10 b14 b18 b21) [(.long b18), (.int 0), (.int 0), (.ref b21)])) rfl (by rw [hml]; rfl) (Steps.refl _) (argsL := [(.int (0 : Int32)), (.int (0 : Int32)), (.long b18)]) (rest := []) (lenOf pd_28ZZJ29V rfl) rfl (by show 2 * 0 + _ ≤ _; exact Nat.le_of_eq rfl) (hb hby at_143) (fun _ _ => ⟨rfl, rfl, (by decide : 1 + 0 ≤ _), (by decide : 3 + 0 ≤ _)⟩)
                      dsimp only [Pt.U, Pt.locs, Pt.cells, Pt.slots] at X195 l195 y195 z195 st195 hQ195
                      subst l195 y195 z195
                      obtain ⟨rfl, N195q, e195⟩ := hQ195
                      have N195 := Fr.app N191 N195q
                      refine GoW.sg (mkF m 146 (Sh6 q1 q2 0 0 b10 b14 b18 b21) []) (fun t k => st195.trans k) ?_
                      refine GoW.sg (mkF m 148 (Sh6 q1 q2 0 0 b10 b14 b18 b21) [(.ref b21)]) (fun t k => XS.aload X195.here hx rfl (hb hby at_146) rfl rfl k) ?_
                      obtain ⟨cq196, kq196, q196a, q196b, q196c⟩ := isOf hZ e195 p191_0
                      obtain ⟨_, _, ⟨T196, L196, k196, n196⟩, -, X196, ⟨Lc196, hQ196, l196, y196, z196⟩, st196⟩ := X195.virtualBack hx (y := (⟨"com/example/spindle/spindle/SpinRule", "handedOn", "()V"⟩ : MethodName)) (z := (⟨"com/example/spindle/spindle/SpinRule", "handedOn", "()V"⟩ : MethodName)) hown (mvT hZ (ww hw 13 rfl)) (mvT hZ (ww hw 14 rfl)) (notFace_of_selects (args := #[]) (mvT hZ (ww hw 16 rfl))) (mvT hZ (ww hw 16 rfl)) (mvT hZ (ww hw 15 rfl)) (by decide) (backOf (W := 0) (rm3_19 l Z a0 hw [] b21  T191.heap n0  p191_0 p191_1 p191_2 p191_3 g_b21   ) hZ (ww hw 17 rfl) (ww hw 4 rfl) (by decide) (by decide)) q196a q196c (g := (mkF m 148 (Sh6 q1 q2 0 0 b10 b14 b18 b21) [(.ref b21)])) rfl (by rw [hml]; rfl) (Steps.refl _) (argsL := []) (rest := []) (lenOf pd_2829V rfl) rfl (by show 2 * 0 + _ ≤ _; exact Nat.le_of_eq rfl) (hb hby at_148) (fun _ _ => ⟨rfl, e195, (by decide : 1 + 0 ≤ _), (by decide : 3 + 0 ≤ _)⟩)
                      dsimp only [Pt.U, Pt.locs, Pt.cells, Pt.slots] at X196 l196 y196 z196 st196 hQ196
                      subst l196 y196 z196
                      obtain ⟨rfl, N196q, K196, p196_0, p196_1, p196_2, p196_3⟩ := hQ196
                      have N196 := Fr.app N195 N196q
                      have Zs_196 : n0 ≤ T196.heap.size := Nat.le_trans Zs_191 K196.1
                      refine GoW.sg (mkF m 151 (Sh6 q1 q2 0 0 b10 b14 b18 b21) []) (fun t k => st196.trans k) ?_
                      refine GoW.sg (mkF m 153 (Sh6 q1 q2 0 0 b10 b14 b18 b21) [(.ref b21)]) (fun t k => XS.aload X196.here hx rfl (hb hby at_151) rfl rfl k) ?_
                      refine GoW.sg (mkF m 156 (Sh6 q1 q2 0 0 b10 b14 b18 b21) [(.long 9223372036854775807), (.ref b21)]) (fun t k => X196.ldc2Long hx hown (mvT hZ (ww hw 20 rfl)) (g := (mkF m 153 (Sh6 q1 q2 0 0 b10 b14 b18 b21) [(.ref b21)])) rfl (hb hby at_153) t k) ?_
                      obtain ⟨cq197, kq197, q197a, q197b, q197c⟩ := isOf hZ rfl p196_0
                      obtain ⟨_, _, ⟨T197, L197, k197, n197⟩, -, X197, ⟨Lc197, hQ197, l197, y197, z197⟩, st197⟩ := X196.virtualBack hx (y := (⟨"com/example/spindle/spindle/SpinRule", "spinNanos", "(J)J"⟩ : MethodName)) (z := (⟨"com/example/spindle/spindle/SpinRule", "spinNanos", "(J)J"⟩ : MethodName)) hown (mvT hZ (ww hw 21 rfl)) (mvT hZ (ww hw 22 rfl)) (notFace_of_selects (args := #[]) (mvT hZ (ww hw 24 rfl))) (mvT hZ (ww hw 24 rfl)) (mvT hZ (ww hw 23 rfl)) (by decide) (backOf (W := 0) (rm4_20 l Z a0 hw [] b21  T196.heap n0  p196_0 p196_1 p196_2 p196_3 g_b21   ) hZ (ww hw 25 rfl) (ww hw 4 rfl) (by decide) (by decide)) q197a q197c (g := (mkF m 156 (Sh6 q1 q2 0 0 b10 b14 b18 b21) [(.long 9223372036854775807), (.ref b21)])) rfl (by rw [hml]; rfl) (Steps.refl _) (argsL := [(.long (9223372036854775807 : Int64))]) (rest := []) (lenOf pd_28J29J rfl) rfl (by show 2 * 0 + _ ≤ _; exact Nat.le_of_eq rfl) (hb hby at_156) (fun _ _ => ⟨rfl, rfl, (by decide : 1 + 0 ≤ _), (by decide : 3 + 0 ≤ _)⟩)
                      dsimp only [Pt.U, Pt.locs, Pt.cells, Pt.slots] at X197 l197 y197 z197 st197 hQ197
                      subst l197 y197 z197
                      obtain ⟨rfl, N197q, K197, p197_0, p197_1, p197_2, p197_3⟩ := hQ197
                      have N197 := Fr.app N196 N197q
                      have Zs_197 : n0 ≤ T197.heap.size := Nat.le_trans Zs_196 K197.1
                      refine GoW.sg (mkF m 159 (Sh6 q1 q2 0 0 b10 b14 b18 b21) [(.long 20000)]) (fun t k => st197.trans k) ?_
                      refine GoW.sg (mkF m 161 (Sh10 q1 q2 0 0 b10 b14 b18 b21 20000) []) (fun t k => XS.lstore X197.here hx rfl (hb hby at_159) rfl (l' := (Sh10 q1 q2 0 0 b10 b14 b18 b21 20000)) rfl k) ?_
                      refine GoW.sg (mkF m 163 (Sh10 q1 q2 0 0 b10 b14 b18 b21 20000) [(.int b10)]) (fun t k => XS.iload X197.here hx rfl (hb hby at_161) rfl k) ?_
                      refine GoW.sg (mkF m 166 (Sh10 q1 q2 0 0 b10 b14 b18 b21 20000) []) (fun t k => XS.ifNo X197.here hx rfl (hb hby at_163) rfl ((if0 _ _).trans (feq c143).1) k) ?_
                      refine GoW.sg (mkF m 167 (Sh10 q1 q2 0 0 b10 b14 b18 b21 20000) [(.int 0)]) (fun t k => XS.iloadN X197.here hx rfl (hb hby at_166) rfl k) ?_
                      refine GoW.sg (mkF m 170 (Sh10 q1 q2 0 0 b10 b14 b18 b21 20000) []) (fun t k => XS.ifNo X197.here hx rfl (hb hby at_167) rfl (by decide) k) ?_
                      refine GoW.sg (mkF m 172 (Sh10 q1 q2 0 0 b10 b14 b18 b21 20000) [(.long b18)]) (fun t k => XS.lload X197.here hx rfl (hb hby at_170) rfl k) ?_
                      refine GoW.sg (mkF m 175 (Sh10 q1 q2 0 0 b10 b14 b18 b21 20000) [(.long 20000), (.long b18)]) (fun t k => X197.ldc2Long hx hown (mvT hZ (ww hw 34 rfl)) (g := (mkF m 172 (Sh10 q1 q2 0 0 b10 b14 b18 b21 20000) [(.long b18)])) rfl (hb hby at_172) t k) ?_
                      refine GoW.sg (mkF m 176 (Sh10 q1 q2 0 0 b10 b14 b18 b21 20000) [(.int (lcmpW b18 (20000 : Int64)))]) (fun t k => XS.lcmp X197.here hx rfl (hb hby at_175) rfl k) ?_
                      refine GoW.sg (mkF m 183 (Sh10 q1 q2 0 0 b10 b14 b18 b21 20000) []) (fun t k => XS.ifYes X197.here hx rfl (pc0 := 176) (pc' := 183) rfl (hb hby at_176) rfl ((if0 _ _).trans (tlt ((lw_lt _ _).mpr c192)).1) (by decide) (by decide) k) ?_
                      refine GoW.sg (mkF m 184 (Sh10 q1 q2 0 0 b10 b14 b18 b21 20000) [(.int 0)]) (fun t k => XS.iconst X197.here hx rfl (hb hby at_183) k) ?_
                      refine GoW.sg (mkF m 186 (Sh11 q1 q2 0 0 b10 b14 b18 b21 20000 0) []) (fun t k => XS.istore X197.here hx rfl (hb hby at_184) rfl (l' := (Sh11 q1 q2 0 0 b10 b14 b18 b21 20000 0)) rfl k) ?_
                      refine GoW.sg (mkF m 187 (Sh11 q1 q2 0 0 b10 b14 b18 b21 20000 0) [(.int 0)]) (fun t k => XS.iloadN X197.here hx rfl (hb hby at_186) rfl k) ?_
                      refine GoW.sg (mkF m 208 (Sh11 q1 q2 0 0 b10 b14 b18 b21 20000 0) []) (fun t k => XS.ifYes X197.here hx rfl (pc0 := 187) (pc' := 208) rfl (hb hby at_187) rfl (by decide) (by decide) (by decide) k) ?_
                      refine GoW.sg (mkF m 209 (Sh11 q1 q2 0 0 b10 b14 b18 b21 20000 0) [(.int 0)]) (fun t k => XS.iconst X197.here hx rfl (hb hby at_208) k) ?_
                      refine GoW.sg (mkF m 211 (Sh12 q1 q2 0 0 b10 b14 b18 b21 20000 0 0) []) (fun t k => XS.istore X197.here hx rfl (hb hby at_209) rfl (l' := (Sh12 q1 q2 0 0 b10 b14 b18 b21 20000 0 0)) rfl k) ?_
                      refine GoW.sg (mkF m 213 (Sh12 q1 q2 0 0 b10 b14 b18 b21 20000 0 0) [(.int b14)]) (fun t k => XS.iload X197.here hx rfl (hb hby at_211) rfl k) ?_
                      refine GoW.sg (mkF m 236 (Sh12 q1 q2 0 0 b10 b14 b18 b21 20000 0 0) []) (fun t k => XS.ifYes X197.here hx rfl (pc0 := 213) (pc' := 236) rfl (hb hby at_213) rfl ((if0 _ _).trans (teq c142).1) (by decide) (by decide) k) ?_
                      refine GoW.sg (mkF m 238 (Sh12 q1 q2 0 0 b10 b14 b18 b21 20000 0 0) [(.int 0)]) (fun t k => XS.iload X197.here hx rfl (hb hby at_236) rfl k) ?_
                      refine GoW.sg (mkF m 246 (Sh12 q1 q2 0 0 b10 b14 b18 b21 20000 0 0) []) (fun t k => XS.ifYes X197.here hx rfl (pc0 := 238) (pc' := 246) rfl (hb hby at_238) rfl (by decide) (by decide) (by decide) k) ?_
                      refine GoW.sg (mkF m 247 (Sh12 q1 q2 0 0 b10 b14 b18 b21 20000 0 0) [(.int 1)]) (fun t k => XS.iconst X197.here hx rfl (hb hby at_246) k) ?_
                      refine GoW.sg (mkF m 251 (Sh12 q1 q2 0 0 b10 b14 b18 b21 20000 0 0) [(.int 1)]) (fun t k => XS.goto X197.here hx rfl (pc0 := 247) (pc' := 251) rfl (hb hby at_247) (by decide) (by decide) k) ?_
                      refine GoW.sg (mkF m 253 (Sh13 q1 q2 0 0 b10 b14 b18 b21 20000 0 0 1) []) (fun t k => XS.istore X197.here hx rfl (hb hby at_251) rfl (l' := (Sh13 q1 q2 0 0 b10 b14 b18 b21 20000 0 0 1)) rfl k) ?_
                      refine GoW.sg (mkF m 255 (Sh13 q1 q2 0 0 b10 b14 b18 b21 20000 0 0 1) [(.long 20000)]) (fun t k => XS.lload X197.here hx rfl (hb hby at_253) rfl k) ?_
                      refine GoW.sg (mkF m 257 (Sh13 q1 q2 0 0 b10 b14 b18 b21 20000 0 0 1) [(.int 1), (.long 20000)]) (fun t k => XS.iload X197.here hx rfl (hb hby at_255) rfl k) ?_
                      refine GoW.sg (mkF m 260 (Sh13 q1 q2 0 0 b10 b14 b18 b21 20000 0 0 1) [(.long 20000)]) (fun t k => XS.ifNo X197.here hx rfl (hb hby at_257) rfl (by decide) k) ?_
                      refine GoW.sg (mkF m 263 (Sh13 q1 q2 0 0 b10 b14 b18 b21 20000 0 0 1) [(.long 20000), (.long 20000)]) (fun t k => X197.ldc2Long hx hown (mvT hZ (ww hw 34 rfl)) (g := (mkF m 260 (Sh13 q1 q2 0 0 b10 b14 b18 b21 20000 0 0 1) [(.long 20000)])) rfl (hb hby at_260) t k) ?_
                      refine GoW.sg (mkF m 267 (Sh13 q1 q2 0 0 b10 b14 b18 b21 20000 0 0 1) [(.long 20000), (.long 20000)]) (fun t k => XS.goto X197.here hx rfl (pc0 := 263) (pc' := 267) rfl (hb hby at_263) (by decide) (by decide) k) ?_
                      refine GoW.sg (mkF m 268 (Sh13 q1 q2 0 0 b10 b14 b18 b21 20000 0 0 1) [(.int (lcmpW (20000 : Int64) (20000 : Int64)))]) (fun t k => XS.lcmp X197.here hx rfl (hb hby at_267) rfl k) ?_
                      refine GoW.sg (mkF m 271 (Sh13 q1 q2 0 0 b10 b14 b18 b21 20000 0 0 1) []) (fun t k => XS.ifNo X197.here hx rfl (hb hby at_268) rfl (by decide) k) ?_
                      refine GoW.sg (mkF m 272 (Sh13 q1 q2 0 0 b10 b14 b18 b21 20000 0 0 1) [(.int 1)]) (fun t k => XS.iconst X197.here hx rfl (hb hby at_271) k) ?_
                      refine GoW.sg (mkF m 276 (Sh13 q1 q2 0 0 b10 b14 b18 b21 20000 0 0 1) [(.int 1)]) (fun t k => XS.goto X197.here hx rfl (pc0 := 272) (pc' := 276) rfl (hb hby at_272) (by decide) (by decide) k) ?_
                      refine GoW.retN X197 hx (t := .boolean) Bd.returns (by simp) (hb hby at_276) Bd.notSynchronized ?_ (by decide) (by decide)
                      exact ⟨rfl, N197⟩
                    · subst cc
                      show GoW p e below s (ValQ (.int (1 : Int32)) n0) room_1.cells room_1.slots (T191.setTop (mkF m 136 (Sh6 q1 q2 0 1 b10 b14 b18 b21) []))
                      refine GoW.sg (mkF m 138 (Sh6 q1 q2 0 1 b10 b14 b18 b21) [(.ref b21)]) (fun t k => XS.aload X191.here hx rfl (hb hby at_136) rfl rfl k) ?_
                      refine GoW.sg (mkF m 139 (Sh6 q1 q2 0 1 b10 b14 b18 b21) [(.int 0), (.ref b21)]) (fun t k => XS.iloadN X191.here hx rfl (hb hby at_138) rfl k) ?_
                      refine GoW.sg (mkF m 141 (Sh6 q1 q2 0 1 b10 b14 b18 b21) [(.int 1), (.int 0), (.ref b21)]) (fun t k => XS.iload X191.here hx rfl (hb hby at_139) rfl k) ?_
                      refine GoW.sg (mkF m 143 (Sh6 q1 q2 0 1 b10 b14 b18 b21) [(.long b18), (.int 1), (.int 0), (.ref b21)]) (fun t k => XS.lload X191.here hx rfl (hb hby at_141) rfl k) ?_
                      obtain ⟨cq200, kq200, q200a, q200b, q200c⟩ := isOf hZ rfl p191_0
                      obtain ⟨_, _, ⟨T200, L200, k200, n200⟩, -, X200, ⟨Lc200, hQ200, l200, y200, z200⟩, st200⟩ := X191.virtualBack hx (y := (⟨"com/example/spindle/spindle/SpinRule", "countWait", "(ZZJ)V"⟩ : MethodName)) (z := (⟨"com/example/spindle/spindle/SpinRule", "countWait", "(ZZJ)V"⟩ : MethodName)) hown (mvT hZ (ww hw 35 rfl)) (mvT hZ (ww hw 36 rfl)) (notFace_of_selects (args := #[]) (mvT hZ (ww hw 38 rfl))) (mvT hZ (ww hw 38 rfl)) (mvT hZ (ww hw 37 rfl)) (by decide) (backOf (W := 0) (rm6_22 l Z a0 hw [] b21 b18  T191.heap n0  p191_0 p191_1 p191_2 p191_3   c192 ) hZ (ww hw 39 rfl) (ww hw 4 rfl) (by decide) (by decide)) q200a q200c (g := (mkF m 143 (Sh6 q1 q2 0 1 b10 b14 b18 b21) [(.long b18), (.int 1), (.int 0), (.ref b21)])) rfl (by rw [hml]; rfl) (Steps.refl _) (argsL := [(.int (0 : Int32)), (.int (1 : Int32)), (.long b18)]) (rest := []) (lenOf pd_28ZZJ29V rfl) rfl (by show 2 * 0 + _ ≤ _; exact Nat.le_of_eq rfl) (hb hby at_143) (fun _ _ => ⟨rfl, rfl, (by decide : 1 + 0 ≤ _), (by decide : 3 + 0 ≤ _)⟩)
                      dsimp only [Pt.U, Pt.locs, Pt.cells, Pt.slots] at X200 l200 y200 z200 st200 hQ200
                      subst l200 y200 z200
                      obtain ⟨rfl, N200q, e200⟩ := hQ200
                      have N200 := Fr.app N191 N200q
                      refine GoW.sg (mkF m 146 (Sh6 q1 q2 0 1 b10 b14 b18 b21) []) (fun t k => st200.trans k) ?_
                      refine GoW.sg (mkF m 148 (Sh6 q1 q2 0 1 b10 b14 b18 b21) [(.ref b21)]) (fun t k => XS.aload X200.here hx rfl (hb hby at_146) rfl rfl k) ?_
                      obtain ⟨cq201, kq201, q201a, q201b, q201c⟩ := isOf hZ e200 p191_0
                      obtain ⟨_, _, ⟨T201, L201, k201, n201⟩, -, X201, ⟨Lc201, hQ201, l201, y201, z201⟩, st201⟩ := X200.virtualBack hx (y := (⟨"com/example/spindle/spindle/SpinRule", "handedOn", "()V"⟩ : MethodName)) (z := (⟨"com/example/spindle/spindle/SpinRule", "handedOn", "()V"⟩ : MethodName)) hown (mvT hZ (ww hw 13 rfl)) (mvT hZ (ww hw 14 rfl)) (notFace_of_selects (args := #[]) (mvT hZ (ww hw 16 rfl))) (mvT hZ (ww hw 16 rfl)) (mvT hZ (ww hw 15 rfl)) (by decide) (backOf (W := 0) (rm3_19 l Z a0 hw [] b21  T191.heap n0  p191_0 p191_1 p191_2 p191_3 g_b21   ) hZ (ww hw 17 rfl) (ww hw 4 rfl) (by decide) (by decide)) q201a q201c (g := (mkF m 148 (Sh6 q1 q2 0 1 b10 b14 b18 b21) [(.ref b21)])) rfl (by rw [hml]; rfl) (Steps.refl _) (argsL := []) (rest := []) (lenOf pd_2829V rfl) rfl (by show 2 * 0 + _ ≤ _; exact Nat.le_of_eq rfl) (hb hby at_148) (fun _ _ => ⟨rfl, e200, (by decide : 1 + 0 ≤ _), (by decide : 3 + 0 ≤ _)⟩)
                      dsimp only [Pt.U, Pt.locs, Pt.cells, Pt.slots] at X201 l201 y201 z201 st201 hQ201
                      subst l201 y201 z201
                      obtain ⟨rfl, N201q, K201, p201_0, p201_1, p201_2, p201_3⟩ := hQ201
                      have N201 := Fr.app N200 N201q
                      have Zs_201 : n0 ≤ T201.heap.size := Nat.le_trans Zs_191 K201.1
                      refine GoW.sg (mkF m 151 (Sh6 q1 q2 0 1 b10 b14 b18 b21) []) (fun t k => st201.trans k) ?_
                      refine GoW.sg (mkF m 153 (Sh6 q1 q2 0 1 b10 b14 b18 b21) [(.ref b21)]) (fun t k => XS.aload X201.here hx rfl (hb hby at_151) rfl rfl k) ?_
                      refine GoW.sg (mkF m 156 (Sh6 q1 q2 0 1 b10 b14 b18 b21) [(.long 9223372036854775807), (.ref b21)]) (fun t k => X201.ldc2Long hx hown (mvT hZ (ww hw 20 rfl)) (g := (mkF m 153 (Sh6 q1 q2 0 1 b10 b14 b18 b21) [(.ref b21)])) rfl (hb hby at_153) t k) ?_
                      obtain ⟨cq202, kq202, q202a, q202b, q202c⟩ := isOf hZ rfl p201_0
                      obtain ⟨_, _, ⟨T202, L202, k202, n202⟩, -, X202, ⟨Lc202, hQ202, l202, y202, z202⟩, st202⟩ := X201.virtualBack hx (y := (⟨"com/example/spindle/spindle/SpinRule", "spinNanos", "(J)J"⟩ : MethodName)) (z := (⟨"com/example/spindle/spindle/SpinRule", "spinNanos", "(J)J"⟩ : MethodName)) hown (mvT hZ (ww hw 21 rfl)) (mvT hZ (ww hw 22 rfl)) (notFace_of_selects (args := #[]) (mvT hZ (ww hw 24 rfl))) (mvT hZ (ww hw 24 rfl)) (mvT hZ (ww hw 23 rfl)) (by decide) (backOf (W := 0) (rm4_20 l Z a0 hw [] b21  T201.heap n0  p201_0 p201_1 p201_2 p201_3 g_b21   ) hZ (ww hw 25 rfl) (ww hw 4 rfl) (by decide) (by decide)) q202a q202c (g := (mkF m 156 (Sh6 q1 q2 0 1 b10 b14 b18 b21) [(.long 9223372036854775807), (.ref b21)])) rfl (by rw [hml]; rfl) (Steps.refl _) (argsL := [(.long (9223372036854775807 : Int64))]) (rest := []) (lenOf pd_28J29J rfl) rfl (by show 2 * 0 + _ ≤ _; exact Nat.le_of_eq rfl) (hb hby at_156) (fun _ _ => ⟨rfl, rfl, (by decide : 1 + 0 ≤ _), (by decide : 3 + 0 ≤ _)⟩)
                      dsimp only [Pt.U, Pt.locs, Pt.cells, Pt.slots] at X202 l202 y202 z202 st202 hQ202
                      subst l202 y202 z202
                      obtain ⟨rfl, N202q, K202, p202_0, p202_1, p202_2, p202_3⟩ := hQ202
                      have N202 := Fr.app N201 N202q
                      have Zs_202 : n0 ≤ T202.heap.size := Nat.le_trans Zs_201 K202.1
                      refine GoW.sg (mkF m 159 (Sh6 q1 q2 0 1 b10 b14 b18 b21) [(.long 20000)]) (fun t k => st202.trans k) ?_
                      refine GoW.sg (mkF m 161 (Sh10 q1 q2 0 1 b10 b14 b18 b21 20000) []) (fun t k => XS.lstore X202.here hx rfl (hb hby at_159) rfl (l' := (Sh10 q1 q2 0 1 b10 b14 b18 b21 20000)) rfl k) ?_
                      refine GoW.sg (mkF m 163 (Sh10 q1 q2 0 1 b10 b14 b18 b21 20000) [(.int b10)]) (fun t k => XS.iload X202.here hx rfl (hb hby at_161) rfl k) ?_
                      refine GoW.sg (mkF m 166 (Sh10 q1 q2 0 1 b10 b14 b18 b21 20000) []) (fun t k => XS.ifNo X202.here hx rfl (hb hby at_163) rfl ((if0 _ _).trans (feq c143).1) k) ?_
                      refine GoW.sg (mkF m 167 (Sh10 q1 q2 0 1 b10 b14 b18 b21 20000) [(.int 0)]) (fun t k => XS.iloadN X202.here hx rfl (hb hby at_166) rfl k) ?_
                      refine GoW.sg (mkF m 170 (Sh10 q1 q2 0 1 b10 b14 b18 b21 20000) []) (fun t k => XS.ifNo X202.here hx rfl (hb hby at_167) rfl (by decide) k) ?_
                      refine GoW.sg (mkF m 172 (Sh10 q1 q2 0 1 b10 b14 b18 b21 20000) [(.long b18)]) (fun t k => XS.lload X202.here hx rfl (hb hby at_170) rfl k) ?_
                      refine GoW.sg (mkF m 175 (Sh10 q1 q2 0 1 b10 b14 b18 b21 20000) [(.long 20000), (.long b18)]) (fun t k => X202.ldc2Long hx hown (mvT hZ (ww hw 34 rfl)) (g := (mkF m 172 (Sh10 q1 q2 0 1 b10 b14 b18 b21 20000) [(.long b18)])) rfl (hb hby at_172) t k) ?_
                      refine GoW.sg (mkF m 176 (Sh10 q1 q2 0 1 b10 b14 b18 b21 20000) [(.int (lcmpW b18 (20000 : Int64)))]) (fun t k => XS.lcmp X202.here hx rfl (hb hby at_175) rfl k) ?_
                      refine GoW.sg (mkF m 183 (Sh10 q1 q2 0 1 b10 b14 b18 b21 20000) []) (fun t k => XS.ifYes X202.here hx rfl (pc0 := 176) (pc' := 183) rfl (hb hby at_176) rfl ((if0 _ _).trans (tlt ((lw_lt _ _).mpr c192)).1) (by decide) (by decide) k) ?_
                      refine GoW.sg (mkF m 184 (Sh10 q1 q2 0 1 b10 b14 b18 b21 20000) [(.int 0)]) (fun t k => XS.iconst X202.here hx rfl (hb hby at_183) k) ?_
                      refine GoW.sg (mkF m 186 (Sh11 q1 q2 0 1 b10 b14 b18 b21 20000 0) []) (fun t k => XS.istore X202.here hx rfl (hb hby at_184) rfl (l' := (Sh11 q1 q2 0 1 b10 b14 b18 b21 20000 0)) rfl k) ?_
                      refine GoW.sg (mkF m 187 (Sh11 q1 q2 0 1 b10 b14 b18 b21 20000 0) [(.int 0)]) (fun t k => XS.iloadN X202.here hx rfl (hb hby at_186) rfl k) ?_
                      refine GoW.sg (mkF m 208 (Sh11 q1 q2 0 1 b10 b14 b18 b21 20000 0) []) (fun t k => XS.ifYes X202.here hx rfl (pc0 := 187) (pc' := 208) rfl (hb hby at_187) rfl (by decide) (by decide) (by decide) k) ?_
                      refine GoW.sg (mkF m 209 (Sh11 q1 q2 0 1 b10 b14 b18 b21 20000 0) [(.int 0)]) (fun t k => XS.iconst X202.here hx rfl (hb hby at_208) k) ?_
                      refine GoW.sg (mkF m 211 (Sh12 q1 q2 0 1 b10 b14 b18 b21 20000 0 0) []) (fun t k => XS.istore X202.here hx rfl (hb hby at_209) rfl (l' := (Sh12 q1 q2 0 1 b10 b14 b18 b21 20000 0 0)) rfl k) ?_
                      refine GoW.sg (mkF m 213 (Sh12 q1 q2 0 1 b10 b14 b18 b21 20000 0 0) [(.int b14)]) (fun t k => XS.iload X202.here hx rfl (hb hby at_211) rfl k) ?_
                      refine GoW.sg (mkF m 236 (Sh12 q1 q2 0 1 b10 b14 b18 b21 20000 0 0) []) (fun t k => XS.ifYes X202.here hx rfl (pc0 := 213) (pc' := 236) rfl (hb hby at_213) rfl ((if0 _ _).trans (teq c142).1) (by decide) (by decide) k) ?_
                      refine GoW.sg (mkF m 238 (Sh12 q1 q2 0 1 b10 b14 b18 b21 20000 0 0) [(.int 0)]) (fun t k => XS.iload X202.here hx rfl (hb hby at_236) rfl k) ?_
                      refine GoW.sg (mkF m 246 (Sh12 q1 q2 0 1 b10 b14 b18 b21 20000 0 0) []) (fun t k => XS.ifYes X202.here hx rfl (pc0 := 238) (pc' := 246) rfl (hb hby at_238) rfl (by decide) (by decide) (by decide) k) ?_
                      refine GoW.sg (mkF m 247 (Sh12 q1 q2 0 1 b10 b14 b18 b21 20000 0 0) [(.int 1)]) (fun t k => XS.iconst X202.here hx rfl (hb hby at_246) k) ?_
                      refine GoW.sg (mkF m 251 (Sh12 q1 q2 0 1 b10 b14 b18 b21 20000 0 0) [(.int 1)]) (fun t k => XS.goto X202.here hx rfl (pc0 := 247) (pc' := 251) rfl (hb hby at_247) (by decide) (by decide) k) ?_
                      refine GoW.sg (mkF m 253 (Sh13 q1 q2 0 1 b10 b14 b18 b21 20000 0 0 1) []) (fun t k => XS.istore X202.here hx rfl (hb hby at_251) rfl (l' := (Sh13 q1 q2 0 1 b10 b14 b18 b21 20000 0 0 1)) rfl k) ?_
                      refine GoW.sg (mkF m 255 (Sh13 q1 q2 0 1 b10 b14 b18 b21 20000 0 0 1) [(.long 20000)]) (fun t k => XS.lload X202.here hx rfl (hb hby at_253) rfl k) ?_
                      refine GoW.sg (mkF m 257 (Sh13 q1 q2 0 1 b10 b14 b18 b21 20000 0 0 1) [(.int 1), (.long 20000)]) (fun t k => XS.iload X202.here hx rfl (hb hby at_255) rfl k) ?_
                      refine GoW.sg (mkF m 260 (Sh13 q1 q2 0 1 b10 b14 b18 b21 20000 0 0 1) [(.long 20000)]) (fun t k => XS.ifNo X202.here hx rfl (hb hby at_257) rfl (by decide) k) ?_
                      refine GoW.sg (mkF m 263 (Sh13 q1 q2 0 1 b10 b14 b18 b21 20000 0 0 1) [(.long 20000), (.long 20000)]) (fun t k => X202.ldc2Long hx hown (mvT hZ (ww hw 34 rfl)) (g := (mkF m 260 (Sh13 q1 q2 0 1 b10 b14 b18 b21 20000 0 0 1) [(.long 20000)])) rfl (hb hby at_260) t k) ?_
                      refine GoW.sg (mkF m 267 (Sh13 q1 q2 0 1 b10 b14 b18 b21 20000 0 0 1) [(.long 20000), (.long 20000)]) (fun t k => XS.goto X202.here hx rfl (pc0 := 263) (pc' := 267) rfl (hb hby at_263) (by decide) (by decide) k) ?_
                      refine GoW.sg (mkF m 268 (Sh13 q1 q2 0 1 b10 b14 b18 b21 20000 0 0 1) [(.int (lcmpW (20000 : Int64) (20000 : Int64)))]) (fun t k => XS.lcmp X202.here hx rfl (hb hby at_267) rfl k) ?_
                      refine GoW.sg (mkF m 271 (Sh13 q1 q2 0 1 b10 b14 b18 b21 20000 0 0 1) []) (fun t k => XS.ifNo X202.here hx rfl (hb hby at_268) rfl (by decide) k) ?_
                      refine GoW.sg (mkF m 272 (Sh13 q1 q2 0 1 b10 b14 b18 b21 20000 0 0 1) [(.int 1)]) (fun t k => XS.iconst X202.here hx rfl (hb hby at_271) k) ?_
                      refine GoW.sg (mkF m 276 (Sh13 q1 q2 0 1 b10 b14 b18 b21 20000 0 0 1) [(.int 1)]) (fun t k => XS.goto X202.here hx rfl (pc0 := 272) (pc' := 276) rfl (hb hby at_272) (by decide) (by decide) k) ?_
                      refine GoW.retN X202 hx (t := .boolean) Bd.returns (by simp) (hb hby at_276) Bd.notSynchronized ?_ (by decide) (by decide)
                      exact ⟨rfl, N202⟩
                  · subst cc
                    show GoW p e below s (ValQ (.int (1 : Int32)) n0) room_1.cells room_1.slots (T191.setTop (mkF m 136 (Sh6 q1 q2 1 b6 b10 b14 b18 b21) []))
                    rcases own_01 hb6 with cc | cc
                    · subst cc
                      show GoW p e below s (ValQ (.int (1 : Int32)) n0) room_1.cells room_1.slots (T191.setTop (mkF m 136 (Sh6 q1 q2 1 0 b10 b14 b18 b21) []))
                      refine GoW.sg (mkF m 138 (Sh6 q1 q2 1 0 b10 b14 b18 b21) [(.ref b21)]) (fun t k => XS.aload X191.here hx rfl (hb hby at_136) rfl rfl k) ?_
                      refine GoW.sg (mkF m 139 (Sh6 q1 q2 1 0 b10 b14 b18 b21) [(.int 1), (.ref b21)]) (fun t k => XS.iloadN X191.here hx rfl (hb hby at_138) rfl k) ?_
                      refine GoW.sg (mkF m 141 (Sh6 q1 q2 1 0 b10 b14 b18 b21) [(.int 0), (.int 1), (.ref b21)]) (fun t k => XS.iload X191.here hx rfl (hb hby at_139) rfl k) ?_
                      refine GoW.sg (mkF m 143 (Sh6 q1 q2 1 0 b10 b14 b18 b21) [(.long b18), (.int 0), (.int 1), (.ref b21)]) (fun t k => XS.lload X191.here hx rfl (hb hby at_141) rfl k) ?_
                      obtain ⟨cq211, kq211, q211a, q211b, q211c⟩ := isOf hZ rfl p191_0
                      obtain ⟨_, _, ⟨T211, L211, k211, n211⟩, -, X211, ⟨Lc211, hQ211, l211, y211, z211⟩, st211⟩ := X191.virtualBack hx (y := (⟨"com/example/spindle/spindle/SpinRule", "countWait", "(ZZJ)V"⟩ : MethodName)) (z := (⟨"com/example/spindle/spindle/SpinRule", "countWait", "(ZZJ)V"⟩ : MethodName)) hown (mvT hZ (ww hw 35 rfl)) (mvT hZ (ww hw 36 rfl)) (notFace_of_selects (args := #[]) (mvT hZ (ww hw 38 rfl))) (mvT hZ (ww hw 38 rfl)) (mvT hZ (ww hw 37 rfl)) (by decide) (backOf (W := 0) (rm6_23 l Z a0 hw [] b21 b18  T191.heap n0  p191_0 p191_1 p191_2 p191_3 g_b21  c192 ) hZ (ww hw 39 rfl) (ww hw 4 rfl) (by decide) (by decide)) q211a q211c (g := (mkF m 143 (Sh6 q1 q2 1 0 b10 b14 b18 b21) [(.long b18), (.int 0), (.int 1), (.ref b21)])) rfl (by rw [hml]; rfl) (Steps.refl _) (argsL := [(.int (1 : Int32)), (.int (0 : Int32)), (.long b18)]) (rest := []) (lenOf pd_28ZZJ29V rfl) rfl (by show 2 * 0 + _ ≤ _; exact Nat.le_of_eq rfl) (hb hby at_143) (fun _ _ => ⟨rfl, rfl, (by decide : 1 + 0 ≤ _), (by decide : 3 + 0 ≤ _)⟩)
                      dsimp only [Pt.U, Pt.locs, Pt.cells, Pt.slots] at X211 l211 y211 z211 st211 hQ211
                      subst l211 y211 z211
                      obtain ⟨rfl, N211q, K211, p211_0, p211_1, p211_2, p211_3⟩ := hQ211
                      have N211 := Fr.app N191 N211q
                      have Zs_211 : n0 ≤ T211.heap.size := Nat.le_trans Zs_191 K211.1
                      refine GoW.sg (mkF m 146 (Sh6 q1 q2 1 0 b10 b14 b18 b21) []) (fun t k => st211.trans k) ?_
                      refine GoW.sg (mkF m 148 (Sh6 q1 q2 1 0 b10 b14 b18 b21) [(.ref b21)]) (fun t k => XS.aload X211.here hx rfl (hb hby at_146) rfl rfl k) ?_
                      obtain ⟨cq214, kq214, q214a, q214b, q214c⟩ := isOf hZ rfl p211_0
                      obtain ⟨_, _, ⟨T214, L214, k214, n214⟩, -, X214, ⟨Lc214, hQ214, l214, y214, z214⟩, st214⟩ := X211.virtualBack hx (y := (⟨"com/example/spindle/spindle/SpinRule", "handedOn", "()V"⟩ : MethodName)) (z := (⟨"com/example/spindle/spindle/SpinRule", "handedOn", "()V"⟩ : MethodName)) hown (mvT hZ (ww hw 13 rfl)) (mvT hZ (ww hw 14 rfl)) (notFace_of_selects (args := #[]) (mvT hZ (ww hw 16 rfl))) (mvT hZ (ww hw 16 rfl)) (mvT hZ (ww hw 15 rfl)) (by decide) (backOf (W := 0) (rm3_24 l Z a0 hw [] b21  T211.heap n0  p211_0 p211_1 p211_2 p211_3 g_b21   ) hZ (ww hw 17 rfl) (ww hw 4 rfl) (by decide) (by decide)) q214a q214c (g := (mkF m 148 (Sh6 q1 q2 1 0 b10 b14 b18 b21) [(.ref b21)])) rfl (by rw [hml]; rfl) (Steps.refl _) (argsL := []) (rest := []) (lenOf pd_2829V rfl) rfl (by show 2 * 0 + _ ≤ _; exact Nat.le_of_eq rfl) (hb hby at_148) (fun _ _ => ⟨rfl, rfl, (by decide : 1 + 0 ≤ _), (by decide : 3 + 0 ≤ _)⟩)
                      dsimp only [Pt.U, Pt.locs, Pt.cells, Pt.slots] at X214 l214 y214 z214 st214 hQ214
                      subst l214 y214 z214
                      obtain ⟨rfl, N214q, K214, p214_0, p214_1, p214_2, p214_3⟩ := hQ214
                      have N214 := Fr.app N211 N214q
                      have Zs_214 : n0 ≤ T214.heap.size := Nat.le_trans Zs_211 K214.1
                      refine GoW.sg (mkF m 151 (Sh6 q1 q2 1 0 b10 b14 b18 b21) []) (fun t k => st214.trans k) ?_
                      refine GoW.sg (mkF m 153 (Sh6 q1 q2 1 0 b10 b14 b18 b21) [(.ref b21)]) (fun t k => XS.aload X214.here hx rfl (hb hby at_151) rfl rfl k) ?_
                      refine GoW.sg (mkF m 156 (Sh6 q1 q2 1 0 b10 b14 b18 b21) [(.long 9223372036854775807), (.ref b21)]) (fun t k => X214.ldc2Long hx hown (mvT hZ (ww hw 20 rfl)) (g := (mkF m 153 (Sh6 q1 q2 1 0 b10 b14 b18 b21) [(.ref b21)])) rfl (hb hby at_153) t k) ?_
                      obtain ⟨cq225, kq225, q225a, q225b, q225c⟩ := isOf hZ rfl p214_0
                      obtain ⟨_, _, ⟨T225, L225, k225, n225⟩, -, X225, ⟨Lc225, hQ225, l225, y225, z225⟩, st225⟩ := X214.virtualBack hx (y := (⟨"com/example/spindle/spindle/SpinRule", "spinNanos", "(J)J"⟩ : MethodName)) (z := (⟨"com/example/spindle/spindle/SpinRule", "spinNanos", "(J)J"⟩ : MethodName)) hown (mvT hZ (ww hw 21 rfl)) (mvT hZ (ww hw 22 rfl)) (notFace_of_selects (args := #[]) (mvT hZ (ww hw 24 rfl))) (mvT hZ (ww hw 24 rfl)) (mvT hZ (ww hw 23 rfl)) (by decide) (backOf (W := 0) (rm4_25 l Z a0 hw [] b21  T214.heap n0  p214_0 p214_1 p214_2 p214_3 g_b21   ) hZ (ww hw 25 rfl) (ww hw 4 rfl) (by decide) (by decide)) q225a q225c (g := (mkF m 156 (Sh6 q1 q2 1 0 b10 b14 b18 b21) [(.long 9223372036854775807), (.ref b21)])) rfl (by rw [hml]; rfl) (Steps.refl _) (argsL := [(.long (9223372036854775807 : Int64))]) (rest := []) (lenOf pd_28J29J rfl) rfl (by show 2 * 0 + _ ≤ _; exact Nat.le_of_eq rfl) (hb hby at_156) (fun _ _ => ⟨rfl, rfl, (by decide : 1 + 0 ≤ _), (by decide : 3 + 0 ≤ _)⟩)
                      dsimp only [Pt.U, Pt.locs, Pt.cells, Pt.slots] at X225 l225 y225 z225 st225 hQ225
                      subst l225 y225 z225
                      obtain ⟨rfl, N225q, K225, p225_0, p225_1, p225_2, p225_3⟩ := hQ225
                      have N225 := Fr.app N214 N225q
                      have Zs_225 : n0 ≤ T225.heap.size := Nat.le_trans Zs_214 K225.1
                      refine GoW.sg (mkF m 159 (Sh6 q1 q2 1 0 b10 b14 b18 b21) [(.long 0)]) (fun t k => st225.trans k) ?_
                      refine GoW.sg (mkF m 161 (Sh10 q1 q2 1 0 b10 b14 b18 b21 0) []) (fun t k => XS.lstore X225.here hx rfl (hb hby at_159) rfl (l' := (Sh10 q1 q2 1 0 b10 b14 b18 b21 0)) rfl k) ?_
                      refine GoW.sg (mkF m 163 (Sh10 q1 q2 1 0 b10 b14 b18 b21 0) [(.int b10)]) (fun t k => XS.iload X225.here hx rfl (hb hby at_161) rfl k) ?_
                      refine GoW.sg (mkF m 166 (Sh10 q1 q2 1 0 b10 b14 b18 b21 0) []) (fun t k => XS.ifNo X225.here hx rfl (hb hby at_163) rfl ((if0 _ _).trans (feq c143).1) k) ?_
                      refine GoW.sg (mkF m 167 (Sh10 q1 q2 1 0 b10 b14 b18 b21 0) [(.int 1)]) (fun t k => XS.iloadN X225.here hx rfl (hb hby at_166) rfl k) ?_
                      refine GoW.sg (mkF m 179 (Sh10 q1 q2 1 0 b10 b14 b18 b21 0) []) (fun t k => XS.ifYes X225.here hx rfl (pc0 := 167) (pc' := 179) rfl (hb hby at_167) rfl (by decide) (by decide) (by decide) k) ?_
                      refine GoW.sg (mkF m 180 (Sh10 q1 q2 1 0 b10 b14 b18 b21 0) [(.int 1)]) (fun t k => XS.iconst X225.here hx rfl (hb hby at_179) k) ?_
                      refine GoW.sg (mkF m 184 (Sh10 q1 q2 1 0 b10 b14 b18 b21 0) [(.int 1)]) (fun t k => XS.goto X225.here hx rfl (pc0 := 180) (pc' := 184) rfl (hb hby at_180) (by decide) (by decide) k) ?_
                      refine GoW.sg (mkF m 186 (Sh11 q1 q2 1 0 b10 b14 b18 b21 0 1) []) (fun t k => XS.istore X225.here hx rfl (hb hby at_184) rfl (l' := (Sh11 q1 q2 1 0 b10 b14 b18 b21 0 1)) rfl k) ?_
                      refine GoW.sg (mkF m 187 (Sh11 q1 q2 1 0 b10 b14 b18 b21 0 1) [(.int 1)]) (fun t k => XS.iloadN X225.here hx rfl (hb hby at_186) rfl k) ?_
                      refine GoW.sg (mkF m 190 (Sh11 q1 q2 1 0 b10 b14 b18 b21 0 1) []) (fun t k => XS.ifNo X225.here hx rfl (hb hby at_187) rfl (by decide) k) ?_
                      refine GoW.sg (mkF m 192 (Sh11 q1 q2 1 0 b10 b14 b18 b21 0 1) [(.int 0)]) (fun t k => XS.iload X225.here hx rfl (hb hby at_190) rfl k) ?_
                      refine GoW.sg (mkF m 208 (Sh11 q1 q2 1 0 b10 b14 b18 b21 0 1) []) (fun t k => XS.ifYes X225.here hx rfl (pc0 := 192) (pc' := 208) rfl (hb hby at_192) rfl (by decide) (by decide) (by decide) k) ?_
                      refine GoW.sg (mkF m 209 (Sh11 q1 q2 1 0 b10 b14 b18 b21 0 1) [(.int 0)]) (fun t k => XS.iconst X225.here hx rfl (hb hby at_208) k) ?_
                      refine GoW.sg (mkF m 211 (Sh12 q1 q2 1 0 b10 b14 b18 b21 0 1 0) []) (fun t k => XS.istore X225.here hx rfl (hb hby at_209) rfl (l' := (Sh12 q1 q2 1 0 b10 b14 b18 b21 0 1 0)) rfl k) ?_
                      refine GoW.sg (mkF m 213 (Sh12 q1 q2 1 0 b10 b14 b18 b21 0 1 0) [(.int b14)]) (fun t k => XS.iload X225.here hx rfl (hb hby at_211) rfl k) ?_
                      refine GoW.sg (mkF m 236 (Sh12 q1 q2 1 0 b10 b14 b18 b21 0 1 0) []) (fun t k => XS.ifYes X225.here hx rfl (pc0 := 213) (pc' := 236) rfl (hb hby at_213) rfl ((if0 _ _).trans (teq c142).1) (by decide) (by decide) k) ?_
                      refine GoW.sg (mkF m 238 (Sh12 q1 q2 1 0 b10 b14 b18 b21 0 1 0) [(.int 1)]) (fun t k => XS.iload X225.here hx rfl (hb hby at_236) rfl k) ?_
                      refine GoW.sg (mkF m 241 (Sh12 q1 q2 1 0 b10 b14 b18 b21 0 1 0) []) (fun t k => XS.ifNo X225.here hx rfl (hb hby at_238) rfl (by decide) k) ?_
                      refine GoW.sg (mkF m 243 (Sh12 q1 q2 1 0 b10 b14 b18 b21 0 1 0) [(.int 0)]) (fun t k => XS.iload X225.here hx rfl (hb hby at_241) rfl k) ?_
                      refine GoW.sg (mkF m 250 (Sh12 q1 q2 1 0 b10 b14 b18 b21 0 1 0) []) (fun t k => XS.ifYes X225.here hx rfl (pc0 := 243) (pc' := 250) rfl (hb hby at_243) rfl (by decide) (by decide) (by decide) k) ?_
                      refine GoW.sg (mkF m 251 (Sh12 q1 q2 1 0 b10 b14 b18 b21 0 1 0) [(.int 0)]) (fun t k => XS.iconst X225.here hx rfl (hb hby at_250) k) ?_
                      refine GoW.sg (mkF m 253 (Sh13 q1 q2 1 0 b10 b14 b18 b21 0 1 0 0) []) (fun t k => XS.istore X225.here hx rfl (hb hby at_251) rfl (l' := (Sh13 q1 q2 1 0 b10 b14 b18 b21 0 1 0 0)) rfl k) ?_
                      refine GoW.sg (mkF m 255 (Sh13 q1 q2 1 0 b10 b14 b18 b21 0 1 0 0) [(.long 0)]) (fun t k => XS.lload X225.here hx rfl (hb hby at_253) rfl k) ?_
                      refine GoW.sg (mkF m 257 (Sh13 q1 q2 1 0 b10 b14 b18 b21 0 1 0 0) [(.int 0), (.long 0)]) (fun t k => XS.iload X225.here hx rfl (hb hby at_255) rfl k) ?_
                      refine GoW.sg (mkF m 266 (Sh13 q1 q2 1 0 b10 b14 b18 b21 0 1 0 0) [(.long 0)]) (fun t k => XS.ifYes X225.here hx rfl (pc0 := 257) (pc' := 266) rfl (hb hby at_257) rfl (by decide) (by decide) (by decide) k) ?_
                      refine GoW.sg (mkF m 267 (Sh13 q1 q2 1 0 b10 b14 b18 b21 0 1 0 0) [(.long 0), (.long 0)]) (fun t k => XS.lconst X225.here hx rfl (hb hby at_266) k) ?_
                      refine GoW.sg (mkF m 268 (Sh13 q1 q2 1 0 b10 b14 b18 b21 0 1 0 0) [(.int (lcmpW (0 : Int64) (0 : Int64)))]) (fun t k => XS.lcmp X225.here hx rfl (hb hby at_267) rfl k) ?_
                      refine GoW.sg (mkF m 271 (Sh13 q1 q2 1 0 b10 b14 b18 b21 0 1 0 0) []) (fun t k => XS.ifNo X225.here hx rfl (hb hby at_268) rfl (by decide) k) ?_
                      refine GoW.sg (mkF m 272 (Sh13 q1 q2 1 0 b10 b14 b18 b21 0 1 0 0) [(.int 1)]) (fun t k => XS.iconst X225.here hx rfl (hb hby at_271) k) ?_
                      refine GoW.sg (mkF m 276 (Sh13 q1 q2 1 0 b10 b14 b18 b21 0 1 0 0) [(.int 1)]) (fun t k => XS.goto X225.here hx rfl (pc0 := 272) (pc' := 276) rfl (hb hby at_272) (by decide) (by decide) k) ?_
                      refine GoW.retN X225 hx (t := .boolean) Bd.returns (by simp) (hb hby at_276) Bd.notSynchronized ?_ (by decide) (by decide)
                      exact ⟨rfl, N225⟩
                    · subst cc
                      show GoW p e below s (ValQ (.int (1 : Int32)) n0) room_1.cells room_1.slots (T191.setTop (mkF m 136 (Sh6 q1 q2 1 1 b10 b14 b18 b21) []))
                      refine GoW.sg (mkF m 138 (Sh6 q1 q2 1 1 b10 b14 b18 b21) [(.ref b21)]) (fun t k => XS.aload X191.here hx rfl (hb hby at_136) rfl rfl k) ?_
                      refine GoW.sg (mkF m 139 (Sh6 q1 q2 1 1 b10 b14 b18 b21) [(.int 1), (.ref b21)]) (fun t k => XS.iloadN X191.here hx rfl (hb hby at_138) rfl k) ?_
                      refine GoW.sg (mkF m 141 (Sh6 q1 q2 1 1 b10 b14 b18 b21) [(.int 1), (.int 1), (.ref b21)]) (fun t k => XS.iload X191.here hx rfl (hb hby at_139) rfl k) ?_
                      refine GoW.sg (mkF m 143 (Sh6 q1 q2 1 1 b10 b14 b18 b21) [(.long b18), (.int 1), (.int 1), (.ref b21)]) (fun t k => XS.lload X191.here hx rfl (hb hby at_141) rfl k) ?_
                      obtain ⟨cq234, kq234, q234a, q234b, q234c⟩ := isOf hZ rfl p191_0
                      obtain ⟨_, _, ⟨T234, L234, k234, n234⟩, -, X234, ⟨Lc234, hQ234, l234, y234, z234⟩, st234⟩ := X191.virtualBack hx (y := (⟨"com/example/spindle/spindle/SpinRule", "countWait", "(ZZJ)V"⟩ : MethodName)) (z := (⟨"com/example/spindle/spindle/SpinRule", "countWait", "(ZZJ)V"⟩ : MethodName)) hown (mvT hZ (ww hw 35 rfl)) (mvT hZ (ww hw 36 rfl)) (notFace_of_selects (args := #[]) (mvT hZ (ww hw 38 rfl))) (mvT hZ (ww hw 38 rfl)) (mvT hZ (ww hw 37 rfl)) (by decide) (backOf (W := 0) (rm6_26 l Z a0 hw [] b21 b18  T191.heap n0  p191_0 p191_1 p191_2 p191_3 g_b21  c192 ) hZ (ww hw 39 rfl) (ww hw 4 rfl) (by decide) (by decide)) q234a q234c (g := (mkF m 143 (Sh6 q1 q2 1 1 b10 b14 b18 b21) [(.long b18), (.int 1), (.int 1), (.ref b21)])) rfl (by rw [hml]; rfl) (Steps.refl _) (argsL := [(.int (1 : Int32)), (.int (1 : Int32)), (.long b18)]) (rest := []) (lenOf pd_28ZZJ29V rfl) rfl (by show 2 * 0 + _ ≤ _; exact Nat.le_of_eq rfl) (hb hby at_143) (fun _ _ => ⟨rfl, rfl, (by decide : 1 + 0 ≤ _), (by decide : 3 + 0 ≤ _)⟩)
                      dsimp only [Pt.U, Pt.locs, Pt.cells, Pt.slots] at X234 l234 y234 z234 st234 hQ234
                      subst l234 y234 z234
                      obtain ⟨rfl, N234q, K234, p234_0, p234_1, p234_2, p234_3⟩ := hQ234
                      have N234 := Fr.app N191 N234q
                      have Zs_234 : n0 ≤ T234.heap.size := Nat.le_trans Zs_191 K234.1
                      refine GoW.sg (mkF m 146 (Sh6 q1 q2 1 1 b10 b14 b18 b21) []) (fun t k => st234.trans k) ?_
                      refine GoW.sg (mkF m 148 (Sh6 q1 q2 1 1 b10 b14 b18 b21) [(.ref b21)]) (fun t k => XS.aload X234.here hx rfl (hb hby at_146) rfl rfl k) ?_
                      obtain ⟨cq237, kq237, q237a, q237b, q237c⟩ := isOf hZ rfl p234_0
                      obtain ⟨_, _, ⟨T237, L237, k237, n237⟩, -, X237, ⟨Lc237, hQ237, l237, y237, z237⟩, st237⟩ := X234.virtualBack hx (y := (⟨"com/example/spindle/spindle/SpinRule", "handedOn", "()V"⟩ : MethodName)) (z := (⟨"com/example/spindle/spindle/SpinRule", "handedOn", "()V"⟩ : MethodName)) hown (mvT hZ (ww hw 13 rfl)) (mvT hZ (ww hw 14 rfl)) (notFace_of_selects (args := #[]) (mvT hZ (ww hw 16 rfl))) (mvT hZ (ww hw 16 rfl)) (mvT hZ (ww hw 15 rfl)) (by decide) (backOf (W := 0) (rm3_27 l Z a0 hw [] b21  T234.heap n0  p234_0 p234_1 p234_2 p234_3 g_b21   ) hZ (ww hw 17 rfl) (ww hw 4 rfl) (by decide) (by decide)) q237a q237c (g := (mkF m 148 (Sh6 q1 q2 1 1 b10 b14 b18 b21) [(.ref b21)])) rfl (by rw [hml]; rfl) (Steps.refl _) (argsL := []) (rest := []) (lenOf pd_2829V rfl) rfl (by show 2 * 0 + _ ≤ _; exact Nat.le_of_eq rfl) (hb hby at_148) (fun _ _ => ⟨rfl, rfl, (by decide : 1 + 0 ≤ _), (by decide : 3 + 0 ≤ _)⟩)
                      dsimp only [Pt.U, Pt.locs, Pt.cells, Pt.slots] at X237 l237 y237 z237 st237 hQ237
                      subst l237 y237 z237
                      obtain ⟨rfl, N237q, K237, p237_0, p237_1, p237_2, p237_3⟩ := hQ237
                      have N237 := Fr.app N234 N237q
                      have Zs_237 : n0 ≤ T237.heap.size := Nat.le_trans Zs_234 K237.1
                      refine GoW.sg (mkF m 151 (Sh6 q1 q2 1 1 b10 b14 b18 b21) []) (fun t k => st237.trans k) ?_
                      refine GoW.sg (mkF m 153 (Sh6 q1 q2 1 1 b10 b14 b18 b21) [(.ref b21)]) (fun t k => XS.aload X237.here hx rfl (hb hby at_151) rfl rfl k) ?_
                      refine GoW.sg (mkF m 156 (Sh6 q1 q2 1 1 b10 b14 b18 b21) [(.long 9223372036854775807), (.ref b21)]) (fun t k => X237.ldc2Long hx hown (mvT hZ (ww hw 20 rfl)) (g := (mkF m 153 (Sh6 q1 q2 1 1 b10 b14 b18 b21) [(.ref b21)])) rfl (hb hby at_153) t k) ?_
                      obtain ⟨cq248, kq248, q248a, q248b, q248c⟩ := isOf hZ rfl p237_0
                      obtain ⟨_, _, ⟨T248, L248, k248, n248⟩, -, X248, ⟨Lc248, hQ248, l248, y248, z248⟩, st248⟩ := X237.virtualBack hx (y := (⟨"com/example/spindle/spindle/SpinRule", "spinNanos", "(J)J"⟩ : MethodName)) (z := (⟨"com/example/spindle/spindle/SpinRule", "spinNanos", "(J)J"⟩ : MethodName)) hown (mvT hZ (ww hw 21 rfl)) (mvT hZ (ww hw 22 rfl)) (notFace_of_selects (args := #[]) (mvT hZ (ww hw 24 rfl))) (mvT hZ (ww hw 24 rfl)) (mvT hZ (ww hw 23 rfl)) (by decide) (backOf (W := 0) (rm4_28 l Z a0 hw [] b21  T237.heap n0  p237_0 p237_1 p237_2 p237_3 g_b21   ) hZ (ww hw 25 rfl) (ww hw 4 rfl) (by decide) (by decide)) q248a q248c (g := (mkF m 156 (Sh6 q1 q2 1 1 b10 b14 b18 b21) [(.long 9223372036854775807), (.ref b21)])) rfl (by rw [hml]; rfl) (Steps.refl _) (argsL := [(.long (9223372036854775807 : Int64))]) (rest := []) (lenOf pd_28J29J rfl) rfl (by show 2 * 0 + _ ≤ _; exact Nat.le_of_eq rfl) (hb hby at_156) (fun _ _ => ⟨rfl, rfl, (by decide : 1 + 0 ≤ _), (by decide : 3 + 0 ≤ _)⟩)
                      dsimp only [Pt.U, Pt.locs, Pt.cells, Pt.slots] at X248 l248 y248 z248 st248 hQ248
                      subst l248 y248 z248
                      obtain ⟨rfl, N248q, K248, p248_0, p248_1, p248_2, p248_3⟩ := hQ248
                      have N248 := Fr.app N237 N248q
                      have Zs_248 : n0 ≤ T248.heap.size := Nat.le_trans Zs_237 K248.1
                      refine GoW.sg (mkF m 159 (Sh6 q1 q2 1 1 b10 b14 b18 b21) [(.long 20000)]) (fun t k => st248.trans k) ?_
                      refine GoW.sg (mkF m 161 (Sh10 q1 q2 1 1 b10 b14 b18 b21 20000) []) (fun t k => XS.lstore X248.here hx rfl (hb hby at_159) rfl (l' := (Sh10 q1 q2 1 1 b10 b14 b18 b21 20000)) rfl k) ?_
                      refine GoW.sg (mkF m 163 (Sh10 q1 q2 1 1 b10 b14 b18 b21 20000) [(.int b10)]) (fun t k => XS.iload X248.here hx rfl (hb hby at_161) rfl k) ?_
                      refine GoW.sg (mkF m 166 (Sh10 q1 q2 1 1 b10 b14 b18 b21 20000) []) (fun t k => XS.ifNo X248.here hx rfl (hb hby at_163) rfl ((if0 _ _).trans (feq c143).1) k) ?_
                      refine GoW.sg (mkF m 167 (Sh10 q1 q2 1 1 b10 b14 b18 b21 20000) [(.int 1)]) (fun t k => XS.iloadN X248.here hx rfl (hb hby at_166) rfl k) ?_
                      refine GoW.sg (mkF m 179 (Sh10 q1 q2 1 1 b10 b14 b18 b21 20000) []) (fun t k => XS.ifYes X248.here hx rfl (pc0 := 167) (pc' := 179) rfl (hb hby at_167) rfl (by decide) (by decide) (by decide) k) ?_
                      refine GoW.sg (mkF m 180 (Sh10 q1 q2 1 1 b10 b14 b18 b21 20000) [(.int 1)]) (fun t k => XS.iconst X248.here hx rfl (hb hby at_179) k) ?_
                      refine GoW.sg (mkF m 184 (Sh10 q1 q2 1 1 b10 b14 b18 b21 20000) [(.int 1)]) (fun t k => XS.goto X248.here hx rfl (pc0 := 180) (pc' := 184) rfl (hb hby at_180) (by decide) (by decide) k) ?_
                      refine GoW.sg (mkF m 186 (Sh11 q1 q2 1 1 b10 b14 b18 b21 20000 1) []) (fun t k => XS.istore X248.here hx rfl (hb hby at_184) rfl (l' := (Sh11 q1 q2 1 1 b10 b14 b18 b21 20000 1)) rfl k) ?_
                      refine GoW.sg (mkF m 187 (Sh11 q1 q2 1 1 b10 b14 b18 b21 20000 1) [(.int 1)]) (fun t k => XS.iloadN X248.here hx rfl (hb hby at_186) rfl k) ?_
                      refine GoW.sg (mkF m 190 (Sh11 q1 q2 1 1 b10 b14 b18 b21 20000 1) []) (fun t k => XS.ifNo X248.here hx rfl (hb hby at_187) rfl (by decide) k) ?_
                      refine GoW.sg (mkF m 192 (Sh11 q1 q2 1 1 b10 b14 b18 b21 20000 1) [(.int 1)]) (fun t k => XS.iload X248.here hx rfl (hb hby at_190) rfl k) ?_
                      refine GoW.sg (mkF m 195 (Sh11 q1 q2 1 1 b10 b14 b18 b21 20000 1) []) (fun t k => XS.ifNo X248.here hx rfl (hb hby at_192) rfl (by decide) k) ?_
                      refine GoW.sg (mkF m 197 (Sh11 q1 q2 1 1 b10 b14 b18 b21 20000 1) [(.long b18)]) (fun t k => XS.lload X248.here hx rfl (hb hby at_195) rfl k) ?_
                      refine GoW.sg (mkF m 200 (Sh11 q1 q2 1 1 b10 b14 b18 b21 20000 1) [(.long 20000), (.long b18)]) (fun t k => X248.ldc2Long hx hown (mvT hZ (ww hw 34 rfl)) (g := (mkF m 197 (Sh11 q1 q2 1 1 b10 b14 b18 b21 20000 1) [(.long b18)])) rfl (hb hby at_197) t k) ?_
                      refine GoW.sg (mkF m 201 (Sh11 q1 q2 1 1 b10 b14 b18 b21 20000 1) [(.int (lcmpW b18 (20000 : Int64)))]) (fun t k => XS.lcmp X248.here hx rfl (hb hby at_200) rfl k) ?_
                      refine GoW.sg (mkF m 204 (Sh11 q1 q2 1 1 b10 b14 b18 b21 20000 1) []) (fun t k => XS.ifNo X248.here hx rfl (hb hby at_201) rfl ((if0 _ _).trans (tlt ((lw_lt _ _).mpr c192)).2.1) k) ?_
                      refine GoW.sg (mkF m 205 (Sh11 q1 q2 1 1 b10 b14 b18 b21 20000 1) [(.int 1)]) (fun t k => XS.iconst X248.here hx rfl (hb hby at_204) k) ?_
                      refine GoW.sg (mkF m 209 (Sh11 q1 q2 1 1 b10 b14 b18 b21 20000 1) [(.int 1)]) (fun t k => XS.goto X248.here hx rfl (pc0 := 205) (pc' := 209) rfl (hb hby at_205) (by decide) (by decide) k) ?_
                      refine GoW.sg (mkF m 211 (Sh12 q1 q2 1 1 b10 b14 b18 b21 20000 1 1) []) (fun t k => XS.istore X248.here hx rfl (hb hby at_209) rfl (l' := (Sh12 q1 q2 1 1 b10 b14 b18 b21 20000 1 1)) rfl k) ?_
                      refine GoW.sg (mkF m 213 (Sh12 q1 q2 1 1 b10 b14 b18 b21 20000 1 1) [(.int b14)]) (fun t k => XS.iload X248.here hx rfl (hb hby at_211) rfl k) ?_
                      refine GoW.sg (mkF m 236 (Sh12 q1 q2 1 1 b10 b14 b18 b21 20000 1 1) []) (fun t k => XS.ifYes X248.here hx rfl (pc0 := 213) (pc' := 236) rfl (hb hby at_213) rfl ((if0 _ _).trans (teq c142).1) (by decide) (by decide) k) ?_
                      refine GoW.sg (mkF m 238 (Sh12 q1 q2 1 1 b10 b14 b18 b21 20000 1 1) [(.int 1)]) (fun t k => XS.iload X248.here hx rfl (hb hby at_236) rfl k) ?_
                      refine GoW.sg (mkF m 241 (Sh12 q1 q2 1 1 b10 b14 b18 b21 20000 1 1) []) (fun t k => XS.ifNo X248.here hx rfl (hb hby at_238) rfl (by decide) k) ?_
                      refine GoW.sg (mkF m 243 (Sh12 q1 q2 1 1 b10 b14 b18 b21 20000 1 1) [(.int 1)]) (fun t k => XS.iload X248.here hx rfl (hb hby at_241) rfl k) ?_
                      refine GoW.sg (mkF m 246 (Sh12 q1 q2 1 1 b10 b14 b18 b21 20000 1 1) []) (fun t k => XS.ifNo X248.here hx rfl (hb hby at_243) rfl (by decide) k) ?_
                      refine GoW.sg (mkF m 247 (Sh12 q1 q2 1 1 b10 b14 b18 b21 20000 1 1) [(.int 1)]) (fun t k => XS.iconst X248.here hx rfl (hb hby at_246) k) ?_
                      refine GoW.sg (mkF m 251 (Sh12 q1 q2 1 1 b10 b14 b18 b21 20000 1 1) [(.int 1)]) (fun t k => XS.goto X248.here hx rfl (pc0 := 247) (pc' := 251) rfl (hb hby at_247) (by decide) (by decide) k) ?_
                      refine GoW.sg (mkF m 253 (Sh13 q1 q2 1 1 b10 b14 b18 b21 20000 1 1 1) []) (fun t k => XS.istore X248.here hx rfl (hb hby at_251) rfl (l' := (Sh13 q1 q2 1 1 b10 b14 b18 b21 20000 1 1 1)) rfl k) ?_
                      refine GoW.sg (mkF m 255 (Sh13 q1 q2 1 1 b10 b14 b18 b21 20000 1 1 1) [(.long 20000)]) (fun t k => XS.lload X248.here hx rfl (hb hby at_253) rfl k) ?_
                      refine GoW.sg (mkF m 257 (Sh13 q1 q2 1 1 b10 b14 b18 b21 20000 1 1 1) [(.int 1), (.long 20000)]) (fun t k => XS.iload X248.here hx rfl (hb hby at_255) rfl k) ?_
                      refine GoW.sg (mkF m 260 (Sh13 q1 q2 1 1 b10 b14 b18 b21 20000 1 1 1) [(.long 20000)]) (fun t k => XS.ifNo X248.here hx rfl (hb hby at_257) rfl (by decide) k) ?_
                      refine GoW.sg (mkF m 263 (Sh13 q1 q2 1 1 b10 b14 b18 b21 20000 1 1 1) [(.long 20000), (.long 20000)]) (fun t k => X248.ldc2Long hx hown (mvT hZ (ww hw 34 rfl)) (g := (mkF m 260 (Sh13 q1 q2 1 1 b10 b14 b18 b21 20000 1 1 1) [(.long 20000)])) rfl (hb hby at_260) t k) ?_
                      refine GoW.sg (mkF m 267 (Sh13 q1 q2 1 1 b10 b14 b18 b21 20000 1 1 1) [(.long 20000), (.long 20000)]) (fun t k => XS.goto X248.here hx rfl (pc0 := 263) (pc' := 267) rfl (hb hby at_263) (by decide) (by decide) k) ?_
                      refine GoW.sg (mkF m 268 (Sh13 q1 q2 1 1 b10 b14 b18 b21 20000 1 1 1) [(.int (lcmpW (20000 : Int64) (20000 : Int64)))]) (fun t k => XS.lcmp X248.here hx rfl (hb hby at_267) rfl k) ?_
                      refine GoW.sg (mkF m 271 (Sh13 q1 q2 1 1 b10 b14 b18 b21 20000 1 1 1) []) (fun t k => XS.ifNo X248.here hx rfl (hb hby at_268) rfl (by decide) k) ?_
                      refine GoW.sg (mkF m 272 (Sh13 q1 q2 1 1 b10 b14 b18 b21 20000 1 1 1) [(.int 1)]) (fun t k => XS.iconst X248.here hx rfl (hb hby at_271) k) ?_
                      refine GoW.sg (mkF m 276 (Sh13 q1 q2 1 1 b10 b14 b18 b21 20000 1 1 1) [(.int 1)]) (fun t k => XS.goto X248.here hx rfl (pc0 := 272) (pc' := 276) rfl (hb hby at_272) (by decide) (by decide) k) ?_
                      refine GoW.retN X248 hx (t := .boolean) Bd.returns (by simp) (hb hby at_276) Bd.notSynchronized ?_ (by decide) (by decide)
                      exact ⟨rfl, N248⟩
                · show GoW p e below s (ValQ (.int (1 : Int32)) n0) room_1.cells room_1.slots (T191.setTop (mkF m 136 (Sh6 q1 q2 b2 b6 b10 b14 b18 b21) []))
                  rcases own_01 hb2 with cc | cc
                  · subst cc
                    show GoW p e below s (ValQ (.int (1 : Int32)) n0) room_1.cells room_1.slots (T191.setTop (mkF m 136 (Sh6 q1 q2 0 b6 b10 b14 b18 b21) []))
                    rcases own_01 hb6 with cc | cc
                    · subst cc
                      show GoW p e below s (ValQ (.int (1 : Int32)) n0) room_1.cells room_1.slots (T191.setTop (mkF m 136 (Sh6 q1 q2 0 0 b10 b14 b18 b21) []))
                      refine GoW.sg (mkF m 138 (Sh6 q1 q2 0 0 b10 b14 b18 b21) [(.ref b21)]) (fun t k => XS.aload X191.here hx rfl (hb hby at_136) rfl rfl k) ?_
                      refine GoW.sg (mkF m 139 (Sh6 q1 q2 0 0 b10 b14 b18 b21) [(.int 0), (.ref b21)]) (fun t k => XS.iloadN X191.here hx rfl (hb hby at_138) rfl k) ?_
                      refine GoW.sg (mkF m 141 (Sh6 q1 q2 0 0 b10 b14 b18 b21) [(.int 0), (.int 0), (.ref b21)]) (fun t k => XS.iload X191.here hx rfl (hb hby at_139) rfl k) ?_
                      refine GoW.sg (mkF m 143 (Sh6 q1 q2 0 0 b10 b14 b18 b21) [(.long b18), (.int 0), (.int 0), (.ref b21)]) (fun t k => XS.lload X191.here hx rfl (hb hby at_141) rfl k) ?_
                      obtain ⟨cq257, kq257, q257a, q257b, q257c⟩ := isOf hZ rfl p191_0
                      obtain ⟨_, _, ⟨T257, L257, k257, n257⟩, -, X257, ⟨Lc257, hQ257, l257, y257, z257⟩, st257⟩ := X191.virtualBack hx (y := (⟨"com/example/spindle/spindle/SpinRule", "countWait", "(ZZJ)V"⟩ : MethodName)) (z := (⟨"com/example/spindle/spindle/SpinRule", "countWait", "(ZZJ)V"⟩ : MethodName)) hown (mvT hZ (ww hw 35 rfl)) (mvT hZ (ww hw 36 rfl)) (notFace_of_selects (args := #[]) (mvT hZ (ww hw 38 rfl))) (mvT hZ (ww hw 38 rfl)) (mvT hZ (ww hw 37 rfl)) (by decide) (backOf (W := 0) (rm6_29 l Z a0 hw [] b21 b18  T191.heap n0  p191_0 p191_1 p191_2 p191_3 g_b21  c192 ) hZ (ww hw 39 rfl) (ww hw 4 rfl) (by decide) (by decide)) q257a q257c (g := (mkF m 143 (Sh6 q1 q2 0 0 b10 b14 b18 b21) [(.long b18), (.int 0), (.int 0), (.ref b21)])) rfl (by rw [hml]; rfl) (Steps.refl _) (argsL := [(.int (0 : Int32)), (.int (0 : Int32)), (.long b18)]) (rest := []) (lenOf pd_28ZZJ29V rfl) rfl (by show 2 * 0 + _ ≤ _; exact Nat.le_of_eq rfl) (hb hby at_143) (fun _ _ => ⟨rfl, rfl, (by decide : 1 + 0 ≤ _), (by decide : 3 + 0 ≤ _)⟩)
                      dsimp only [Pt.U, Pt.locs, Pt.cells, Pt.slots] at X257 l257 y257 z257 st257 hQ257
                      subst l257 y257 z257
                      obtain ⟨rfl, N257q, K257, p257_0, p257_1, p257_2, p257_3⟩ := hQ257
                      have N257 := Fr.app N191 N257q
                      have Zs_257 : n0 ≤ T257.heap.size := Nat.le_trans Zs_191 K257.1
                      refine GoW.sg (mkF m 146 (Sh6 q1 q2 0 0 b10 b14 b18 b21) []) (fun t k => st257.trans k) ?_
                      refine GoW.sg (mkF m 148 (Sh6 q1 q2 0 0 b10 b14 b18 b21) [(.ref b21)]) (fun t k => XS.aload X257.here hx rfl (hb hby at_146) rfl rfl k) ?_
                      obtain ⟨cq258, kq258, q258a, q258b, q258c⟩ := isOf hZ rfl p257_0
                      obtain ⟨_, _, ⟨T258, L258, k258, n258⟩, -, X258, ⟨Lc258, hQ258, l258, y258, z258⟩, st258⟩ := X257.virtualBack hx (y := (⟨"com/example/spindle/spindle/SpinRule", "handedOn", "()V"⟩ : MethodName)) (z := (⟨"com/example/spindle/spindle/SpinRule", "handedOn", "()V"⟩ : MethodName)) hown (mvT hZ (ww hw 13 rfl)) (mvT hZ (ww hw 14 rfl)) (notFace_of_selects (args := #[]) (mvT hZ (ww hw 16 rfl))) (mvT hZ (ww hw 16 rfl)) (mvT hZ (ww hw 15 rfl)) (by decide) (backOf (W := 0) (rm3_24 l Z a0 hw [] b21  T257.heap n0  p257_0 p257_1 p257_2 p257_3 g_b21   ) hZ (ww hw 17 rfl) (ww hw 4 rfl) (by decide) (by decide)) q258a q258c (g := (mkF m 148 (Sh6 q1 q2 0 0 b10 b14 b18 b21) [(.ref b21)])) rfl (by rw [hml]; rfl) (Steps.refl _) (argsL := []) (rest := []) (lenOf pd_2829V rfl) rfl (by show 2 * 0 + _ ≤ _; exact Nat.le_of_eq rfl) (hb hby at_148) (fun _ _ => ⟨rfl, rfl, (by decide : 1 + 0 ≤ _), (by decide : 3 + 0 ≤ _)⟩)
                      dsimp only [Pt.U, Pt.locs, Pt.cells, Pt.slots] at X258 l258 y258 z258 st258 hQ258
                      subst l258 y258 z258
                      obtain ⟨rfl, N258q, K258, p258_0, p258_1, p258_2, p258_3⟩ := hQ258
                      have N258 := Fr.app N257 N258q
                      have Zs_258 : n0 ≤ T258.heap.size := Nat.le_trans Zs_257 K258.1
                      refine GoW.sg (mkF m 151 (Sh6 q1 q2 0 0 b10 b14 b18 b21) []) (fun t k => st258.trans k) ?_
                      refine GoW.sg (mkF m 153 (Sh6 q1 q2 0 0 b10 b14 b18 b21) [(.ref b21)]) (fun t k => XS.aload X258.here hx rfl (hb hby at_151) rfl rfl k) ?_
                      refine GoW.sg (mkF m 156 (Sh6 q1 q2 0 0 b10 b14 b18 b21) [(.long 9223372036854775807), (.ref b21)]) (fun t k => X258.ldc2Long hx hown (mvT hZ (ww hw 20 rfl)) (g := (mkF m 153 (Sh6 q1 q2 0 0 b10 b14 b18 b21) [(.ref b21)])) rfl (hb hby at_153) t k) ?_
                      obtain ⟨cq259, kq259, q259a, q259b, q259c⟩ := isOf hZ rfl p258_0
                      obtain ⟨_, _, ⟨T259, L259, k259, n259⟩, -, X259, ⟨Lc259, hQ259, l259, y259, z259⟩, st259⟩ := X258.virtualBack hx (y := (⟨"com/example/spindle/spindle/SpinRule", "spinNanos", "(J)J"⟩ : MethodName)) (z := (⟨"com/example/spindle/spindle/SpinRule", "spinNanos", "(J)J"⟩ : MethodName)) hown (mvT hZ (ww hw 21 rfl)) (mvT hZ (ww hw 22 rfl)) (notFace_of_selects (args := #[]) (mvT hZ (ww hw 24 rfl))) (mvT hZ (ww hw 24 rfl)) (mvT hZ (ww hw 23 rfl)) (by decide) (backOf (W := 0) (rm4_25 l Z a0 hw [] b21  T258.heap n0  p258_0 p258_1 p258_2 p258_3 g_b21   ) hZ (ww hw 25 rfl) (ww hw 4 rfl) (by decide) (by decide)) q259a q259c (g := (mkF m 156 (Sh6 q1 q2 0 0 b10 b14 b18 b21) [(.long 9223372036854775807), (.ref b21)])) rfl (by rw [hml]; rfl) (Steps.refl _) (argsL := [(.long (9223372036854775807 : Int64))]) (rest := []) (lenOf pd_28J29J rfl) rfl (by show 2 * 0 + _ ≤ _; exact Nat.le_of_eq rfl) (hb hby at_156) (fun _ _ => ⟨rfl, rfl, (by decide : 1 + 0 ≤ _), (by decide : 3 + 0 ≤ _)⟩)
                      dsimp only [Pt.U, Pt.locs, Pt.cells, Pt.slots] at X259 l259 y259 z259 st259 hQ259
                      subst l259 y259 z259
                      obtain ⟨rfl, N259q, K259, p259_0, p259_1, p259_2, p259_3⟩ := hQ259
                      have N259 := Fr.app N258 N259q
                      have Zs_259 : n0 ≤ T259.heap.size := Nat.le_trans Zs_258 K259.1
                      refine GoW.sg (mkF m 159 (Sh6 q1 q2 0 0 b10 b14 b18 b21) [(.long 0)]) (fun t k => st259.trans k) ?_
                      refine GoW.sg (mkF m 161 (Sh10 q1 q2 0 0 b10 b14 b18 b21 0) []) (fun t k => XS.lstore X259.here hx rfl (hb hby at_159) rfl (l' := (Sh10 q1 q2 0 0 b10 b14 b18 b21 0)) rfl k) ?_
                      refine GoW.sg (mkF m 163 (Sh10 q1 q2 0 0 b10 b14 b18 b21 0) [(.int b10)]) (fun t k => XS.iload X259.here hx rfl (hb hby at_161) rfl k) ?_
                      refine GoW.sg (mkF m 166 (Sh10 q1 q2 0 0 b10 b14 b18 b21 0) []) (fun t k => XS.ifNo X259.here hx rfl (hb hby at_163) rfl ((if0 _ _).trans (feq c143).1) k) ?_
                      refine GoW.sg (mkF m 167 (Sh10 q1 q2 0 0 b10 b14 b18 b21 0) [(.int 0)]) (fun t k => XS.iloadN X259.here hx rfl (hb hby at_166) rfl k) ?_
                      refine GoW.sg (mkF m 170 (Sh10 q1 q2 0 0 b10 b14 b18 b21 0) []) (fun t k => XS.ifNo X259.here hx rfl (hb hby at_167) rfl (by decide) k) ?_
                      refine GoW.sg (mkF m 172 (Sh10 q1 q2 0 0 b10 b14 b18 b21 0) [(.long b18)]) (fun t k => XS.lload X259.here hx rfl (hb hby at_170) rfl k) ?_
                      refine GoW.sg (mkF m 175 (Sh10 q1 q2 0 0 b10 b14 b18 b21 0) [(.long 20000), (.long b18)]) (fun t k => X259.ldc2Long hx hown (mvT hZ (ww hw 34 rfl)) (g := (mkF m 172 (Sh10 q1 q2 0 0 b10 b14 b18 b21 0) [(.long b18)])) rfl (hb hby at_172) t k) ?_
                      refine GoW.sg (mkF m 176 (Sh10 q1 q2 0 0 b10 b14 b18 b21 0) [(.int (lcmpW b18 (20000 : Int64)))]) (fun t k => XS.lcmp X259.here hx rfl (hb hby at_175) rfl k) ?_
                      refine GoW.sg (mkF m 179 (Sh10 q1 q2 0 0 b10 b14 b18 b21 0) []) (fun t k => XS.ifNo X259.here hx rfl (hb hby at_176) rfl ((if0 _ _).trans (flt (mt (lw_lt _ _).mp c192)).1) k) ?_
                      refine GoW.sg (mkF m 180 (Sh10 q1 q2 0 0 b10 b14 b18 b21 0) [(.int 1)]) (fun t k => XS.iconst X259.here hx rfl (hb hby at_179) k) ?_
                      refine GoW.sg (mkF m 184 (Sh10 q1 q2 0 0 b10 b14 b18 b21 0) [(.int 1)]) (fun t k => XS.goto X259.here hx rfl (pc0 := 180) (pc' := 184) rfl (hb hby at_180) (by decide) (by decide) k) ?_
                      refine GoW.sg (mkF m 186 (Sh11 q1 q2 0 0 b10 b14 b18 b21 0 1) []) (fun t k => XS.istore X259.here hx rfl (hb hby at_184) rfl (l' := (Sh11 q1 q2 0 0 b10 b14 b18 b21 0 1)) rfl k) ?_
                      refine GoW.sg (mkF m 187 (Sh11 q1 q2 0 0 b10 b14 b18 b21 0 1) [(.int 0)]) (fun t k => XS.iloadN X259.here hx rfl (hb hby at_186) rfl k) ?_
                      refine GoW.sg (mkF m 208 (Sh11 q1 q2 0 0 b10 b14 b18 b21 0 1) []) (fun t k => XS.ifYes X259.here hx rfl (pc0 := 187) (pc' := 208) rfl (hb hby at_187) rfl (by decide) (by decide) (by decide) k) ?_
                      refine GoW.sg (mkF m 209 (Sh11 q1 q2 0 0 b10 b14 b18 b21 0 1) [(.int 0)]) (fun t k => XS.iconst X259.here hx rfl (hb hby at_208) k) ?_
                      refine GoW.sg (mkF m 211 (Sh12 q1 q2 0 0 b10 b14 b18 b21 0 1 0) []) (fun t k => XS.istore X259.here hx rfl (hb hby at_209) rfl (l' := (Sh12 q1 q2 0 0 b10 b14 b18 b21 0 1 0)) rfl k) ?_
                      refine GoW.sg (mkF m 213 (Sh12 q1 q2 0 0 b10 b14 b18 b21 0 1 0) [(.int b14)]) (fun t k => XS.iload X259.here hx rfl (hb hby at_211) rfl k) ?_
                      refine GoW.sg (mkF m 236 (Sh12 q1 q2 0 0 b10 b14 b18 b21 0 1 0) []) (fun t k => XS.ifYes X259.here hx rfl (pc0 := 213) (pc' := 236) rfl (hb hby at_213) rfl ((if0 _ _).trans (teq c142).1) (by decide) (by decide) k) ?_
                      refine GoW.sg (mkF m 238 (Sh12 q1 q2 0 0 b10 b14 b18 b21 0 1 0) [(.int 1)]) (fun t k => XS.iload X259.here hx rfl (hb hby at_236) rfl k) ?_
                      refine GoW.sg (mkF m 241 (Sh12 q1 q2 0 0 b10 b14 b18 b21 0 1 0) []) (fun t k => XS.ifNo X259.here hx rfl (hb hby at_238) rfl (by decide) k) ?_
                      refine GoW.sg (mkF m 243 (Sh12 q1 q2 0 0 b10 b14 b18 b21 0 1 0) [(.int 0)]) (fun t k => XS.iload X259.here hx rfl (hb hby at_241) rfl k) ?_
                      refine GoW.sg (mkF m 250 (Sh12 q1 q2 0 0 b10 b14 b18 b21 0 1 0) []) (fun t k => XS.ifYes X259.here hx rfl (pc0 := 243) (pc' := 250) rfl (hb hby at_243) rfl (by decide) (by decide) (by decide) k) ?_
                      refine GoW.sg (mkF m 251 (Sh12 q1 q2 0 0 b10 b14 b18 b21 0 1 0) [(.int 0)]) (fun t k => XS.iconst X259.here hx rfl (hb hby at_250) k) ?_
                      refine GoW.sg (mkF m 253 (Sh13 q1 q2 0 0 b10 b14 b18 b21 0 1 0 0) []) (fun t k => XS.istore X259.here hx rfl (hb hby at_251) rfl (l' := (Sh13 q1 q2 0 0 b10 b14 b18 b21 0 1 0 0)) rfl k) ?_
                      refine GoW.sg (mkF m 255 (Sh13 q1 q2 0 0 b10 b14 b18 b21 0 1 0 0) [(.long 0)]) (fun t k => XS.lload X259.here hx rfl (hb hby at_253) rfl k) ?_
                      refine GoW.sg (mkF m 257 (Sh13 q1 q2 0 0 b10 b14 b18 b21 0 1 0 0) [(.int 0), (.long 0)]) (fun t k => XS.iload X259.here hx rfl (hb hby at_255) rfl k) ?_
                      refine GoW.sg (mkF m 266 (Sh13 q1 q2 0 0 b10 b14 b18 b21 0 1 0 0) [(.long 0)]) (fun t k => XS.ifYes X259.here hx rfl (pc0 := 257) (pc' := 266) rfl (hb hby at_257) rfl (by decide) (by decide) (by decide) k) ?_
                      refine GoW.sg (mkF m 267 (Sh13 q1 q2 0 0 b10 b14 b18 b21 0 1 0 0) [(.long 0), (.long 0)]) (fun t k => XS.lconst X259.here hx rfl (hb hby at_266) k) ?_
                      refine GoW.sg (mkF m 268 (Sh13 q1 q2 0 0 b10 b14 b18 b21 0 1 0 0) [(.int (lcmpW (0 : Int64) (0 : Int64)))]) (fun t k => XS.lcmp X259.here hx rfl (hb hby at_267) rfl k) ?_
                      refine GoW.sg (mkF m 271 (Sh13 q1 q2 0 0 b10 b14 b18 b21 0 1 0 0) []) (fun t k => XS.ifNo X259.here hx rfl (hb hby at_268) rfl (by decide) k) ?_
                      refine GoW.sg (mkF m 272 (Sh13 q1 q2 0 0 b10 b14 b18 b21 0 1 0 0) [(.int 1)]) (fun t k => XS.iconst X259.here hx rfl (hb hby at_271) k) ?_
                      refine GoW.sg (mkF m 276 (Sh13 q1 q2 0 0 b10 b14 b18 b21 0 1 0 0) [(.int 1)]) (fun t k => XS.goto X259.here hx rfl (pc0 := 272) (pc' := 276) rfl (hb hby at_272) (by decide) (by decide) k) ?_
                      refine GoW.retN X259 hx (t := .boolean) Bd.returns (by simp) (hb hby at_276) Bd.notSynchronized ?_ (by decide) (by decide)
                      exact ⟨rfl, N259⟩
                    · subst cc
                      show GoW p e below s (ValQ (.int (1 : Int32)) n0) room_1.cells room_1.slots (T191.setTop (mkF m 136 (Sh6 q1 q2 0 1 b10 b14 b18 b21) []))
                      refine GoW.sg (mkF m 138 (Sh6 q1 q2 0 1 b10 b14 b18 b21) [(.ref b21)]) (fun t k => XS.aload X191.here hx rfl (hb hby at_136) rfl rfl k) ?_
                      refine GoW.sg (mkF m 139 (Sh6 q1 q2 0 1 b10 b14 b18 b21) [(.int 0), (.ref b21)]) (fun t k => XS.iloadN X191.here hx rfl (hb hby at_138) rfl k) ?_
                      refine GoW.sg (mkF m 141 (Sh6 q1 q2 0 1 b10 b14 b18 b21) [(.int 1), (.int 0), (.ref b21)]) (fun t k => XS.iload X191.here hx rfl (hb hby at_139) rfl k) ?_
                      refine GoW.sg (mkF m 143 (Sh6 q1 q2 0 1 b10 b14 b18 b21) [(.long b18), (.int 1), (.int 0), (.ref b21)]) (fun t k => XS.lload X191.here hx rfl (hb hby at_141) rfl k) ?_
                      obtain ⟨cq268, kq268, q268a, q268b, q268c⟩ := isOf hZ rfl p191_0
                      obtain ⟨_, _, ⟨T268, L268, k268, n268⟩, -, X268, ⟨Lc268, hQ268, l268, y268, z268⟩, st268⟩ := X191.virtualBack hx (y := (⟨"com/example/spindle/spindle/SpinRule", "countWait", "(ZZJ)V"⟩ : MethodName)) (z := (⟨"com/example/spindle/spindle/SpinRule", "countWait", "(ZZJ)V"⟩ : MethodName)) hown (mvT hZ (ww hw 35 rfl)) (mvT hZ (ww hw 36 rfl)) (notFace_of_selects (args := #[]) (mvT hZ (ww hw 38 rfl))) (mvT hZ (ww hw 38 rfl)) (mvT hZ (ww hw 37 rfl)) (by decide) (backOf (W := 0) (rm6_30 l Z a0 hw [] b21 b18  T191.heap n0  p191_0 p191_1 p191_2 p191_3 g_b21  c192 ) hZ (ww hw 39 rfl) (ww hw 4 rfl) (by decide) (by decide)) q268a q268c (g := (mkF m 143 (Sh6 q1 q2 0 1 b10 b14 b18 b21) [(.long b18), (.int 1), (.int 0), (.ref b21)])) rfl (by rw [hml]; rfl) (Steps.refl _) (argsL := [(.int (0 : Int32)), (.int (1 : Int32)), (.long b18)]) (rest := []) (lenOf pd_28ZZJ29V rfl) rfl (by show 2 * 0 + _ ≤ _; exact Nat.le_of_eq rfl) (hb hby at_143) (fun _ _ => ⟨rfl, rfl, (by decide : 1 + 0 ≤ _), (by decide : 3 + 0 ≤ _)⟩)
                      dsimp only [Pt.U, Pt.locs, Pt.cells, Pt.slots] at X268 l268 y268 z268 st268 hQ268
                      subst l268 y268 z268
                      obtain ⟨rfl, N268q, K268, p268_0, p268_1, p268_2, p268_3⟩ := hQ268
                      have N268 := Fr.app N191 N268q
                      have Zs_268 : n0 ≤ T268.heap.size := Nat.le_trans Zs_191 K268.1
                      refine GoW.sg (mkF m 146 (Sh6 q1 q2 0 1 b10 b14 b18 b21) []) (fun t k => st268.trans k) ?_
                      refine GoW.sg (mkF m 148 (Sh6 q1 q2 0 1 b10 b14 b18 b21) [(.ref b21)]) (fun t k => XS.aload X268.here hx rfl (hb hby at_146) rfl rfl k) ?_
                      obtain ⟨cq269, kq269, q269a, q269b, q269c⟩ := isOf hZ rfl p268_0
                      obtain ⟨_, _, ⟨T269, L269, k269, n269⟩, -, X269, ⟨Lc269, hQ269, l269, y269, z269⟩, st269⟩ := X268.virtualBack hx (y := (⟨"com/example/spindle/spindle/SpinRule", "handedOn", "()V"⟩ : MethodName)) (z := (⟨"com/example/spindle/spindle/SpinRule", "handedOn", "()V"⟩ : MethodName)) hown (mvT hZ (ww hw 13 rfl)) (mvT hZ (ww hw 14 rfl)) (notFace_of_selects (args := #[]) (mvT hZ (ww hw 16 rfl))) (mvT hZ (ww hw 16 rfl)) (mvT hZ (ww hw 15 rfl)) (by decide) (backOf (W := 0) (rm3_24 l Z a0 hw [] b21  T268.heap n0  p268_0 p268_1 p268_2 p268_3 g_b21   ) hZ (ww hw 17 rfl) (ww hw 4 rfl) (by decide) (by decide)) q269a q269c (g := (mkF m 148 (Sh6 q1 q2 0 1 b10 b14 b18 b21) [(.ref b21)])) rfl (by rw [hml]; rfl) (Steps.refl _) (argsL := []) (rest := []) (lenOf pd_2829V rfl) rfl (by show 2 * 0 + _ ≤ _; exact Nat.le_of_eq rfl) (hb hby at_148) (fun _ _ => ⟨rfl, rfl, (by decide : 1 + 0 ≤ _), (by decide : 3 + 0 ≤ _)⟩)
                      dsimp only [Pt.U, Pt.locs, Pt.cells, Pt.slots] at X269 l269 y269 z269 st269 hQ269
                      subst l269 y269 z269
                      obtain ⟨rfl, N269q, K269, p269_0, p269_1, p269_2, p269_3⟩ := hQ269
                      have N269 := Fr.app N268 N269q
                      have Zs_269 : n0 ≤ T269.heap.size := Nat.le_trans Zs_268 K269.1
                      refine GoW.sg (mkF m 151 (Sh6 q1 q2 0 1 b10 b14 b18 b21) []) (fun t k => st269.trans k) ?_
                      refine GoW.sg (mkF m 153 (Sh6 q1 q2 0 1 b10 b14 b18 b21) [(.ref b21)]) (fun t k => XS.aload X269.here hx rfl (hb hby at_151) rfl rfl k) ?_
                      refine GoW.sg (mkF m 156 (Sh6 q1 q2 0 1 b10 b14 b18 b21) [(.long 9223372036854775807), (.ref b21)]) (fun t k => X269.ldc2Long hx hown (mvT hZ (ww hw 20 rfl)) (g := (mkF m 153 (Sh6 q1 q2 0 1 b10 b14 b18 b21) [(.ref b21)])) rfl (hb hby at_153) t k) ?_
                      obtain ⟨cq270, kq270, q270a, q270b, q270c⟩ := isOf hZ rfl p269_0
                      obtain ⟨_, _, ⟨T270, L270, k270, n270⟩, -, X270, ⟨Lc270, hQ270, l270, y270, z270⟩, st270⟩ := X269.virtualBack hx (y := (⟨"com/example/spindle/spindle/SpinRule", "spinNanos", "(J)J"⟩ : MethodName)) (z := (⟨"com/example/spindle/spindle/SpinRule", "spinNanos", "(J)J"⟩ : MethodName)) hown (mvT hZ (ww hw 21 rfl)) (mvT hZ (ww hw 22 rfl)) (notFace_of_selects (args := #[]) (mvT hZ (ww hw 24 rfl))) (mvT hZ (ww hw 24 rfl)) (mvT hZ (ww hw 23 rfl)) (by decide) (backOf (W := 0) (rm4_25 l Z a0 hw [] b21  T269.heap n0  p269_0 p269_1 p269_2 p269_3 g_b21   ) hZ (ww hw 25 rfl) (ww hw 4 rfl) (by decide) (by decide)) q270a q270c (g := (mkF m 156 (Sh6 q1 q2 0 1 b10 b14 b18 b21) [(.long 9223372036854775807), (.ref b21)])) rfl (by rw [hml]; rfl) (Steps.refl _) (argsL := [(.long (9223372036854775807 : Int64))]) (rest := []) (lenOf pd_28J29J rfl) rfl (by show 2 * 0 + _ ≤ _; exact Nat.le_of_eq rfl) (hb hby at_156) (fun _ _ => ⟨rfl, rfl, (by decide : 1 + 0 ≤ _), (by decide : 3 + 0 ≤ _)⟩)
                      dsimp only [Pt.U, Pt.locs, Pt.cells, Pt.slots] at X270 l270 y270 z270 st270 hQ270
                      subst l270 y270 z270
                      obtain ⟨rfl, N270q, K270, p270_0, p270_1, p270_2, p270_3⟩ := hQ270
                      have N270 := Fr.app N269 N270q
                      have Zs_270 : n0 ≤ T270.heap.size := Nat.le_trans Zs_269 K270.1
                      refine GoW.sg (mkF m 159 (Sh6 q1 q2 0 1 b10 b14 b18 b21) [(.long 0)]) (fun t k => st270.trans k) ?_
                      refine GoW.sg (mkF m 161 (Sh10 q1 q2 0 1 b10 b14 b18 b21 0) []) (fun t k => XS.lstore X270.here hx rfl (hb hby at_159) rfl (l' := (Sh10 q1 q2 0 1 b10 b14 b18 b21 0)) rfl k) ?_
                      refine GoW.sg (mkF m 163 (Sh10 q1 q2 0 1 b10 b14 b18 b21 0) [(.int b10)]) (fun t k => XS.iload X270.here hx rfl (hb hby at_161) rfl k) ?_
                      refine GoW.sg (mkF m 166 (Sh10 q1 q2 0 1 b10 b14 b18 b21 0) []) (fun t k => XS.ifNo X270.here hx rfl (hb hby at_163) rfl ((if0 _ _).trans (feq c143).1) k) ?_
                      refine GoW.sg (mkF m 167 (Sh10 q1 q2 0 1 b10 b14 b18 b21 0) [(.int 0)]) (fun t k => XS.iloadN X270.here hx rfl (hb hby at_166) rfl k) ?_
                      refine GoW.sg (mkF m 170 (Sh10 q1 q2 0 1 b10 b14 b18 b21 0) []) (fun t k => XS.ifNo X270.here hx rfl (hb hby at_167) rfl (by decide) k) ?_
                      refine GoW.sg (mkF m 172 (Sh10 q1 q2 0 1 b10 b14 b18 b21 0) [(.long b18)]) (fun t k => XS.lload X270.here hx rfl (hb hby at_170) rfl k) ?_
                      refine GoW.sg (mkF m 175 (Sh10 q1 q2 0 1 b10 b14 b18 b21 0) [(.long 20000), (.long b18)]) (fun t k => X270.ldc2Long hx hown (mvT hZ (ww hw 34 rfl)) (g := (mkF m 172 (Sh10 q1 q2 0 1 b10 b14 b18 b21 0) [(.long b18)])) rfl (hb hby at_172) t k) ?_
                      refine GoW.sg (mkF m 176 (Sh10 q1 q2 0 1 b10 b14 b18 b21 0) [(.int (lcmpW b18 (20000 : Int64)))]) (fun t k => XS.lcmp X270.here hx rfl (hb hby at_175) rfl k) ?_
                      refine GoW.sg (mkF m 179 (Sh10 q1 q2 0 1 b10 b14 b18 b21 0) []) (fun t k => XS.ifNo X270.here hx rfl (hb hby at_176) rfl ((if0 _ _).trans (flt (mt (lw_lt _ _).mp c192)).1) k) ?_
                      refine GoW.sg (mkF m 180 (Sh10 q1 q2 0 1 b10 b14 b18 b21 0) [(.int 1)]) (fun t k => XS.iconst X270.here hx rfl (hb hby at_179) k) ?_
                      refine GoW.sg (mkF m 184 (Sh10 q1 q2 0 1 b10 b14 b18 b21 0) [(.int 1)]) (fun t k => XS.goto X270.here hx rfl (pc0 := 180) (pc' := 184) rfl (hb hby at_180) (by decide) (by decide) k) ?_
                      refine GoW.sg (mkF m 186 (Sh11 q1 q2 0 1 b10 b14 b18 b21 0 1) []) (fun t k => XS.istore X270.here hx rfl (hb hby at_184) rfl (l' := (Sh11 q1 q2 0 1 b10 b14 b18 b21 0 1)) rfl k) ?_
                      refine GoW.sg (mkF m 187 (Sh11 q1 q2 0 1 b10 b14 b18 b21 0 1) [(.int 0)]) (fun t k => XS.iloadN X270.here hx rfl (hb hby at_186) rfl k) ?_
                      refine GoW.sg (mkF m 208 (Sh11 q1 q2 0 1 b10 b14 b18 b21 0 1) []) (fun t k => XS.ifYes X270.here hx rfl (pc0 := 187) (pc' := 208) rfl (hb hby at_187) rfl (by decide) (by decide) (by decide) k) ?_
                      refine GoW.sg (mkF m 209 (Sh11 q1 q2 0 1 b10 b14 b18 b21 0 1) [(.int 0)]) (fun t k => XS.iconst X270.here hx rfl (hb hby at_208) k) ?_
                      refine GoW.sg (mkF m 211 (Sh12 q1 q2 0 1 b10 b14 b18 b21 0 1 0) []) (fun t k => XS.istore X270.here hx rfl (hb hby at_209) rfl (l' := (Sh12 q1 q2 0 1 b10 b14 b18 b21 0 1 0)) rfl k) ?_
                      refine GoW.sg (mkF m 213 (Sh12 q1 q2 0 1 b10 b14 b18 b21 0 1 0) [(.int b14)]) (fun t k => XS.iload X270.here hx rfl (hb hby at_211) rfl k) ?_
                      refine GoW.sg (mkF m 236 (Sh12 q1 q2 0 1 b10 b14 b18 b21 0 1 0) []) (fun t k => XS.ifYes X270.here hx rfl (pc0 := 213) (pc' := 236) rfl (hb hby at_213) rfl ((if0 _ _).trans (teq c142).1) (by decide) (by decide) k) ?_
                      refine GoW.sg (mkF m 238 (Sh12 q1 q2 0 1 b10 b14 b18 b21 0 1 0) [(.int 1)]) (fun t k => XS.iload X270.here hx rfl (hb hby at_236) rfl k) ?_
                      refine GoW.sg (mkF m 241 (Sh12 q1 q2 0 1 b10 b14 b18 b21 0 1 0) []) (fun t k => XS.ifNo X270.here hx rfl (hb hby at_238) rfl (by decide) k) ?_
                      refine GoW.sg (mkF m 243 (Sh12 q1 q2 0 1 b10 b14 b18 b21 0 1 0) [(.int 0)]) (fun t k => XS.iload X270.here hx rfl (hb hby at_241) rfl k) ?_
                      refine GoW.sg (mkF m 250 (Sh12 q1 q2 0 1 b10 b14 b18 b21 0 1 0) []) (fun t k => XS.ifYes X270.here hx rfl (pc0 := 243) (pc' := 250) rfl (hb hby at_243) rfl (by decide) (by decide) (by decide) k) ?_
                      refine GoW.sg (mkF m 251 (Sh12 q1 q2 0 1 b10 b14 b18 b21 0 1 0) [(.int 0)]) (fun t k => XS.iconst X270.here hx rfl (hb hby at_250) k) ?_
                      refine GoW.sg (mkF m 253 (Sh13 q1 q2 0 1 b10 b14 b18 b21 0 1 0 0) []) (fun t k => XS.istore X270.here hx rfl (hb hby at_251) rfl (l' := (Sh13 q1 q2 0 1 b10 b14 b18 b21 0 1 0 0)) rfl k) ?_
                      refine GoW.sg (mkF m 255 (Sh13 q1 q2 0 1 b10 b14 b18 b21 0 1 0 0) [(.long 0)]) (fun t k => XS.lload X270.here hx rfl (hb hby at_253) rfl k) ?_
                      refine GoW.sg (mkF m 257 (Sh13 q1 q2 0 1 b10 b14 b18 b21 0 1 0 0) [(.int 0), (.long 0)]) (fun t k => XS.iload X270.here hx rfl (hb hby at_255) rfl k) ?_
                      refine GoW.sg (mkF m 266 (Sh13 q1 q2 0 1 b10 b14 b18 b21 0 1 0 0) [(.long 0)]) (fun t k => XS.ifYes X270.here hx rfl (pc0 := 257) (pc' := 266) rfl (hb hby at_257) rfl (by decide) (by decide) (by decide) k) ?_
                      refine GoW.sg (mkF m 267 (Sh13 q1 q2 0 1 b10 b14 b18 b21 0 1 0 0) [(.long 0), (.long 0)]) (fun t k => XS.lconst X270.here hx rfl (hb hby at_266) k) ?_
                      refine GoW.sg (mkF m 268 (Sh13 q1 q2 0 1 b10 b14 b18 b21 0 1 0 0) [(.int (lcmpW (0 : Int64) (0 : Int64)))]) (fun t k => XS.lcmp X270.here hx rfl (hb hby at_267) rfl k) ?_
                      refine GoW.sg (mkF m 271 (Sh13 q1 q2 0 1 b10 b14 b18 b21 0 1 0 0) []) (fun t k => XS.ifNo X270.here hx rfl (hb hby at_268) rfl (by decide) k) ?_
                      refine GoW.sg (mkF m 272 (Sh13 q1 q2 0 1 b10 b14 b18 b21 0 1 0 0) [(.int 1)]) (fun t k => XS.iconst X270.here hx rfl (hb hby at_271) k) ?_
                      refine GoW.sg (mkF m 276 (Sh13 q1 q2 0 1 b10 b14 b18 b21 0 1 0 0) [(.int 1)]) (fun t k => XS.goto X270.here hx rfl (pc0 := 272) (pc' := 276) rfl (hb hby at_272) (by decide) (by decide) k) ?_
                      refine GoW.retN X270 hx (t := .boolean) Bd.returns (by simp) (hb hby at_276) Bd.notSynchronized ?_ (by decide) (by decide)
                      exact ⟨rfl, N270⟩
                  · subst cc
                    show GoW p e below s (ValQ (.int (1 : Int32)) n0) room_1.cells room_1.slots (T191.setTop (mkF m 136 (Sh6 q1 q2 1 b6 b10 b14 b18 b21) []))
                    rcases own_01 hb6 with cc | cc
                    · subst cc
                      show GoW p e below s (ValQ (.int (1 : Int32)) n0) room_1.cells room_1.slots (T191.setTop (mkF m 136 (Sh6 q1 q2 1 0 b10 b14 b18 b21) []))
                      refine GoW.sg (mkF m 138 (Sh6 q1 q2 1 0 b10 b14 b18 b21) [(.ref b21)]) (fun t k => XS.aload X191.here hx rfl (hb hby at_136) rfl rfl k) ?_
                      refine GoW.sg (mkF m 139 (Sh6 q1 q2 1 0 b10 b14 b18 b21) [(.int 1), (.ref b21)]) (fun t k => XS.iloadN X191.here hx rfl (hb hby at_138) rfl k) ?_
                      refine GoW.sg (mkF m 141 (Sh6 q1 q2 1 0 b10 b14 b18 b21) [(.int 0), (.int 1), (.ref b21)]) (fun t k => XS.iload X191.here hx rfl (hb hby at_139) rfl k) ?_
                      refine GoW.sg (mkF m 143 (Sh6 q1 q2 1 0 b10 b14 b18 b21) [(.long b18), (.int 0), (.int 1), (.ref b21)]) (fun t k => XS.lload X191.here hx rfl (hb hby at_141) rfl k) ?_
                      obtain ⟨cq279, kq279, q279a, q279b, q279c⟩ := isOf hZ rfl p191_0
                      obtain ⟨_, _, ⟨T279, L279, k279, n279⟩, -, X279, ⟨Lc279, hQ279, l279, y279, z279⟩, st279⟩ := X191.virtualBack hx (y := (⟨"com/example/spindle/spindle/SpinRule", "countWait", "(ZZJ)V"⟩ : MethodName)) (z := (⟨"com/example/spindle/spindle/SpinRule", "countWait", "(ZZJ)V"⟩ : MethodName)) hown (mvT hZ (ww hw 35 rfl)) (mvT hZ (ww hw 36 rfl)) (notFace_of_selects (args := #[]) (mvT hZ (ww hw 38 rfl))) (mvT hZ (ww hw 38 rfl)) (mvT hZ (ww hw 37 rfl)) (by decide) (backOf (W := 0) (rm6_31 l Z a0 hw [] b21 b18  T191.heap n0  p191_0 p191_1 p191_2 p191_3 g_b21  c192 ) hZ (ww hw 39 rfl) (ww hw 4 rfl) (by decide) (by decide)) q279a q279c (g := (mkF m 143 (Sh6 q1 q2 1 0 b10 b14 b18 b21) [(.long b18), (.int 0), (.int 1), (.ref b21)])) rfl (by rw [hml]; rfl) (Steps.refl _) (argsL := [(.int (1 : Int32)), (.int (0 : Int32)), (.long b18)]) (rest := []) (lenOf pd_28ZZJ29V rfl) rfl (by show 2 * 0 + _ ≤ _; exact Nat.le_of_eq rfl) (hb hby at_143) (fun _ _ => ⟨rfl, rfl, (by decide : 1 + 0 ≤ _), (by decide : 3 + 0 ≤ _)⟩)
                      dsimp only [Pt.U, Pt.locs, Pt.cells, Pt.slots] at X279 l279 y279 z279 st279 hQ279
                      subst l279 y279 z279
                      obtain ⟨rfl, N279q, K279, p279_0, p279_1, p279_2, p279_3⟩ := hQ279
                      have N279 := Fr.app N191 N279q
                      have Zs_279 : n0 ≤ T279.heap.size := Nat.le_trans Zs_191 K279.1
                      refine GoW.sg (mkF m 146 (Sh6 q1 q2 1 0 b10 b14 b18 b21) []) (fun t k => st279.trans k) ?_
                      refine GoW.sg (mkF m 148 (Sh6 q1 q2 1 0 b10 b14 b18 b21) [(.ref b21)]) (fun t k => XS.aload X279.here hx rfl (hb hby at_146) rfl rfl k) ?_
                      obtain ⟨cq280, kq280, q280a, q280b, q280c⟩ := isOf hZ rfl p279_0
                      obtain ⟨_, _, ⟨T280, L280, k280, n280⟩, -, X280, ⟨Lc280, hQ280, l280, y280, z280⟩, st280⟩ := X279.virtualBack hx (y := (⟨"com/example/spindle/spindle/SpinRule", "handedOn", "()V"⟩ : MethodName)) (z := (⟨"com/example/spindle/spindle/SpinRule", "handedOn", "()V"⟩ : MethodName)) hown (mvT hZ (ww hw 13 rfl)) (mvT hZ (ww hw 14 rfl)) (notFace_of_selects (args := #[]) (mvT hZ (ww hw 16 rfl))) (mvT hZ (ww hw 16 rfl)) (mvT hZ (ww hw 15 rfl)) (by decide) (backOf (W := 0) (rm3_24 l Z a0 hw [] b21  T279.heap n0  p279_0 p279_1 p279_2 p279_3 g_b21   ) hZ (ww hw 17 rfl) (ww hw 4 rfl) (by decide) (by decide)) q280a q280c (g := (mkF m 148 (Sh6 q1 q2 1 0 b10 b14 b18 b21) [(.ref b21)])) rfl (by rw [hml]; rfl) (Steps.refl _) (argsL := []) (rest := []) (lenOf pd_2829V rfl) rfl (by show 2 * 0 + _ ≤ _; exact Nat.le_of_eq rfl) (hb hby at_148) (fun _ _ => ⟨rfl, rfl, (by decide : 1 + 0 ≤ _), (by decide : 3 + 0 ≤ _)⟩)
                      dsimp only [Pt.U, Pt.locs, Pt.cells, Pt.slots] at X280 l280 y280 z280 st280 hQ280
                      subst l280 y280 z280
                      obtain ⟨rfl, N280q, K280, p280_0, p280_1, p280_2, p280_3⟩ := hQ280
                      have N280 := Fr.app N279 N280q
                      have Zs_280 : n0 ≤ T280.heap.size := Nat.le_trans Zs_279 K280.1
                      refine GoW.sg (mkF m 151 (Sh6 q1 q2 1 0 b10 b14 b18 b21) []) (fun t k => st280.trans k) ?_
                      refine GoW.sg (mkF m 153 (Sh6 q1 q2 1 0 b10 b14 b18 b21) [(.ref b21)]) (fun t k => XS.aload X280.here hx rfl (hb hby at_151) rfl rfl k) ?_
                      refine GoW.sg (mkF m 156 (Sh6 q1 q2 1 0 b10 b14 b18 b21) [(.long 9223372036854775807), (.ref b21)]) (fun t k => X280.ldc2Long hx hown (mvT hZ (ww hw 20 rfl)) (g := (mkF m 153 (Sh6 q1 q2 1 0 b10 b14 b18 b21) [(.ref b21)])) rfl (hb hby at_153) t k) ?_
                      obtain ⟨cq281, kq281, q281a, q281b, q281c⟩ := isOf hZ rfl p280_0
                      obtain ⟨_, _, ⟨T281, L281, k281, n281⟩, -, X281, ⟨Lc281, hQ281, l281, y281, z281⟩, st281⟩ := X280.virtualBack hx (y := (⟨"com/example/spindle/spindle/SpinRule", "spinNanos", "(J)J"⟩ : MethodName)) (z := (⟨"com/example/spindle/spindle/SpinRule", "spinNanos", "(J)J"⟩ : MethodName)) hown (mvT hZ (ww hw 21 rfl)) (mvT hZ (ww hw 22 rfl)) (notFace_of_selects (args := #[]) (mvT hZ (ww hw 24 rfl))) (mvT hZ (ww hw 24 rfl)) (mvT hZ (ww hw 23 rfl)) (by decide) (backOf (W := 0) (rm4_25 l Z a0 hw [] b21  T280.heap n0  p280_0 p280_1 p280_2 p280_3 g_b21   ) hZ (ww hw 25 rfl) (ww hw 4 rfl) (by decide) (by decide)) q281a q281c (g := (mkF m 156 (Sh6 q1 q2 1 0 b10 b14 b18 b21) [(.long 9223372036854775807), (.ref b21)])) rfl (by rw [hml]; rfl) (Steps.refl _) (argsL := [(.long (9223372036854775807 : Int64))]) (rest := []) (lenOf pd_28J29J rfl) rfl (by show 2 * 0 + _ ≤ _; exact Nat.le_of_eq rfl) (hb hby at_156) (fun _ _ => ⟨rfl, rfl, (by decide : 1 + 0 ≤ _), (by decide : 3 + 0 ≤ _)⟩)
                      dsimp only [Pt.U, Pt.locs, Pt.cells, Pt.slots] at X281 l281 y281 z281 st281 hQ281
                      subst l281 y281 z281
                      obtain ⟨rfl, N281q, K281, p281_0, p281_1, p281_2, p281_3⟩ := hQ281
                      have N281 := Fr.app N280 N281q
                      have Zs_281 : n0 ≤ T281.heap.size := Nat.le_trans Zs_280 K281.1
                      refine GoW.sg (mkF m 159 (Sh6 q1 q2 1 0 b10 b14 b18 b21) [(.long 0)]) (fun t k => st281.trans k) ?_
                      refine GoW.sg (mkF m 161 (Sh10 q1 q2 1 0 b10 b14 b18 b21 0) []) (fun t k => XS.lstore X281.here hx rfl (hb hby at_159) rfl (l' := (Sh10 q1 q2 1 0 b10 b14 b18 b21 0)) rfl k) ?_
                      refine GoW.sg (mkF m 163 (Sh10 q1 q2 1 0 b10 b14 b18 b21 0) [(.int b10)]) (fun t k => XS.iload X281.here hx rfl (hb hby at_161) rfl k) ?_
                      refine GoW.sg (mkF m 166 (Sh10 q1 q2 1 0 b10 b14 b18 b21 0) []) (fun t k => XS.ifNo X281.here hx rfl (hb hby at_163) rfl ((if0 _ _).trans (feq c143).1) k) ?_
                      refine GoW.sg (mkF m 167 (Sh10 q1 q2 1 0 b10 b14 b18 b21 0) [(.int 1)]) (fun t k => XS.iloadN X281.here hx rfl (hb hby at_166) rfl k) ?_
                      refine GoW.sg (mkF m 179 (Sh10 q1 q2 1 0 b10 b14 b18 b21 0) []) (fun t k => XS.ifYes X281.here hx rfl (pc0 := 167) (pc' := 179) rfl (hb hby at_167) rfl (by decide) (by decide) (by decide) k) ?_
                      refine GoW.sg (mkF m 180 (Sh10 q1 q2 1 0 b10 b14 b18 b21 0) [(.int 1)]) (fun t k => XS.iconst X281.here hx rfl (hb hby at_179) k) ?_
                      refine GoW.sg (mkF m 184 (Sh10 q1 q2 1 0 b10 b14 b18 b21 0) [(.int 1)]) (fun t k => XS.goto X281.here hx rfl (pc0 := 180) (pc' := 184) rfl (hb hby at_180) (by decide) (by decide) k) ?_
                      refine GoW.sg (mkF m 186 (Sh11 q1 q2 1 0 b10 b14 b18 b21 0 1) []) (fun t k => XS.istore X281.here hx rfl (hb hby at_184) rfl (l' := (Sh11 q1 q2 1 0 b10 b14 b18 b21 0 1)) rfl k) ?_
                      refine GoW.sg (mkF m 187 (Sh11 q1 q2 1 0 b10 b14 b18 b21 0 1) [(.int 1)]) (fun t k => XS.iloadN X281.here hx rfl (hb hby at_186) rfl k) ?_
                      refine GoW.sg (mkF m 190 (Sh11 q1 q2 1 0 b10 b14 b18 b21 0 1) []) (fun t k => XS.ifNo X281.here hx rfl (hb hby at_187) rfl (by decide) k) ?_
                      refine GoW.sg (mkF m 192 (Sh11 q1 q2 1 0 b10 b14 b18 b21 0 1) [(.int 0)]) (fun t k => XS.iload X281.here hx rfl (hb hby at_190) rfl k) ?_
                      refine GoW.sg (mkF m 208 (Sh11 q1 q2 1 0 b10 b14 b18 b21 0 1) []) (fun t k => XS.ifYes X281.here hx rfl (pc0 := 192) (pc' := 208) rfl (hb hby at_192) rfl (by decide) (by decide) (by decide) k) ?_
                      refine GoW.sg (mkF m 209 (Sh11 q1 q2 1 0 b10 b14 b18 b21 0 1) [(.int 0)]) (fun t k => XS.iconst X281.here hx rfl (hb hby at_208) k) ?_
                      refine GoW.sg (mkF m 211 (Sh12 q1 q2 1 0 b10 b14 b18 b21 0 1 0) []) (fun t k => XS.istore X281.here hx rfl (hb hby at_209) rfl (l' := (Sh12 q1 q2 1 0 b10 b14 b18 b21 0 1 0)) rfl k) ?_
                      refine GoW.sg (mkF m 213 (Sh12 q1 q2 1 0 b10 b14 b18 b21 0 1 0) [(.int b14)]) (fun t k => XS.iload X281.here hx rfl (hb hby at_211) rfl k) ?_
                      refine GoW.sg (mkF m 236 (Sh12 q1 q2 1 0 b10 b14 b18 b21 0 1 0) []) (fun t k => XS.ifYes X281.here hx rfl (pc0 := 213) (pc' := 236) rfl (hb hby at_213) rfl ((if0 _ _).trans (teq c142).1) (by decide) (by decide) k) ?_
                      refine GoW.sg (mkF m 238 (Sh12 q1 q2 1 0 b10 b14 b18 b21 0 1 0) [(.int 1)]) (fun t k => XS.iload X281.here hx rfl (hb hby at_236) rfl k) ?_
                      refine GoW.sg (mkF m 241 (Sh12 q1 q2 1 0 b10 b14 b18 b21 0 1 0) []) (fun t k => XS.ifNo X281.here hx rfl (hb hby at_238) rfl (by decide) k) ?_
                      refine GoW.sg (mkF m 243 (Sh12 q1 q2 1 0 b10 b14 b18 b21 0 1 0) [(.int 0)]) (fun t k => XS.iload X281.here hx rfl (hb hby at_241) rfl k) ?_
                      refine GoW.sg (mkF m 250 (Sh12 q1 q2 1 0 b10 b14 b18 b21 0 1 0) []) (fun t k => XS.ifYes X281.here hx rfl (pc0 := 243) (pc' := 250) rfl (hb hby at_243) rfl (by decide) (by decide) (by decide) k) ?_
                      refine GoW.sg (mkF m 251 (Sh12 q1 q2 1 0 b10 b14 b18 b21 0 1 0) [(.int 0)]) (fun t k => XS.iconst X281.here hx rfl (hb hby at_250) k) ?_
                      refine GoW.sg (mkF m 253 (Sh13 q1 q2 1 0 b10 b14 b18 b21 0 1 0 0) []) (fun t k => XS.istore X281.here hx rfl (hb hby at_251) rfl (l' := (Sh13 q1 q2 1 0 b10 b14 b18 b21 0 1 0 0)) rfl k) ?_
                      refine GoW.sg (mkF m 255 (Sh13 q1 q2 1 0 b10 b14 b18 b21 0 1 0 0) [(.long 0)]) (fun t k => XS.lload X281.here hx rfl (hb hby at_253) rfl k) ?_
                      refine GoW.sg (mkF m 257 (Sh13 q1 q2 1 0 b10 b14 b18 b21 0 1 0 0) [(.int 0), (.long 0)]) (fun t k => XS.iload X281.here hx rfl (hb hby at_255) rfl k) ?_
                      refine GoW.sg (mkF m 266 (Sh13 q1 q2 1 0 b10 b14 b18 b21 0 1 0 0) [(.long 0)]) (fun t k => XS.ifYes X281.here hx rfl (pc0 := 257) (pc' := 266) rfl (hb hby at_257) rfl (by decide) (by decide) (by decide) k) ?_
                      refine GoW.sg (mkF m 267 (Sh13 q1 q2 1 0 b10 b14 b18 b21 0 1 0 0) [(.long 0), (.long 0)]) (fun t k => XS.lconst X281.here hx rfl (hb hby at_266) k) ?_
                      refine GoW.sg (mkF m 268 (Sh13 q1 q2 1 0 b10 b14 b18 b21 0 1 0 0) [(.int (lcmpW (0 : Int64) (0 : Int64)))]) (fun t k => XS.lcmp X281.here hx rfl (hb hby at_267) rfl k) ?_
                      refine GoW.sg (mkF m 271 (Sh13 q1 q2 1 0 b10 b14 b18 b21 0 1 0 0) []) (fun t k => XS.ifNo X281.here hx rfl (hb hby at_268) rfl (by decide) k) ?_
                      refine GoW.sg (mkF m 272 (Sh13 q1 q2 1 0 b10 b14 b18 b21 0 1 0 0) [(.int 1)]) (fun t k => XS.iconst X281.here hx rfl (hb hby at_271) k) ?_
                      refine GoW.sg (mkF m 276 (Sh13 q1 q2 1 0 b10 b14 b18 b21 0 1 0 0) [(.int 1)]) (fun t k => XS.goto X281.here hx rfl (pc0 := 272) (pc' := 276) rfl (hb hby at_272) (by decide) (by decide) k) ?_
                      refine GoW.retN X281 hx (t := .boolean) Bd.returns (by simp) (hb hby at_276) Bd.notSynchronized ?_ (by decide) (by decide)
                      exact ⟨rfl, N281⟩
                    · subst cc
                      show GoW p e below s (ValQ (.int (1 : Int32)) n0) room_1.cells room_1.slots (T191.setTop (mkF m 136 (Sh6 q1 q2 1 1 b10 b14 b18 b21) []))
                      refine GoW.sg (mkF m 138 (Sh6 q1 q2 1 1 b10 b14 b18 b21) [(.ref b21)]) (fun t k => XS.aload X191.here hx rfl (hb hby at_136) rfl rfl k) ?_
                      refine GoW.sg (mkF m 139 (Sh6 q1 q2 1 1 b10 b14 b18 b21) [(.int 1), (.ref b21)]) (fun t k => XS.iloadN X191.here hx rfl (hb hby at_138) rfl k) ?_
                      refine GoW.sg (mkF m 141 (Sh6 q1 q2 1 1 b10 b14 b18 b21) [(.int 1), (.int 1), (.ref b21)]) (fun t k => XS.iload X191.here hx rfl (hb hby at_139) rfl k) ?_
                      refine GoW.sg (mkF m 143 (Sh6 q1 q2 1 1 b10 b14 b18 b21) [(.long b18), (.int 1), (.int 1), (.ref b21)]) (fun t k => XS.lload X191.here hx rfl (hb hby at_141) rfl k) ?_
                      obtain ⟨cq290, kq290, q290a, q290b, q290c⟩ := isOf hZ rfl p191_0
                      obtain ⟨_, _, ⟨T290, L290, k290, n290⟩, -, X290, ⟨Lc290, hQ290, l290, y290, z290⟩, st290⟩ := X191.virtualBack hx (y := (⟨"com/example/spindle/spindle/SpinRule", "countWait", "(ZZJ)V"⟩ : MethodName)) (z := (⟨"com/example/spindle/spindle/SpinRule", "countWait", "(ZZJ)V"⟩ : MethodName)) hown (mvT hZ (ww hw 35 rfl)) (mvT hZ (ww hw 36 rfl)) (notFace_of_selects (args := #[]) (mvT hZ (ww hw 38 rfl))) (mvT hZ (ww hw 38 rfl)) (mvT hZ (ww hw 37 rfl)) (by decide) (backOf (W := 0) (rm6_32 l Z a0 hw [] b21 b18  T191.heap n0  p191_0 p191_1 p191_2 p191_3 g_b21  c192 ) hZ (ww hw 39 rfl) (ww hw 4 rfl) (by decide) (by decide)) q290a q290c (g := (mkF m 143 (Sh6 q1 q2 1 1 b10 b14 b18 b21) [(.long b18), (.int 1), (.int 1), (.ref b21)])) rfl (by rw [hml]; rfl) (Steps.refl _) (argsL := [(.int (1 : Int32)), (.int (1 : Int32)), (.long b18)]) (rest := []) (lenOf pd_28ZZJ29V rfl) rfl (by show 2 * 0 + _ ≤ _; exact Nat.le_of_eq rfl) (hb hby at_143) (fun _ _ => ⟨rfl, rfl, (by decide : 1 + 0 ≤ _), (by decide : 3 + 0 ≤ _)⟩)
                      dsimp only [Pt.U, Pt.locs, Pt.cells, Pt.slots] at X290 l290 y290 z290 st290 hQ290
                      subst l290 y290 z290
                      obtain ⟨rfl, N290q, K290, p290_0, p290_1, p290_2, p290_3⟩ := hQ290
                      have N290 := Fr.app N191 N290q
                      have Zs_290 : n0 ≤ T290.heap.size := Nat.le_trans Zs_191 K290.1
                      refine GoW.sg (mkF m 146 (Sh6 q1 q2 1 1 b10 b14 b18 b21) []) (fun t k => st290.trans k) ?_
                      refine GoW.sg (mkF m 148 (Sh6 q1 q2 1 1 b10 b14 b18 b21) [(.ref b21)]) (fun t k => XS.aload X290.here hx rfl (hb hby at_146) rfl rfl k) ?_
                      obtain ⟨cq291, kq291, q291a, q291b, q291c⟩ := isOf hZ rfl p290_0
                      obtain ⟨_, _, ⟨T291, L291, k291, n291⟩, -, X291, ⟨Lc291, hQ291, l291, y291, z291⟩, st291⟩ := X290.virtualBack hx (y := (⟨"com/example/spindle/spindle/SpinRule", "handedOn", "()V"⟩ : MethodName)) (z := (⟨"com/example/spindle/spindle/SpinRule", "handedOn", "()V"⟩ : MethodName)) hown (mvT hZ (ww hw 13 rfl)) (mvT hZ (ww hw 14 rfl)) (notFace_of_selects (args := #[]) (mvT hZ (ww hw 16 rfl))) (mvT hZ (ww hw 16 rfl)) (mvT hZ (ww hw 15 rfl)) (by decide) (backOf (W := 0) (rm3_24 l Z a0 hw [] b21  T290.heap n0  p290_0 p290_1 p290_2 p290_3 g_b21   ) hZ (ww hw 17 rfl) (ww hw 4 rfl) (by decide) (by decide)) q291a q291c (g := (mkF m 148 (Sh6 q1 q2 1 1 b10 b14 b18 b21) [(.ref b21)])) rfl (by rw [hml]; rfl) (Steps.refl _) (argsL := []) (rest := []) (lenOf pd_2829V rfl) rfl (by show 2 * 0 + _ ≤ _; exact Nat.le_of_eq rfl) (hb hby at_148) (fun _ _ => ⟨rfl, rfl, (by decide : 1 + 0 ≤ _), (by decide : 3 + 0 ≤ _)⟩)
                      dsimp only [Pt.U, Pt.locs, Pt.cells, Pt.slots] at X291 l291 y291 z291 st291 hQ291
                      subst l291 y291 z291
                      obtain ⟨rfl, N291q, K291, p291_0, p291_1, p291_2, p291_3⟩ := hQ291
                      have N291 := Fr.app N290 N291q
                      have Zs_291 : n0 ≤ T291.heap.size := Nat.le_trans Zs_290 K291.1
                      refine GoW.sg (mkF m 151 (Sh6 q1 q2 1 1 b10 b14 b18 b21) []) (fun t k => st291.trans k) ?_
                      refine GoW.sg (mkF m 153 (Sh6 q1 q2 1 1 b10 b14 b18 b21) [(.ref b21)]) (fun t k => XS.aload X291.here hx rfl (hb hby at_151) rfl rfl k) ?_
                      refine GoW.sg (mkF m 156 (Sh6 q1 q2 1 1 b10 b14 b18 b21) [(.long 9223372036854775807), (.ref b21)]) (fun t k => X291.ldc2Long hx hown (mvT hZ (ww hw 20 rfl)) (g := (mkF m 153 (Sh6 q1 q2 1 1 b10 b14 b18 b21) [(.ref b21)])) rfl (hb hby at_153) t k) ?_
                      obtain ⟨cq292, kq292, q292a, q292b, q292c⟩ := isOf hZ rfl p291_0
                      obtain ⟨_, _, ⟨T292, L292, k292, n292⟩, -, X292, ⟨Lc292, hQ292, l292, y292, z292⟩, st292⟩ := X291.virtualBack hx (y := (⟨"com/example/spindle/spindle/SpinRule", "spinNanos", "(J)J"⟩ : MethodName)) (z := (⟨"com/example/spindle/spindle/SpinRule", "spinNanos", "(J)J"⟩ : MethodName)) hown (mvT hZ (ww hw 21 rfl)) (mvT hZ (ww hw 22 rfl)) (notFace_of_selects (args := #[]) (mvT hZ (ww hw 24 rfl))) (mvT hZ (ww hw 24 rfl)) (mvT hZ (ww hw 23 rfl)) (by decide) (backOf (W := 0) (rm4_25 l Z a0 hw [] b21  T291.heap n0  p291_0 p291_1 p291_2 p291_3 g_b21   ) hZ (ww hw 25 rfl) (ww hw 4 rfl) (by decide) (by decide)) q292a q292c (g := (mkF m 156 (Sh6 q1 q2 1 1 b10 b14 b18 b21) [(.long 9223372036854775807), (.ref b21)])) rfl (by rw [hml]; rfl) (Steps.refl _) (argsL := [(.long (9223372036854775807 : Int64))]) (rest := []) (lenOf pd_28J29J rfl) rfl (by show 2 * 0 + _ ≤ _; exact Nat.le_of_eq rfl) (hb hby at_156) (fun _ _ => ⟨rfl, rfl, (by decide : 1 + 0 ≤ _), (by decide : 3 + 0 ≤ _)⟩)
                      dsimp only [Pt.U, Pt.locs, Pt.cells, Pt.slots] at X292 l292 y292 z292 st292 hQ292
                      subst l292 y292 z292
                      obtain ⟨rfl, N292q, K292, p292_0, p292_1, p292_2, p292_3⟩ := hQ292
                      have N292 := Fr.app N291 N292q
                      have Zs_292 : n0 ≤ T292.heap.size := Nat.le_trans Zs_291 K292.1
                      refine GoW.sg (mkF m 159 (Sh6 q1 q2 1 1 b10 b14 b18 b21) [(.long 0)]) (fun t k => st292.trans k) ?_
                      refine GoW.sg (mkF m 161 (Sh10 q1 q2 1 1 b10 b14 b18 b21 0) []) (fun t k => XS.lstore X292.here hx rfl (hb hby at_159) rfl (l' := (Sh10 q1 q2 1 1 b10 b14 b18 b21 0)) rfl k) ?_
                      refine GoW.sg (mkF m 163 (Sh10 q1 q2 1 1 b10 b14 b18 b21 0) [(.int b10)]) (fun t k => XS.iload X292.here hx rfl (hb hby at_161) rfl k) ?_
                      refine GoW.sg (mkF m 166 (Sh10 q1 q2 1 1 b10 b14 b18 b21 0) []) (fun t k => XS.ifNo X292.here hx rfl (hb hby at_163) rfl ((if0 _ _).trans (feq c143).1) k) ?_
                      refine GoW.sg (mkF m 167 (Sh10 q1 q2 1 1 b10 b14 b18 b21 0) [(.int 1)]) (fun t k => XS.iloadN X292.here hx rfl (hb hby at_166) rfl k) ?_
                      refine GoW.sg (mkF m 179 (Sh10 q1 q2 1 1 b10 b14 b18 b21 0) []) (fun t k => XS.ifYes X292.here hx rfl (pc0 := 167) (pc' := 179) rfl (hb hby at_167) rfl (by decide) (by decide) (by decide) k) ?_
                      refine GoW.sg (mkF m 180 (Sh10 q1 q2 1 1 b10 b14 b18 b21 0) [(.int 1)]) (fun t k => XS.iconst X292.here hx rfl (hb hby at_179) k) ?_
                      refine GoW.sg (mkF m 184 (Sh10 q1 q2 1 1 b10 b14 b18 b21 0) [(.int 1)]) (fun t k => XS.goto X292.here hx rfl (pc0 := 180) (pc' := 184) rfl (hb hby at_180) (by decide) (by decide) k) ?_
                      refine GoW.sg (mkF m 186 (Sh11 q1 q2 1 1 b10 b14 b18 b21 0 1) []) (fun t k => XS.istore X292.here hx rfl (hb hby at_184) rfl (l' := (Sh11 q1 q2 1 1 b10 b14 b18 b21 0 1)) rfl k) ?_
                      refine GoW.sg (mkF m 187 (Sh11 q1 q2 1 1 b10 b14 b18 b21 0 1) [(.int 1)]) (fun t k => XS.iloadN X292.here hx rfl (hb hby at_186) rfl k) ?_
                      refine GoW.sg (mkF m 190 (Sh11 q1 q2 1 1 b10 b14 b18 b21 0 1) []) (fun t k => XS.ifNo X292.here hx rfl (hb hby at_187) rfl (by decide) k) ?_
                      refine GoW.sg (mkF m 192 (Sh11 q1 q2 1 1 b10 b14 b18 b21 0 1) [(.int 1)]) (fun t k => XS.iload X292.here hx rfl (hb hby at_190) rfl k) ?_
                      refine GoW.sg (mkF m 195 (Sh11 q1 q2 1 1 b10 b14 b18 b21 0 1) []) (fun t k => XS.ifNo X292.here hx rfl (hb hby at_192) rfl (by decide) k) ?_
                      refine GoW.sg (mkF m 197 (Sh11 q1 q2 1 1 b10 b14 b18 b21 0 1) [(.long b18)]) (fun t k => XS.lload X292.here hx rfl (hb hby at_195) rfl k) ?_
                      refine GoW.sg (mkF m 200 (Sh11 q1 q2 1 1 b10 b14 b18 b21 0 1) [(.long 20000), (.long b18)]) (fun t k => X292.ldc2Long hx hown (mvT hZ (ww hw 34 rfl)) (g := (mkF m 197 (Sh11 q1 q2 1 1 b10 b14 b18 b21 0 1) [(.long b18)])) rfl (hb hby at_197) t k) ?_
                      refine GoW.sg (mkF m 201 (Sh11 q1 q2 1 1 b10 b14 b18 b21 0 1) [(.int (lcmpW b18 (20000 : Int64)))]) (fun t k => XS.lcmp X292.here hx rfl (hb hby at_200) rfl k) ?_
                      refine GoW.sg (mkF m 208 (Sh11 q1 q2 1 1 b10 b14 b18 b21 0 1) []) (fun t k => XS.ifYes X292.here hx rfl (pc0 := 201) (pc' := 208) rfl (hb hby at_201) rfl ((if0 _ _).trans (flt (mt (lw_lt _ _).mp c192)).2.1) (by decide) (by decide) k) ?_
                      refine GoW.sg (mkF m 209 (Sh11 q1 q2 1 1 b10 b14 b18 b21 0 1) [(.int 0)]) (fun t k => XS.iconst X292.here hx rfl (hb hby at_208) k) ?_
                      refine GoW.sg (mkF m 211 (Sh12 q1 q2 1 1 b10 b14 b18 b21 0 1 0) []) (fun t k => XS.istore X292.here hx rfl (hb hby at_209) rfl (l' := (Sh12 q1 q2 1 1 b10 b14 b18 b21 0 1 0)) rfl k) ?_
                      refine GoW.sg (mkF m 213 (Sh12 q1 q2 1 1 b10 b14 b18 b21 0 1 0) [(.int b14)]) (fun t k => XS.iload X292.here hx rfl (hb hby at_211) rfl k) ?_
                      refine GoW.sg (mkF m 236 (Sh12 q1 q2 1 1 b10 b14 b18 b21 0 1 0) []) (fun t k => XS.ifYes X292.here hx rfl (pc0 := 213) (pc' := 236) rfl (hb hby at_213) rfl ((if0 _ _).trans (teq c142).1) (by decide) (by decide) k) ?_
                      refine GoW.sg (mkF m 238 (Sh12 q1 q2 1 1 b10 b14 b18 b21 0 1 0) [(.int 1)]) (fun t k => XS.iload X292.here hx rfl (hb hby at_236) rfl k) ?_
                      refine GoW.sg (mkF m 241 (Sh12 q1 q2 1 1 b10 b14 b18 b21 0 1 0) []) (fun t k => XS.ifNo X292.here hx rfl (hb hby at_238) rfl (by decide) k) ?_
                      refine GoW.sg (mkF m 243 (Sh12 q1 q2 1 1 b10 b14 b18 b21 0 1 0) [(.int 0)]) (fun t k => XS.iload X292.here hx rfl (hb hby at_241) rfl k) ?_
                      refine GoW.sg (mkF m 250 (Sh12 q1 q2 1 1 b10 b14 b18 b21 0 1 0) []) (fun t k => XS.ifYes X292.here hx rfl (pc0 := 243) (pc' := 250) rfl (hb hby at_243) rfl (by decide) (by decide) (by decide) k) ?_
                      refine GoW.sg (mkF m 251 (Sh12 q1 q2 1 1 b10 b14 b18 b21 0 1 0) [(.int 0)]) (fun t k => XS.iconst X292.here hx rfl (hb hby at_250) k) ?_
                      refine GoW.sg (mkF m 253 (Sh13 q1 q2 1 1 b10 b14 b18 b21 0 1 0 0) []) (fun t k => XS.istore X292.here hx rfl (hb hby at_251) rfl (l' := (Sh13 q1 q2 1 1 b10 b14 b18 b21 0 1 0 0)) rfl k) ?_
                      refine GoW.sg (mkF m 255 (Sh13 q1 q2 1 1 b10 b14 b18 b21 0 1 0 0) [(.long 0)]) (fun t k => XS.lload X292.here hx rfl (hb hby at_253) rfl k) ?_
                      refine GoW.sg (mkF m 257 (Sh13 q1 q2 1 1 b10 b14 b18 b21 0 1 0 0) [(.int 0), (.long 0)]) (fun t k => XS.iload X292.here hx rfl (hb hby at_255) rfl k) ?_
                      refine GoW.sg (mkF m 266 (Sh13 q1 q2 1 1 b10 b14 b18 b21 0 1 0 0) [(.long 0)]) (fun t k => XS.ifYes X292.here hx rfl (pc0 := 257) (pc' := 266) rfl (hb hby at_257) rfl (by decide) (by decide) (by decide) k) ?_
                      refine GoW.sg (mkF m 267 (Sh13 q1 q2 1 1 b10 b14 b18 b21 0 1 0 0) [(.long 0), (.long 0)]) (fun t k => XS.lconst X292.here hx rfl (hb hby at_266) k) ?_
                      refine GoW.sg (mkF m 268 (Sh13 q1 q2 1 1 b10 b14 b18 b21 0 1 0 0) [(.int (lcmpW (0 : Int64) (0 : Int64)))]) (fun t k => XS.lcmp X292.here hx rfl (hb hby at_267) rfl k) ?_
                      refine GoW.sg (mkF m 271 (Sh13 q1 q2 1 1 b10 b14 b18 b21 0 1 0 0) []) (fun t k => XS.ifNo X292.here hx rfl (hb hby at_268) rfl (by decide) k) ?_
                      refine GoW.sg (mkF m 272 (Sh13 q1 q2 1 1 b10 b14 b18 b21 0 1 0 0) [(.int 1)]) (fun t k => XS.iconst X292.here hx rfl (hb hby at_271) k) ?_
                      refine GoW.sg (mkF m 276 (Sh13 q1 q2 1 1 b10 b14 b18 b21 0 1 0 0) [(.int 1)]) (fun t k => XS.goto X292.here hx rfl (pc0 := 272) (pc' := 276) rfl (hb hby at_272) (by decide) (by decide) k) ?_
                      refine GoW.retN X292 hx (t := .boolean) Bd.returns (by simp) (hb hby at_276) Bd.notSynchronized ?_ (by decide) (by decide)
                      exact ⟨rfl, N292⟩
            · refine GoW.sg (mkF m 107 (Sh6 q1 q2 b2 b6 b10 b14 b18 b21) []) (fun t k => XS.ifNo X141.here hx rfl (hb hby at_104) rfl ((if0 _ _).trans (feq c142).1) k) ?_
              refine GoW.sg (mkF m 109 (Sh6 q1 q2 b2 b6 b10 b14 b18 b21) [(.ref b21)]) (fun t k => XS.aload X141.here hx rfl (hb hby at_107) rfl rfl k) ?_
              refine GoW.sg (mkF m 110 (Sh6 q1 q2 b2 b6 b10 b14 b18 b21) [(.int 0), (.ref b21)]) (fun t k => XS.iconst X141.here hx rfl (hb hby at_109) k) ?_
              refine GoW.sg (mkF m 111 (Sh6 q1 q2 b2 b6 b10 b14 b18 b21) [(.int 0), (.int 0), (.ref b21)]) (fun t k => XS.iconst X141.here hx rfl (hb hby at_110) k) ?_
              refine GoW.sg (mkF m 114 (Sh6 q1 q2 b2 b6 b10 b14 b18 b21) [(.long 20000), (.int 0), (.int 0), (.ref b21)]) (fun t k => X141.ldc2Long hx hown (mvT hZ (ww hw 34 rfl)) (g := (mkF m 111 (Sh6 q1 q2 b2 b6 b10 b14 b18 b21) [(.int 0), (.int 0), (.ref b21)])) rfl (hb hby at_111) t k) ?_
              obtain ⟨cq301, kq301, q301a, q301b, q301c⟩ := isOf hZ rfl p141_0
              obtain ⟨_, _, ⟨T301, L301, k301, n301⟩, -, X301, ⟨Lc301, hQ301, l301, y301, z301⟩, st301⟩ := X141.virtualBack hx (y := (⟨"com/example/spindle/spindle/SpinRule", "countWait", "(ZZJ)V"⟩ : MethodName)) (z := (⟨"com/example/spindle/spindle/SpinRule", "countWait", "(ZZJ)V"⟩ : MethodName)) hown (mvT hZ (ww hw 35 rfl)) (mvT hZ (ww hw 36 rfl)) (notFace_of_selects (args := #[]) (mvT hZ (ww hw 38 rfl))) (mvT hZ (ww hw 38 rfl)) (mvT hZ (ww hw 37 rfl)) (by decide) (backOf (W := 0) (rm6_33 l Z a0 hw [] b21  T141.heap n0  p141_0 p141_1 p141_2 p141_3 g_b21   ) hZ (ww hw 39 rfl) (ww hw 4 rfl) (by decide) (by decide)) q301a q301c (g := (mkF m 114 (Sh6 q1 q2 b2 b6 b10 b14 b18 b21) [(.long 20000), (.int 0), (.int 0), (.ref b21)])) rfl (by rw [hml]; rfl) (Steps.refl _) (argsL := [(.int (0 : Int32)), (.int (0 : Int32)), (.long (20000 : Int64))]) (rest := []) (lenOf pd_28ZZJ29V rfl) rfl (by show 2 * 0 + _ ≤ _; exact Nat.le_of_eq rfl) (hb hby at_114) (fun _ _ => ⟨rfl, rfl, (by decide : 1 + 0 ≤ _), (by decide : 3 + 0 ≤ _)⟩)
              dsimp only [Pt.U, Pt.locs, Pt.cells, Pt.slots] at X301 l301 y301 z301 st301 hQ301
              subst l301 y301 z301
              obtain ⟨rfl, N301q, K301, p301_0, p301_1, p301_2, p301_3⟩ := hQ301
              have N301 := Fr.app N141 N301q
              have Zs_301 : n0 ≤ T301.heap.size := Nat.le_trans Zs_141 K301.1
              refine GoW.sg (mkF m 117 (Sh6 q1 q2 b2 b6 b10 b14 b18 b21) []) (fun t k => st301.trans k) ?_
              refine GoW.sg (mkF m 119 (Sh6 q1 q2 b2 b6 b10 b14 b18 b21) [(.int b10)]) (fun t k => XS.iload X301.here hx rfl (hb hby at_117) rfl k) ?_
              by_cases c302 : b10 = (0 : Int32)
              · refine GoW.sg (mkF m 127 (Sh6 q1 q2 b2 b6 b10 b14 b18 b21) []) (fun t k => XS.ifYes X301.here hx rfl (pc0 := 119) (pc' := 127) rfl (hb hby at_119) rfl ((if0 _ _).trans (teq c302).1) (by decide) (by decide) k) ?_
                refine GoW.sg (mkF m 129 (Sh6 q1 q2 b2 b6 b10 b14 b18 b21) [(.ref b21)]) (fun t k => XS.aload X301.here hx rfl (hb hby at_127) rfl rfl k) ?_
                refine GoW.sg (mkF m 132 (Sh6 q1 q2 b2 b6 b10 b14 b18 b21) [(.long 9223372036854775807), (.ref b21)]) (fun t k => X301.ldc2Long hx hown (mvT hZ (ww hw 20 rfl)) (g := (mkF m 129 (Sh6 q1 q2 b2 b6 b10 b14 b18 b21) [(.ref b21)])) rfl (hb hby at_129) t k) ?_
                obtain ⟨cq311, kq311, q311a, q311b, q311c⟩ := isOf hZ rfl p301_0
                obtain ⟨_, _, ⟨T311, L311, k311, n311⟩, -, X311, ⟨Lc311, hQ311, l311, y311, z311⟩, st311⟩ := X301.virtualBack hx (y := (⟨"com/example/spindle/spindle/SpinRule", "spinNanos", "(J)J"⟩ : MethodName)) (z := (⟨"com/example/spindle/spindle/SpinRule", "spinNanos", "(J)J"⟩ : MethodName)) hown (mvT hZ (ww hw 21 rfl)) (mvT hZ (ww hw 22 rfl)) (notFace_of_selects (args := #[]) (mvT hZ (ww hw 24 rfl))) (mvT hZ (ww hw 24 rfl)) (mvT hZ (ww hw 23 rfl)) (by decide) (backOf (W := 0) (rm4_34 l Z a0 hw [] b21  T301.heap n0  p301_0 p301_1 p301_2 p301_3 g_b21   ) hZ (ww hw 25 rfl) (ww hw 4 rfl) (by decide) (by decide)) q311a q311c (g := (mkF m 132 (Sh6 q1 q2 b2 b6 b10 b14 b18 b21) [(.long 9223372036854775807), (.ref b21)])) rfl (by rw [hml]; rfl) (Steps.refl _) (argsL := [(.long (9223372036854775807 : Int64))]) (rest := []) (lenOf pd_28J29J rfl) rfl (by show 2 * 0 + _ ≤ _; exact Nat.le_of_eq rfl) (hb hby at_132) (fun _ _ => ⟨rfl, rfl, (by decide : 1 + 0 ≤ _), (by decide : 3 + 0 ≤ _)⟩)
                dsimp only [Pt.U, Pt.locs, Pt.cells, Pt.slots] at X311 l311 y311 z311 st311 hQ311
                subst l311 y311 z311
                obtain ⟨rfl, N311q, K311, p311_0, p311_1, p311_2, p311_3⟩ := hQ311
                have N311 := Fr.app N301 N311q
                have Zs_311 : n0 ≤ T311.heap.size := Nat.le_trans Zs_301 K311.1
                refine GoW.sg (mkF m 135 (Sh6 q1 q2 b2 b6 b10 b14 b18 b21) [(.long 0)]) (fun t k => st311.trans k) ?_
                refine GoW.sg (mkF m 136 (Sh6 q1 q2 b2 b6 b10 b14 b18 b21) []) (fun t k => own_pop2L X311.here hx rfl (hb hby at_135) rfl k) ?_
                refine GoW.sg (mkF m 138 (Sh6 q1 q2 b2 b6 b10 b14 b18 b21) [(.ref b21)]) (fun t k => XS.aload X311.here hx rfl (hb hby at_136) rfl rfl k) ?_
                refine GoW.sg (mkF m 139 (Sh6 q1 q2 b2 b6 b10 b14 b18 b21) [(.int b2), (.ref b21)]) (fun t k => XS.iloadN X311.here hx rfl (hb hby at_138) rfl k) ?_
                refine GoW.sg (mkF m 141 (Sh6 q1 q2 b2 b6 b10 b14 b18 b21) [(.int b6), (.int b2), (.ref b21)]) (fun t k => XS.iload X311.here hx rfl (hb hby at_139) rfl k) ?_
                refine GoW.sg (mkF m 143 (Sh6 q1 q2 b2 b6 b10 b14 b18 b21) [(.long b18), (.int b6), (.int b2), (.ref b21)]) (fun t k => XS.lload X311.here hx rfl (hb hby at_141) rfl k) ?_
                obtain ⟨cq314, kq314, q314a, q314b, q314c⟩ := isOf hZ rfl p311_0
                obtain ⟨_, _, ⟨T314, L314, k314, n314⟩, -, X314, ⟨Lc314, hQ314, l314, y314, z314⟩, st314⟩ := X311.virtualBack hx (y := (⟨"com/example/spindle/spindle/SpinRule", "countWait", "(ZZJ)V"⟩ : MethodName)) (z := (⟨"com/example/spindle/spindle/SpinRule", "countWait", "(ZZJ)V"⟩ : MethodName)) hown (mvT hZ (ww hw 35 rfl)) (mvT hZ (ww hw 36 rfl)) (notFace_of_selects (args := #[]) (mvT hZ (ww hw 38 rfl))) (mvT hZ (ww hw 38 rfl)) (mvT hZ (ww hw 37 rfl)) (by decide) (backOf (W := 0) (rm6_35 l Z a0 hw [] b21 b2 b6 b18  T311.heap n0  p311_0 p311_1 p311_2 p311_3    ) hZ (ww hw 39 rfl) (ww hw 4 rfl) (by decide) (by decide)) q314a q314c (g := (mkF m 143 (Sh6 q1 q2 b2 b6 b10 b14 b18 b21) [(.long b18), (.int b6), (.int b2), (.ref b21)])) rfl (by rw [hml]; rfl) (Steps.refl _) (argsL := [(.int b2), (.int b6), (.long b18)]) (rest := []) (lenOf pd_28ZZJ29V rfl) rfl (by show 2 * 0 + _ ≤ _; exact Nat.le_of_eq rfl) (hb hby at_143) (fun _ _ => ⟨rfl, rfl, (by decide : 1 + 0 ≤ _), (by decide : 3 + 0 ≤ _)⟩)
                dsimp only [Pt.U, Pt.locs, Pt.cells, Pt.slots] at X314 l314 y314 z314 st314 hQ314
                subst l314 y314 z314
                obtain ⟨rfl, N314q, e314⟩ := hQ314
                have N314 := Fr.app N311 N314q
                refine GoW.sg (mkF m 146 (Sh6 q1 q2 b2 b6 b10 b14 b18 b21) []) (fun t k => st314.trans k) ?_
                refine GoW.sg (mkF m 148 (Sh6 q1 q2 b2 b6 b10 b14 b18 b21) [(.ref b21)]) (fun t k => XS.aload X314.here hx rfl (hb hby at_146) rfl rfl k) ?_
                obtain ⟨cq317, kq317, q317a, q317b, q317c⟩ := isOf hZ e314 p311_0
                obtain ⟨_, _, ⟨T317, L317, k317, n317⟩, -, X317, ⟨Lc317, hQ317, l317, y317, z317⟩, st317⟩ := X314.virtualBack hx (y := (⟨"com/example/spindle/spindle/SpinRule", "handedOn", "()V"⟩ : MethodName)) (z := (⟨"com/example/spindle/spindle/SpinRule", "handedOn", "()V"⟩ : MethodName)) hown (mvT hZ (ww hw 13 rfl)) (mvT hZ (ww hw 14 rfl)) (notFace_of_selects (args := #[]) (mvT hZ (ww hw 16 rfl))) (mvT hZ (ww hw 16 rfl)) (mvT hZ (ww hw 15 rfl)) (by decide) (backOf (W := 0) (rm3_36 l Z a0 hw [] b21  T311.heap n0  p311_0 p311_1 p311_2 p311_3 g_b21   ) hZ (ww hw 17 rfl) (ww hw 4 rfl) (by decide) (by decide)) q317a q317c (g := (mkF m 148 (Sh6 q1 q2 b2 b6 b10 b14 b18 b21) [(.ref b21)])) rfl (by rw [hml]; rfl) (Steps.refl _) (argsL := []) (rest := []) (lenOf pd_2829V rfl) rfl (by show 2 * 0 + _ ≤ _; exact Nat.le_of_eq rfl) (hb hby at_148) (fun _ _ => ⟨rfl, e314, (by decide : 1 + 0 ≤ _), (by decide : 3 + 0 ≤ _)⟩)
                dsimp only [Pt.U, Pt.locs, Pt.cells, Pt.slots] at X317 l317 y317 z317 st317 hQ317
                subst l317 y317 z317
                obtain ⟨rfl, N317q, K317, p317_0, p317_1, p317_2, p317_3⟩ := hQ317
                have N317 := Fr.app N314 N317q
                have Zs_317 : n0 ≤ T317.heap.size := Nat.le_trans Zs_311 K317.1
                refine GoW.sg (mkF m 151 (Sh6 q1 q2 b2 b6 b10 b14 b18 b21) []) (fun t k => st317.trans k) ?_
                refine GoW.sg (mkF m 153 (Sh6 q1 q2 b2 b6 b10 b14 b18 b21) [(.ref b21)]) (fun t k => XS.aload X317.here hx rfl (hb hby at_151) rfl rfl k) ?_
                refine GoW.sg (mkF m 156 (Sh6 q1 q2 b2 b6 b10 b14 b18 b21) [(.long 9223372036854775807), (.ref b21)]) (fun t k => X317.ldc2Long hx hown (mvT hZ (ww hw 20 rfl)) (g := (mkF m 153 (Sh6 q1 q2 b2 b6 b10 b14 b18 b21) [(.ref b21)])) rfl (hb hby at_153) t k) ?_
                obtain ⟨cq328, kq328, q328a, q328b, q328c⟩ := isOf hZ rfl p317_0
                obtain ⟨_, _, ⟨T328, L328, k328, n328⟩, -, X328, ⟨Lc328, hQ328, l328, y328, z328⟩, st328⟩ := X317.virtualBack hx (y := (⟨"com/example/spindle/spindle/SpinRule", "spinNanos", "(J)J"⟩ : MethodName)) (z := (⟨"com/example/spindle/spindle/SpinRule", "spinNanos", "(J)J"⟩ : MethodName)) hown (mvT hZ (ww hw 21 rfl)) (mvT hZ (ww hw 22 rfl)) (notFace_of_selects (args := #[]) (mvT hZ (ww hw 24 rfl))) (mvT hZ (ww hw 24 rfl)) (mvT hZ (ww hw 23 rfl)) (by decide) (backOf (W := 0) (rm4_37 l Z a0 hw [] b21  T317.heap n0  p317_0 p317_1 p317_2 p317_3 g_b21   ) hZ (ww hw 25 rfl) (ww hw 4 rfl) (by decide) (by decide)) q328a q328c (g := (mkF m 156 (Sh6 q1 q2 b2 b6 b10 b14 b18 b21) [(.long 9223372036854775807), (.ref b21)])) rfl (by rw [hml]; rfl) (Steps.refl _) (argsL := [(.long (9223372036854775807 : Int64))]) (rest := []) (lenOf pd_28J29J rfl) rfl (by show 2 * 0 + _ ≤ _; exact Nat.le_of_eq rfl) (hb hby at_156) (fun _ _ => ⟨rfl, rfl, (by decide : 1 + 0 ≤ _), (by decide : 3 + 0 ≤ _)⟩)
                dsimp only [Pt.U, Pt.locs, Pt.cells, Pt.slots] at X328 l328 y328 z328 st328 hQ328
                subst l328 y328 z328
                obtain ⟨rfl, N328q, K328, p328_0, p328_1, p328_2, p328_3⟩ := hQ328
                have N328 := Fr.app N317 N328q
                have Zs_328 : n0 ≤ T328.heap.size := Nat.le_trans Zs_317 K328.1
                refine GoW.sg (mkF m 159 (Sh6 q1 q2 b2 b6 b10 b14 b18 b21) [(.long 0)]) (fun t k => st328.trans k) ?_
                refine GoW.sg (mkF m 161 (Sh10 q1 q2 b2 b6 b10 b14 b18 b21 0) []) (fun t k => XS.lstore X328.here hx rfl (hb hby at_159) rfl (l' := (Sh10 q1 q2 b2 b6 b10 b14 b18 b21 0)) rfl k) ?_
                refine GoW.sg (mkF m 163 (Sh10 q1 q2 b2 b6 b10 b14 b18 b21 0) [(.int b10)]) (fun t k => XS.iload X328.here hx rfl (hb hby at_161) rfl k) ?_
                refine GoW.sg (mkF m 183 (Sh10 q1 q2 b2 b6 b10 b14 b18 b21 0) []) (fun t k => XS.ifYes X328.here hx rfl (pc0 := 163) (pc' := 183) rfl (hb hby at_163) rfl ((if0 _ _).trans (teq c302).1) (by decide) (by decide) k) ?_
                refine GoW.sg (mkF m 184 (Sh10 q1 q2 b2 b6 b10 b14 b18 b21 0) [(.int 0)]) (fun t k => XS.iconst X328.here hx rfl (hb hby at_183) k) ?_
                refine GoW.sg (mkF m 186 (Sh11 q1 q2 b2 b6 b10 b14 b18 b21 0 0) []) (fun t k => XS.istore X328.here hx rfl (hb hby at_184) rfl (l' := (Sh11 q1 q2 b2 b6 b10 b14 b18 b21 0 0)) rfl k) ?_
                refine GoW.sg (mkF m 187 (Sh11 q1 q2 b2 b6 b10 b14 b18 b21 0 0) [(.int b2)]) (fun t k => XS.iloadN X328.here hx rfl (hb hby at_186) rfl k) ?_
                have J209_333 : ∀ b332 : Int32, b332 = (if b2 = (0 : Int32) then (0 : Int32) else (if b6 = (0 : Int32) then (0 : Int32) else (if b18 < (20000 : Int64) then (1 : Int32) else (0 : Int32)))) → GoW p e below s (ValQ (.int (1 : Int32)) n0) room_1.cells room_1.slots (T328.setTop (mkF m 209 (Sh11 q1 q2 b2 b6 b10 b14 b18 b21 0 0) [(.int b332)])) := by
                  intro b332 hb332
                  refine GoW.sg (mkF m 211 (Sh12 q1 q2 b2 b6 b10 b14 b18 b21 0 0 b332) []) (fun t k => XS.istore X328.here hx rfl (hb hby at_209) rfl (l' := (Sh12 q1 q2 b2 b6 b10 b14 b18 b21 0 0 b332)) rfl k) ?_
                  refine GoW.sg (mkF m 213 (Sh12 q1 q2 b2 b6 b10 b14 b18 b21 0 0 b332) [(.int b14)]) (fun t k => XS.iload X328.here hx rfl (hb hby at_211) rfl k) ?_
                  refine GoW.sg (mkF m 216 (Sh12 q1 q2 b2 b6 b10 b14 b18 b21 0 0 b332) []) (fun t k => XS.ifNo X328.here hx rfl (hb hby at_213) rfl ((if0 _ _).trans (feq c142).1) k) ?_
                  refine GoW.sg (mkF m 218 (Sh12 q1 q2 b2 b6 b10 b14 b18 b21 0 0 b332) [(.int 0)]) (fun t k => XS.iload X328.here hx rfl (hb hby at_216) rfl k) ?_
                  refine GoW.sg (mkF m 230 (Sh12 q1 q2 b2 b6 b10 b14 b18 b21 0 0 b332) []) (fun t k => XS.ifYes X328.here hx rfl (pc0 := 218) (pc' := 230) rfl (hb hby at_218) rfl (by decide) (by decide) (by decide) k) ?_
                  refine GoW.sg (mkF m 231 (Sh12 q1 q2 b2 b6 b10 b14 b18 b21 0 0 b332) [(.int 0)]) (fun t k => XS.iconst X328.here hx rfl (hb hby at_230) k) ?_
                  refine GoW.sg (mkF m 233 (Sh13 q1 q2 b2 b6 b10 b14 b18 b21 0 0 b332 0) []) (fun t k => XS.istore X328.here hx rfl (hb hby at_231) rfl (l' := (Sh13 q1 q2 b2 b6 b10 b14 b18 b21 0 0 b332 0)) rfl k) ?_
                  refine GoW.sg (mkF m 253 (Sh13 q1 q2 b2 b6 b10 b14 b18 b21 0 0 b332 0) []) (fun t k => XS.goto X328.here hx rfl (pc0 := 233) (pc' := 253) rfl (hb hby at_233) (by decide) (by decide) k) ?_
                  refine GoW.sg (mkF m 255 (Sh13 q1 q2 b2 b6 b10 b14 b18 b21 0 0 b332 0) [(.long 0)]) (fun t k => XS.lload X328.here hx rfl (hb hby at_253) rfl k) ?_
                  refine GoW.sg (mkF m 257 (Sh13 q1 q2 b2 b6 b10 b14 b18 b21 0 0 b332 0) [(.int 0), (.long 0)]) (fun t k => XS.iload X328.here hx rfl (hb hby at_255) rfl k) ?_
                  refine GoW.sg (mkF m 266 (Sh13 q1 q2 b2 b6 b10 b14 b18 b21 0 0 b332 0) [(.long 0)]) (fun t k => XS.ifYes X328.here hx rfl (pc0 := 257) (pc' := 266) rfl (hb hby at_257) rfl (by decide) (by decide) (by decide) k) ?_
                  refine GoW.sg (mkF m 267 (Sh13 q1 q2 b2 b6 b10 b14 b18 b21 0 0 b332 0) [(.long 0), (.long 0)]) (fun t k => XS.lconst X328.here hx rfl (hb hby at_266) k) ?_
                  refine GoW.sg (mkF m 268 (Sh13 q1 q2 b2 b6 b10 b14 b18 b21 0 0 b332 0) [(.int (lcmpW (0 : Int64) (0 : Int64)))]) (fun t k => XS.lcmp X328.here hx rfl (hb hby at_267) rfl k) ?_
                  refine GoW.sg (mkF m 271 (Sh13 q1 q2 b2 b6 b10 b14 b18 b21 0 0 b332 0) []) (fun t k => XS.ifNo X328.here hx rfl (hb hby at_268) rfl (by decide) k) ?_
                  refine GoW.sg (mkF m 272 (Sh13 q1 q2 b2 b6 b10 b14 b18 b21 0 0 b332 0) [(.int 1)]) (fun t k => XS.iconst X328.here hx rfl (hb hby at_271) k) ?_
                  refine GoW.sg (mkF m 276 (Sh13 q1 q2 b2 b6 b10 b14 b18 b21 0 0 b332 0) [(.int 1)]) (fun t k => XS.goto X328.here hx rfl (pc0 := 272) (pc' := 276) rfl (hb hby at_272) (by decide) (by decide) k) ?_
                  refine GoW.retN X328 hx (t := .boolean) Bd.returns (by simp) (hb hby at_276) Bd.notSynchronized ?_ (by decide) (by decide)
                  exact ⟨rfl, N328⟩
                by_cases c334 : b2 = (0 : Int32)
                · refine GoW.sg (mkF m 208 (Sh11 q1 q2 b2 b6 b10 b14 b18 b21 0 0) []) (fun t k => XS.ifYes X328.here hx rfl (pc0 := 187) (pc' := 208) rfl (hb hby at_187) rfl ((if0 _ _).trans (teq c334).1) (by decide) (by decide) k) ?_
                  refine GoW.sg (mkF m 209 (Sh11 q1 q2 b2 b6 b10 b14 b18 b21 0 0) [(.int 0)]) (fun t k => XS.iconst X328.here hx rfl (hb hby at_208) k) ?_
                  exact J209_333 _ (by rw [if_pos c334])
                · refine GoW.sg (mkF m 190 (Sh11 q1 q2 b2 b6 b10 b14 b18 b21 0 0) []) (fun t k => XS.ifNo X328.here hx rfl (hb hby at_187) rfl ((if0 _ _).trans (feq c334).1) k) ?_
                  refine GoW.sg (mkF m 192 (Sh11 q1 q2 b2 b6 b10 b14 b18 b21 0 0) [(.int b6)]) (fun t k => XS.iload X328.here hx rfl (hb hby at_190) rfl k) ?_
                  by_cases c335 : b6 = (0 : Int32)
                  · refine GoW.sg (mkF m 208 (Sh11 q1 q2 b2 b6 b10 b14 b18 b21 0 0) []) (fun t k => XS.ifYes X328.here hx rfl (pc0 := 192) (pc' := 208) rfl (hb hby at_192) rfl ((if0 _ _).trans (teq c335).1) (by decide) (by decide) k) ?_
                    refine GoW.sg (mkF m 209 (Sh11 q1 q2 b2 b6 b10 b14 b18 b21 0 0) [(.int 0)]) (fun t k => XS.iconst X328.here hx rfl (hb hby at_208) k) ?_
                    exact J209_333 _ (by rw [if_neg c334, if_pos c335])
                  · refine GoW.sg (mkF m 195 (Sh11 q1 q2 b2 b6 b10 b14 b18 b21 0 0) []) (fun t k => XS.ifNo X328.here hx rfl (hb hby at_192) rfl ((if0 _ _).trans (feq c335).1) k) ?_
                    refine GoW.sg (mkF m 197 (Sh11 q1 q2 b2 b6 b10 b14 b18 b21 0 0) [(.long b18)]) (fun t k => XS.lload X328.here hx rfl (hb hby at_195) rfl k) ?_
                    refine GoW.sg (mkF m 200 (Sh11 q1 q2 b2 b6 b10 b14 b18 b21 0 0) [(.long 20000), (.long b18)]) (fun t k => X328.ldc2Long hx hown (mvT hZ (ww hw 34 rfl)) (g := (mkF m 197 (Sh11 q1 q2 b2 b6 b10 b14 b18 b21 0 0) [(.long b18)])) rfl (hb hby at_197) t k) ?_
                    refine GoW.sg (mkF m 201 (Sh11 q1 q2 b2 b6 b10 b14 b18 b21 0 0) [(.int (lcmpW b18 (20000 : Int64)))]) (fun t k => XS.lcmp X328.here hx rfl (hb hby at_200) rfl k) ?_
                    by_cases c336 : b18 < (20000 : Int64)
                    · refine GoW.sg (mkF m 204 (Sh11 q1 q2 b2 b6 b10 b14 b18 b21 0 0) []) (fun t k => XS.ifNo X328.here hx rfl (hb hby at_201) rfl ((if0 _ _).trans (tlt ((lw_lt _ _).mpr c336)).2.1) k) ?_
                      refine GoW.sg (mkF m 205 (Sh11 q1 q2 b2 b6 b10 b14 b18 b21 0 0) [(.int 1)]) (fun t k => XS.iconst X328.here hx rfl (hb hby at_204) k) ?_
                      refine GoW.sg (mkF m 209 (Sh11 q1 q2 b2 b6 b10 b14 b18 b21 0 0) [(.int 1)]) (fun t k => XS.goto X328.here hx rfl (pc0 := 205) (pc' := 209) rfl (hb hby at_205) (by decide) (by decide) k) ?_
                      exact J209_333 _ (by rw [if_neg c334, if_neg c335, if_pos c336])
                    · refine GoW.sg (mkF m 208 (Sh11 q1 q2 b2 b6 b10 b14 b18 b21 0 0) []) (fun t k => XS.ifYes X328.here hx rfl (pc0 := 201) (pc' := 208) rfl (hb hby at_201) rfl ((if0 _ _).trans (flt (mt (lw_lt _ _).mp c336)).2.1) (by decide) (by decide) k) ?_
                      refine GoW.sg (mkF m 209 (Sh11 q1 q2 b2 b6 b10 b14 b18 b21 0 0) [(.int 0)]) (fun t k => XS.iconst X328.here hx rfl (hb hby at_208) k) ?_
                      exact J209_333 _ (by rw [if_neg c334, if_neg c335, if_neg c336])
              · refine GoW.sg (mkF m 122 (Sh6 q1 q2 b2 b6 b10 b14 b18 b21) []) (fun t k => XS.ifNo X301.here hx rfl (hb hby at_119) rfl ((if0 _ _).trans (feq c302).1) k) ?_
                refine GoW.sg (mkF m 124 (Sh6 q1 q2 b2 b6 b10 b14 b18 b21) [(.ref b21)]) (fun t k => XS.aload X301.here hx rfl (hb hby at_122) rfl rfl k) ?_
                obtain ⟨cq337, kq337, q337a, q337b, q337c⟩ := isOf hZ rfl p301_0
                obtain ⟨_, _, ⟨T337, L337, k337, n337⟩, -, X337, ⟨Lc337, hQ337, l337, y337, z337⟩, st337⟩ := X301.virtualBack hx (y := (⟨"com/example/spindle/spindle/SpinRule", "handedOn", "()V"⟩ : MethodName)) (z := (⟨"com/example/spindle/spindle/SpinRule", "handedOn", "()V"⟩ : MethodName)) hown (mvT hZ (ww hw 13 rfl)) (mvT hZ (ww hw 14 rfl)) (notFace_of_selects (args := #[]) (mvT hZ (ww hw 16 rfl))) (mvT hZ (ww hw 16 rfl)) (mvT hZ (ww hw 15 rfl)) (by decide) (backOf (W := 0) (rm3_24 l Z a0 hw [] b21  T301.heap n0  p301_0 p301_1 p301_2 p301_3 g_b21   ) hZ (ww hw 17 rfl) (ww hw 4 rfl) (by decide) (by decide)) q337a q337c (g := (mkF m 124 (Sh6 q1 q2 b2 b6 b10 b14 b18 b21) [(.ref b21)])) rfl (by rw [hml]; rfl) (Steps.refl _) (argsL := []) (rest := []) (lenOf pd_2829V rfl) rfl (by show 2 * 0 + _ ≤ _; exact Nat.le_of_eq rfl) (hb hby at_124) (fun _ _ => ⟨rfl, rfl, (by decide : 1 + 0 ≤ _), (by decide : 3 + 0 ≤ _)⟩)
                dsimp only [Pt.U, Pt.locs, Pt.cells, Pt.slots] at X337 l337 y337 z337 st337 hQ337
                subst l337 y337 z337
                obtain ⟨rfl, N337q, K337, p337_0, p337_1, p337_2, p337_3⟩ := hQ337
                have N337 := Fr.app N301 N337q
                have Zs_337 : n0 ≤ T337.heap.size := Nat.le_trans Zs_301 K337.1
                refine GoW.sg (mkF m 127 (Sh6 q1 q2 b2 b6 b10 b14 b18 b21) []) (fun t k => st337.trans k) ?_
                refine GoW.sg (mkF m 129 (Sh6 q1 q2 b2 b6 b10 b14 b18 b21) [(.ref b21)]) (fun t k => XS.aload X337.here hx rfl (hb hby at_127) rfl rfl k) ?_
                refine GoW.sg (mkF m 132 (Sh6 q1 q2 b2 b6 b10 b14 b18 b21) [(.long 9223372036854775807), (.ref b21)]) (fun t k => X337.ldc2Long hx hown (mvT hZ (ww hw 20 rfl)) (g := (mkF m 129 (Sh6 q1 q2 b2 b6 b10 b14 b18 b21) [(.ref b21)])) rfl (hb hby at_129) t k) ?_
                obtain ⟨cq338, kq338, q338a, q338b, q338c⟩ := isOf hZ rfl p337_0
                obtain ⟨_, _, ⟨T338, L338, k338, n338⟩, -, X338, ⟨Lc338, hQ338, l338, y338, z338⟩, st338⟩ := X337.virtualBack hx (y := (⟨"com/example/spindle/spindle/SpinRule", "spinNanos", "(J)J"⟩ : MethodName)) (z := (⟨"com/example/spindle/spindle/SpinRule", "spinNanos", "(J)J"⟩ : MethodName)) hown (mvT hZ (ww hw 21 rfl)) (mvT hZ (ww hw 22 rfl)) (notFace_of_selects (args := #[]) (mvT hZ (ww hw 24 rfl))) (mvT hZ (ww hw 24 rfl)) (mvT hZ (ww hw 23 rfl)) (by decide) (backOf (W := 0) (rm4_25 l Z a0 hw [] b21  T337.heap n0  p337_0 p337_1 p337_2 p337_3 g_b21   ) hZ (ww hw 25 rfl) (ww hw 4 rfl) (by decide) (by decide)) q338a q338c (g := (mkF m 132 (Sh6 q1 q2 b2 b6 b10 b14 b18 b21) [(.long 9223372036854775807), (.ref b21)])) rfl (by rw [hml]; rfl) (Steps.refl _) (argsL := [(.long (9223372036854775807 : Int64))]) (rest := []) (lenOf pd_28J29J rfl) rfl (by show 2 * 0 + _ ≤ _; exact Nat.le_of_eq rfl) (hb hby at_132) (fun _ _ => ⟨rfl, rfl, (by decide : 1 + 0 ≤ _), (by decide : 3 + 0 ≤ _)⟩)
                dsimp only [Pt.U, Pt.locs, Pt.cells, Pt.slots] at X338 l338 y338 z338 st338 hQ338
                subst l338 y338 z338
                obtain ⟨rfl, N338q, K338, p338_0, p338_1, p338_2, p338_3⟩ := hQ338
                have N338 := Fr.app N337 N338q
                have Zs_338 : n0 ≤ T338.heap.size := Nat.le_trans Zs_337 K338.1
                refine GoW.sg (mkF m 135 (Sh6 q1 q2 b2 b6 b10 b14 b18 b21) [(.long 0)]) (fun t k => st338.trans k) ?_
                refine GoW.sg (mkF m 136 (Sh6 q1 q2 b2 b6 b10 b14 b18 b21) []) (fun t k => own_pop2L X338.here hx rfl (hb hby at_135) rfl k) ?_
                by_cases c339 : b18 < (20000 : Int64)
                · show GoW p e below s (ValQ (.int (1 : Int32)) n0) room_1.cells room_1.slots (T338.setTop (mkF m 136 (Sh6 q1 q2 b2 b6 b10 b14 b18 b21) []))
                  rcases own_01 hb2 with cc | cc
                  · subst cc
                    show GoW p e below s (ValQ (.int (1 : Int32)) n0) room_1.cells room_1.slots (T338.setTop (mkF m 136 (Sh6 q1 q2 0 b6 b10 b14 b18 b21) []))
                    rcases own_01 hb6 with cc | cc
                    · subst cc
                      show GoW p e below s (ValQ (.int (1 : Int32)) n0) room_1.cells room_1.slots (T338.setTop (mkF m 136 (Sh6 q1 q2 0 0 b10 b14 b18 b21) []))
                      refine GoW.sg (mkF m 138 (Sh6 q1 q2 0 0 b10 b14 b18 b21) [(.ref b21)]) (fun t k => XS.aload X338.here hx rfl (hb hby at_136) rfl rfl k) ?_
                      refine GoW.sg (mkF m 139 (Sh6 q1 q2 0 0 b10 b14 b18 b21) [(.int 0), (.ref b21)]) (fun t k => XS.iloadN X338.here hx rfl (hb hby at_138) rfl k) ?_
                      refine GoW.sg (mkF m 141 (Sh6 q1 q2 0 0 b10 b14 b18 b21) [(.int 0), (.int 0), (.ref b21)]) (fun t k => XS.iload X338.here hx rfl (hb hby at_139) rfl k) ?_
                      refine GoW.sg (mkF m 143 (Sh6 q1 q2 0 0 b10 b14 b18 b21) [(.long b18), (.int 0), (.int 0), (.ref b21)]) (fun t k => XS.lload X338.here hx rfl (hb hby at_141) rfl k) ?_
                      obtain ⟨cq342, kq342, q342a, q342b, q342c⟩ := isOf hZ rfl p338_0
                      obtain ⟨_, _, ⟨T342, L342, k342, n342⟩, -, X342, ⟨Lc342, hQ342, l342, y342, z342⟩, st342⟩ := X338.virtualBack hx (y := (⟨"com/example/spindle/spindle/SpinRule", "countWait", "(ZZJ)V"⟩ : MethodName)) (z := (⟨"com/example/spindle/spindle/SpinRule", "countWait", "(ZZJ)V"⟩ : MethodName)) hown (mvT hZ (ww hw 35 rfl)) (mvT hZ (ww hw 36 rfl)) (notFace_of_selects (args := #[]) (mvT hZ (ww hw 38 rfl))) (mvT hZ (ww hw 38 rfl)) (mvT hZ (ww hw 37 rfl)) (by decide) (backOf (W := 0) (rm6_38 l Z a0 hw [] b21 b18  T338.heap n0  p338_0 p338_1 p338_2 p338_3   c339 ) hZ (ww hw 39 rfl) (ww hw 4 rfl) (by decide) (by decide)) q342a q342c (g := (mkF m 143 (Sh6 q1 q2 0 0 b10 b14 b18 b21) [(.long b18), (.int 0), (.int 0), (.ref b21)])) rfl (by rw [hml]; rfl) (Steps.refl _) (argsL := [(.int (0 : Int32)), (.int (0 : Int32)), (.long b18)]) (rest := []) (lenOf pd_28ZZJ29V rfl) rfl (by show 2 * 0 + _ ≤ _; exact Nat.le_of_eq rfl) (hb hby at_143) (fun _ _ => ⟨rfl, rfl, (by decide : 1 + 0 ≤ _), (by decide : 3 + 0 ≤ _)⟩)
                      dsimp only [Pt.U, Pt.locs, Pt.cells, Pt.slots] at X342 l342 y342 z342 st342 hQ342
                      subst l342 y342 z342
                      obtain ⟨rfl, N342q, e342⟩ := hQ342
                      have N342 := Fr.app N338 N342q
                      refine GoW.sg (mkF m 146 (Sh6 q1 q2 0 0 b10 b14 b18 b21) []) (fun t k => st342.trans k) ?_
                      refine GoW.sg (mkF m 148 (Sh6 q1 q2 0 0 b10 b14 b18 b21) [(.ref b21)]) (fun t k => XS.aload X342.here hx rfl (hb hby at_146) rfl rfl k) ?_
                      obtain ⟨cq343, kq343, q343a, q343b, q343c⟩ := isOf hZ e342 p338_0
                      obtain ⟨_, _, ⟨T343, L343, k343, n343⟩, -, X343, ⟨Lc343, hQ343, l343, y343, z343⟩, st343⟩ := X342.virtualBack hx (y := (⟨"com/example/spindle/spindle/SpinRule", "handedOn", "()V"⟩ : MethodName)) (z := (⟨"com/example/spindle/spindle/SpinRule", "handedOn", "()V"⟩ : MethodName)) hown (mvT hZ (ww hw 13 rfl)) (mvT hZ (ww hw 14 rfl)) (notFace_of_selects (args := #[]) (mvT hZ (ww hw 16 rfl))) (mvT hZ (ww hw 16 rfl)) (mvT hZ (ww hw 15 rfl)) (by decide) (backOf (W := 0) (rm3_24 l Z a0 hw [] b21  T338.heap n0  p338_0 p338_1 p338_2 p338_3 g_b21   ) hZ (ww hw 17 rfl) (ww hw 4 rfl) (by decide) (by decide)) q343a q343c (g := (mkF m 148 (Sh6 q1 q2 0 0 b10 b14 b18 b21) [(.ref b21)])) rfl (by rw [hml]; rfl) (Steps.refl _) (argsL := []) (rest := []) (lenOf pd_2829V rfl) rfl (by show 2 * 0 + _ ≤ _; exact Nat.le_of_eq rfl) (hb hby at_148) (fun _ _ => ⟨rfl, e342, (by decide : 1 + 0 ≤ _), (by decide : 3 + 0 ≤ _)⟩)
                      dsimp only [Pt.U, Pt.locs, Pt.cells, Pt.slots] at X343 l343 y343 z343 st343 hQ343
                      subst l343 y343 z343
                      obtain ⟨rfl, N343q, K343, p343_0, p343_1, p343_2, p343_3⟩ := hQ343
                      have N343 := Fr.app N342 N343q
                      have Zs_343 : n0 ≤ T343.heap.size := Nat.le_trans Zs_338 K343.1
                      refine GoW.sg (mkF m 151 (Sh6 q1 q2 0 0 b10 b14 b18 b21) []) (fun t k => st343.trans k) ?_
                      refine GoW.sg (mkF m 153 (Sh6 q1 q2 0 0 b10 b14 b18 b21) [(.ref b21)]) (fun t k => XS.aload X343.here hx rfl (hb hby at_151) rfl rfl k) ?_
                      refine GoW.sg (mkF m 156 (Sh6 q1 q2 0 0 b10 b14 b18 b21) [(.long 9223372036854775807), (.ref b21)]) (fun t k => X343.ldc2Long hx hown (mvT hZ (ww hw 20 rfl)) (g := (mkF m 153 (Sh6 q1 q2 0 0 b10 b14 b18 b21) [(.ref b21)])) rfl (hb hby at_153) t k) ?_
                      obtain ⟨cq344, kq344, q344a, q344b, q344c⟩ := isOf hZ rfl p343_0
                      obtain ⟨_, _, ⟨T344, L344, k344, n344⟩, -, X344, ⟨Lc344, hQ344, l344, y344, z344⟩, st344⟩ := X343.virtualBack hx (y := (⟨"com/example/spindle/spindle/SpinRule", "spinNanos", "(J)J"⟩ : MethodName)) (z := (⟨"com/example/spindle/spindle/SpinRule", "spinNanos", "(J)J"⟩ : MethodName)) hown (mvT hZ (ww hw 21 rfl)) (mvT hZ (ww hw 22 rfl)) (notFace_of_selects (args := #[]) (mvT hZ (ww hw 24 rfl))) (mvT hZ (ww hw 24 rfl)) (mvT hZ (ww hw 23 rfl)) (by decide) (backOf (W := 0) (rm4_25 l Z a0 hw [] b21  T343.heap n0  p343_0 p343_1 p343_2 p343_3 g_b21   ) hZ (ww hw 25 rfl) (ww hw 4 rfl) (by decide) (by decide)) q344a q344c (g := (mkF m 156 (Sh6 q1 q2 0 0 b10 b14 b18 b21) [(.long 9223372036854775807), (.ref b21)])) rfl (by rw [hml]; rfl) (Steps.refl _) (argsL := [(.long (9223372036854775807 : Int64))]) (rest := []) (lenOf pd_28J29J rfl) rfl (by show 2 * 0 + _ ≤ _; exact Nat.le_of_eq rfl) (hb hby at_156) (fun _ _ => ⟨rfl, rfl, (by decide : 1 + 0 ≤ _), (by decide : 3 + 0 ≤ _)⟩)
                      dsimp only [Pt.U, Pt.locs, Pt.cells, Pt.slots] at X344 l344 y344 z344 st344 hQ344
                      subst l344 y344 z344
                      obtain ⟨rfl, N344q, K344, p344_0, p344_1, p344_2, p344_3⟩ := hQ344
                      have N344 := Fr.app N343 N344q
                      have Zs_344 : n0 ≤ T344.heap.size := Nat.le_trans Zs_343 K344.1
                      refine GoW.sg (mkF m 159 (Sh6 q1 q2 0 0 b10 b14 b18 b21) [(.long 0)]) (fun t k => st344.trans k) ?_
                      refine GoW.sg (mkF m 161 (Sh10 q1 q2 0 0 b10 b14 b18 b21 0) []) (fun t k => XS.lstore X344.here hx rfl (hb hby at_159) rfl (l' := (Sh10 q1 q2 0 0 b10 b14 b18 b21 0)) rfl k) ?_
                      refine GoW.sg (mkF m 163 (Sh10 q1 q2 0 0 b10 b14 b18 b21 0) [(.int b10)]) (fun t k => XS.iload X344.here hx rfl (hb hby at_161) rfl k) ?_
                      refine GoW.sg (mkF m 166 (Sh10 q1 q2 0 0 b10 b14 b18 b21 0) []) (fun t k => XS.ifNo X344.here hx rfl (hb hby at_163) rfl ((if0 _ _).trans (feq c302).1) k) ?_
                      refine GoW.sg (mkF m 167 (Sh10 q1 q2 0 0 b10 b14 b18 b21 0) [(.int 0)]) (fun t k => XS.iloadN X344.here hx rfl (hb hby at_166) rfl k) ?_
                      refine GoW.sg (mkF m 170 (Sh10 q1 q2 0 0 b10 b14 b18 b21 0) []) (fun t k => XS.ifNo X344.here hx rfl (hb hby at_167) rfl (by decide) k) ?_
                      refine GoW.sg (mkF m 172 (Sh10 q1 q2 0 0 b10 b14 b18 b21 0) [(.long b18)]) (fun t k => XS.lload X344.here hx rfl (hb hby at_170) rfl k) ?_
                      refine GoW.sg (mkF m 175 (Sh10 q1 q2 0 0 b10 b14 b18 b21 0) [(.long 20000), (.long b18)]) (fun t k => X344.ldc2Long hx hown (mvT hZ (ww hw 34 rfl)) (g := (mkF m 172 (Sh10 q1 q2 0 0 b10 b14 b18 b21 0) [(.long b18)])) rfl (hb hby at_172) t k) ?_
                      refine GoW.sg (mkF m 176 (Sh10 q1 q2 0 0 b10 b14 b18 b21 0) [(.int (lcmpW b18 (20000 : Int64)))]) (fun t k => XS.lcmp X344.here hx rfl (hb hby at_175) rfl k) ?_
                      refine GoW.sg (mkF m 183 (Sh10 q1 q2 0 0 b10 b14 b18 b21 0) []) (fun t k => XS.ifYes X344.here hx rfl (pc0 := 176) (pc' := 183) rfl (hb hby at_176) rfl ((if0 _ _).trans (tlt ((lw_lt _ _).mpr c339)).1) (by decide) (by decide) k) ?_
                      refine GoW.sg (mkF m 184 (Sh10 q1 q2 0 0 b10 b14 b18 b21 0) [(.int 0)]) (fun t k => XS.iconst X344.here hx rfl (hb hby at_183) k) ?_
                      refine GoW.sg (mkF m 186 (Sh11 q1 q2 0 0 b10 b14 b18 b21 0 0) []) (fun t k => XS.istore X344.here hx rfl (hb hby at_184) rfl (l' := (Sh11 q1 q2 0 0 b10 b14 b18 b21 0 0)) rfl k) ?_
                      refine GoW.sg (mkF m 187 (Sh11 q1 q2 0 0 b10 b14 b18 b21 0 0) [(.int 0)]) (fun t k => XS.iloadN X344.here hx rfl (hb hby at_186) rfl k) ?_
                      refine GoW.sg (mkF m 208 (Sh11 q1 q2 0 0 b10 b14 b18 b21 0 0) []) (fun t k => XS.ifYes X344.here hx rfl (pc0 := 187) (pc' := 208) rfl (hb hby at_187) rfl (by decide) (by decide) (by decide) k) ?_
                      refine GoW.sg (mkF m 209 (Sh11 q1 q2 0 0 b10 b14 b18 b21 0 0) [(.int 0)]) (fun t k => XS.iconst X344.here hx rfl (hb hby at_208) k) ?_
                      refine GoW.sg (mkF m 211 (Sh12 q1 q2 0 0 b10 b14 b18 b21 0 0 0) []) (fun t k => XS.istore X344.here hx rfl (hb hby at_209) rfl (l' := (Sh12 q1 q2 0 0 b10 b14 b18 b21 0 0 0)) rfl k) ?_
                      refine GoW.sg (mkF m 213 (Sh12 q1 q2 0 0 b10 b14 b18 b21 0 0 0) [(.int b14)]) (fun t k => XS.iload X344.here hx rfl (hb hby at_211) rfl k) ?_
                      refine GoW.sg (mkF m 216 (Sh12 q1 q2 0 0 b10 b14 b18 b21 0 0 0) []) (fun t k => XS.ifNo X344.here hx rfl (hb hby at_213) rfl ((if0 _ _).trans (feq c142).1) k) ?_
                      refine GoW.sg (mkF m 218 (Sh12 q1 q2 0 0 b10 b14 b18 b21 0 0 0) [(.int 0)]) (fun t k => XS.iload X344.here hx rfl (hb hby at_216) rfl k) ?_
                      refine GoW.sg (mkF m 230 (Sh12 q1 q2 0 0 b10 b14 b18 b21 0 0 0) []) (fun t k => XS.ifYes X344.here hx rfl (pc0 := 218) (pc' := 230) rfl (hb hby at_218) rfl (by decide) (by decide) (by decide) k) ?_
                      refine GoW.sg (mkF m 231 (Sh12 q1 q2 0 0 b10 b14 b18 b21 0 0 0) [(.int 0)]) (fun t k => XS.iconst X344.here hx rfl (hb hby at_230) k) ?_
                      refine GoW.sg (mkF m 233 (Sh13 q1 q2 0 0 b10 b14 b18 b21 0 0 0 0) []) (fun t k => XS.istore X344.here hx rfl (hb hby at_231) rfl (l' := (Sh13 q1 q2 0 0 b10 b14 b18 b21 0 0 0 0)) rfl k) ?_
                      refine GoW.sg (mkF m 253 (Sh13 q1 q2 0 0 b10 b14 b18 b21 0 0 0 0) []) (fun t k => XS.goto X344.here hx rfl (pc0 := 233) (pc' := 253) rfl (hb hby at_233) (by decide) (by decide) k) ?_
                      refine GoW.sg (mkF m 255 (Sh13 q1 q2 0 0 b10 b14 b18 b21 0 0 0 0) [(.long 0)]) (fun t k => XS.lload X344.here hx rfl (hb hby at_253) rfl k) ?_
                      refine GoW.sg (mkF m 257 (Sh13 q1 q2 0 0 b10 b14 b18 b21 0 0 0 0) [(.int 0), (.long 0)]) (fun t k => XS.iload X344.here hx rfl (hb hby at_255) rfl k) ?_
                      refine GoW.sg (mkF m 266 (Sh13 q1 q2 0 0 b10 b14 b18 b21 0 0 0 0) [(.long 0)]) (fun t k => XS.ifYes X344.here hx rfl (pc0 := 257) (pc' := 266) rfl (hb hby at_257) rfl (by decide) (by decide) (by decide) k) ?_
                      refine GoW.sg (mkF m 267 (Sh13 q1 q2 0 0 b10 b14 b18 b21 0 0 0 0) [(.long 0), (.long 0)]) (fun t k => XS.lconst X344.here hx rfl (hb hby at_266) k) ?_
                      refine GoW.sg (mkF m 268 (Sh13 q1 q2 0 0 b10 b14 b18 b21 0 0 0 0) [(.int (lcmpW (0 : Int64) (0 : Int64)))]) (fun t k => XS.lcmp X344.here hx rfl (hb hby at_267) rfl k) ?_
                      refine GoW.sg (mkF m 271 (Sh13 q1 q2 0 0 b10 b14 b18 b21 0 0 0 0) []) (fun t k => XS.ifNo X344.here hx rfl (hb hby at_268) rfl (by decide) k) ?_
                      refine GoW.sg (mkF m 272 (Sh13 q1 q2 0 0 b10 b14 b18 b21 0 0 0 0) [(.int 1)]) (fun t k => XS.iconst X344.here hx rfl (hb hby at_271) k) ?_
                      refine GoW.sg (mkF m 276 (Sh13 q1 q2 0 0 b10 b14 b18 b21 0 0 0 0) [(.int 1)]) (fun t k => XS.goto X344.here hx rfl (pc0 := 272) (pc' := 276) rfl (hb hby at_272) (by decide) (by decide) k) ?_
                      refine GoW.retN X344 hx (t := .boolean) Bd.returns (by simp) (hb hby at_276) Bd.notSynchronized ?_ (by decide) (by decide)
                      exact ⟨rfl, N344⟩
                    · subst cc
                      show GoW p e below s (ValQ (.int (1 : Int32)) n0) room_1.cells room_1.slots (T338.setTop (mkF m 136 (Sh6 q1 q2 0 1 b10 b14 b18 b21) []))
                      refine GoW.sg (mkF m 138 (Sh6 q1 q2 0 1 b10 b14 b18 b21) [(.ref b21)]) (fun t k => XS.aload X338.here hx rfl (hb hby at_136) rfl rfl k) ?_
                      refine GoW.sg (mkF m 139 (Sh6 q1 q2 0 1 b10 b14 b18 b21) [(.int 0), (.ref b21)]) (fun t k => XS.iloadN X338.here hx rfl (hb hby at_138) rfl k) ?_
                      refine GoW.sg (mkF m 141 (Sh6 q1 q2 0 1 b10 b14 b18 b21) [(.int 1), (.int 0), (.ref b21)]) (fun t k => XS.iload X338.here hx rfl (hb hby at_139) rfl k) ?_
                      refine GoW.sg (mkF m 143 (Sh6 q1 q2 0 1 b10 b14 b18 b21) [(.long b18), (.int 1), (.int 0), (.ref b21)]) (fun t k => XS.lload X338.here hx rfl (hb hby at_141) rfl k) ?_
                      obtain ⟨cq347, kq347, q347a, q347b, q347c⟩ := isOf hZ rfl p338_0
                      obtain ⟨_, _, ⟨T347, L347, k347, n347⟩, -, X347, ⟨Lc347, hQ347, l347, y347, z347⟩, st347⟩ := X338.virtualBack hx (y := (⟨"com/example/spindle/spindle/SpinRule", "countWait", "(ZZJ)V"⟩ : MethodName)) (z := (⟨"com/example/spindle/spindle/SpinRule", "countWait", "(ZZJ)V"⟩ : MethodName)) hown (mvT hZ (ww hw 35 rfl)) (mvT hZ (ww hw 36 rfl)) (notFace_of_selects (args := #[]) (mvT hZ (ww hw 38 rfl))) (mvT hZ (ww hw 38 rfl)) (mvT hZ (ww hw 37 rfl)) (by decide) (backOf (W := 0) (rm6_39 l Z a0 hw [] b21 b18  T338.heap n0  p338_0 p338_1 p338_2 p338_3   c339 ) hZ (ww hw 39 rfl) (ww hw 4 rfl) (by decide) (by decide)) q347a q347c (g := (mkF m 143 (Sh6 q1 q2 0 1 b10 b14 b18 b21) [(.long b18), (.int 1), (.int 0), (.ref b21)])) rfl (by rw [hml]; rfl) (Steps.refl _) (argsL := [(.int (0 : Int32)), (.int (1 : Int32)), (.long b18)]) (rest := []) (lenOf pd_28ZZJ29V rfl) rfl (by show 2 * 0 + _ ≤ _; exact Nat.le_of_eq rfl) (hb hby at_143) (fun _ _ => ⟨rfl, rfl, (by decide : 1 + 0 ≤ _), (by decide : 3 + 0 ≤ _)⟩)
                      dsimp only [Pt.U, Pt.locs, Pt.cells, Pt.slots] at X347 l347 y347 z347 st347 hQ347
                      subst l347 y347 z347
                      obtain ⟨rfl, N347q, e347⟩ := hQ347
                      have N347 := Fr.app N338 N347q
                      refine GoW.sg (mkF m 146 (Sh6 q1 q2 0 1 b10 b14 b18 b21) []) (fun t k => st347.trans k) ?_
                      refine GoW.sg (mkF m 148 (Sh6 q1 q2 0 1 b10 b14 b18 b21) [(.ref b21)]) (fun t k => XS.aload X347.here hx rfl (hb hby at_146) rfl rfl k) ?_
                      obtain ⟨cq348, kq348, q348a, q348b, q348c⟩ := isOf hZ e347 p338_0
                      obtain ⟨_, _, ⟨T348, L348, k348, n348⟩, -, X348, ⟨Lc348, hQ348, l348, y348, z348⟩, st348⟩ := X347.virtualBack hx (y := (⟨"com/example/spindle/spindle/SpinRule", "handedOn", "()V"⟩ : MethodName)) (z := (⟨"com/example/spindle/spindle/SpinRule", "handedOn", "()V"⟩ : MethodName)) hown (mvT hZ (ww hw 13 rfl)) (mvT hZ (ww hw 14 rfl)) (notFace_of_selects (args := #[]) (mvT hZ (ww hw 16 rfl))) (mvT hZ (ww hw 16 rfl)) (mvT hZ (ww hw 15 rfl)) (by decide) (backOf (W := 0) (rm3_24 l Z a0 hw [] b21  T338.heap n0  p338_0 p338_1 p338_2 p338_3 g_b21   ) hZ (ww hw 17 rfl) (ww hw 4 rfl) (by decide) (by decide)) q348a q348c (g := (mkF m 148 (Sh6 q1 q2 0 1 b10 b14 b18 b21) [(.ref b21)])) rfl (by rw [hml]; rfl) (Steps.refl _) (argsL := []) (rest := []) (lenOf pd_2829V rfl) rfl (by show 2 * 0 + _ ≤ _; exact Nat.le_of_eq rfl) (hb hby at_148) (fun _ _ => ⟨rfl, e347, (by decide : 1 + 0 ≤ _), (by decide : 3 + 0 ≤ _)⟩)
                      dsimp only [Pt.U, Pt.locs, Pt.cells, Pt.slots] at X348 l348 y348 z348 st348 hQ348
                      subst l348 y348 z348
                      obtain ⟨rfl, N348q, K348, p348_0, p348_1, p348_2, p348_3⟩ := hQ348
                      have N348 := Fr.app N347 N348q
                      have Zs_348 : n0 ≤ T348.heap.size := Nat.le_trans Zs_338 K348.1
                      refine GoW.sg (mkF m 151 (Sh6 q1 q2 0 1 b10 b14 b18 b21) []) (fun t k => st348.trans k) ?_
                      refine GoW.sg (mkF m 153 (Sh6 q1 q2 0 1 b10 b14 b18 b21) [(.ref b21)]) (fun t k => XS.aload X348.here hx rfl (hb hby at_151) rfl rfl k) ?_
                      refine GoW.sg (mkF m 156 (Sh6 q1 q2 0 1 b10 b14 b18 b21) [(.long 9223372036854775807), (.ref b21)]) (fun t k => X348.ldc2Long hx hown (mvT hZ (ww hw 20 rfl)) (g := (mkF m 153 (Sh6 q1 q2 0 1 b10 b14 b18 b21) [(.ref b21)])) rfl (hb hby at_153) t k) ?_
                      obtain ⟨cq349, kq349, q349a, q349b, q349c⟩ := isOf hZ rfl p348_0
                      obtain ⟨_, _, ⟨T349, L349, k349, n349⟩, -, X349, ⟨Lc349, hQ349, l349, y349, z349⟩, st349⟩ := X348.virtualBack hx (y := (⟨"com/example/spindle/spindle/SpinRule", "spinNanos", "(J)J"⟩ : MethodName)) (z := (⟨"com/example/spindle/spindle/SpinRule", "spinNanos", "(J)J"⟩ : MethodName)) hown (mvT hZ (ww hw 21 rfl)) (mvT hZ (ww hw 22 rfl)) (notFace_of_selects (args := #[]) (mvT hZ (ww hw 24 rfl))) (mvT hZ (ww hw 24 rfl)) (mvT hZ (ww hw 23 rfl)) (by decide) (backOf (W := 0) (rm4_25 l Z a0 hw [] b21  T348.heap n0  p348_0 p348_1 p348_2 p348_3 g_b21   ) hZ (ww hw 25 rfl) (ww hw 4 rfl) (by decide) (by decide)) q349a q349c (g := (mkF m 156 (Sh6 q1 q2 0 1 b10 b14 b18 b21) [(.long 9223372036854775807), (.ref b21)])) rfl (by rw [hml]; rfl) (Steps.refl _) (argsL := [(.long (9223372036854775807 : Int64))]) (rest := []) (lenOf pd_28J29J rfl) rfl (by show 2 * 0 + _ ≤ _; exact Nat.le_of_eq rfl) (hb hby at_156) (fun _ _ => ⟨rfl, rfl, (by decide : 1 + 0 ≤ _), (by decide : 3 + 0 ≤ _)⟩)
                      dsimp only [Pt.U, Pt.locs, Pt.cells, Pt.slots] at X349 l349 y349 z349 st349 hQ349
                      subst l349 y349 z349
                      obtain ⟨rfl, N349q, K349, p349_0, p349_1, p349_2, p349_3⟩ := hQ349
                      have N349 := Fr.app N348 N349q
                      have Zs_349 : n0 ≤ T349.heap.size := Nat.le_trans Zs_348 K349.1
                      refine GoW.sg (mkF m 159 (Sh6 q1 q2 0 1 b10 b14 b18 b21) [(.long 0)]) (fun t k => st349.trans k) ?_
                      refine GoW.sg (mkF m 161 (Sh10 q1 q2 0 1 b10 b14 b18 b21 0) []) (fun t k => XS.lstore X349.here hx rfl (hb hby at_159) rfl (l' := (Sh10 q1 q2 0 1 b10 b14 b18 b21 0)) rfl k) ?_
                      refine GoW.sg (mkF m 163 (Sh10 q1 q2 0 1 b10 b14 b18 b21 0) [(.int b10)]) (fun t k => XS.iload X349.here hx rfl (hb hby at_161) rfl k) ?_
                      refine GoW.sg (mkF m 166 (Sh10 q1 q2 0 1 b10 b14 b18 b21 0) []) (fun t k => XS.ifNo X349.here hx rfl (hb hby at_163) rfl ((if0 _ _).trans (feq c302).1) k) ?_
                      refine GoW.sg (mkF m 167 (Sh10 q1 q2 0 1 b10 b14 b18 b21 0) [(.int 0)]) (fun t k => XS.iloadN X349.here hx rfl (hb hby at_166) rfl k) ?_
                      refine GoW.sg (mkF m 170 (Sh10 q1 q2 0 1 b10 b14 b18 b21 0) []) (fun t k => XS.ifNo X349.here hx rfl (hb hby at_167) rfl (by decide) k) ?_
                      refine GoW.sg (mkF m 172 (Sh10 q1 q2 0 1 b10 b14 b18 b21 0) [(.long b18)]) (fun t k => XS.lload X349.here hx rfl (hb hby at_170) rfl k) ?_
                      refine GoW.sg (mkF m 175 (Sh10 q1 q2 0 1 b10 b14 b18 b21 0) [(.long 20000), (.long b18)]) (fun t k => X349.ldc2Long hx hown (mvT hZ (ww hw 34 rfl)) (g := (mkF m 172 (Sh10 q1 q2 0 1 b10 b14 b18 b21 0) [(.long b18)])) rfl (hb hby at_172) t k) ?_
                      refine GoW.sg (mkF m 176 (Sh10 q1 q2 0 1 b10 b14 b18 b21 0) [(.int (lcmpW b18 (20000 : Int64)))]) (fun t k => XS.lcmp X349.here hx rfl (hb hby at_175) rfl k) ?_
                      refine GoW.sg (mkF m 183 (Sh10 q1 q2 0 1 b10 b14 b18 b21 0) []) (fun t k => XS.ifYes X349.here hx rfl (pc0 := 176) (pc' := 183) rfl (hb hby at_176) rfl ((if0 _ _).trans (tlt ((lw_lt _ _).mpr c339)).1) (by decide) (by decide) k) ?_
                      refine GoW.sg (mkF m 184 (Sh10 q1 q2 0 1 b10 b14 b18 b21 0) [(.int 0)]) (fun t k => XS.iconst X349.here hx rfl (hb hby at_183) k) ?_
                      refine GoW.sg (mkF m 186 (Sh11 q1 q2 0 1 b10 b14 b18 b21 0 0) []) (fun t k => XS.istore X349.here hx rfl (hb hby at_184) rfl (l' := (Sh11 q1 q2 0 1 b10 b14 b18 b21 0 0)) rfl k) ?_
                      refine GoW.sg (mkF m 187 (Sh11 q1 q2 0 1 b10 b14 b18 b21 0 0) [(.int 0)]) (fun t k => XS.iloadN X349.here hx rfl (hb hby at_186) rfl k) ?_
                      refine GoW.sg (mkF m 208 (Sh11 q1 q2 0 1 b10 b14 b18 b21 0 0) []) (fun t k => XS.ifYes X349.here hx rfl (pc0 := 187) (pc' := 208) rfl (hb hby at_187) rfl (by decide) (by decide) (by decide) k) ?_
                      refine GoW.sg (mkF m 209 (Sh11 q1 q2 0 1 b10 b14 b18 b21 0 0) [(.int 0)]) (fun t k => XS.iconst X349.here hx rfl (hb hby at_208) k) ?_
                      refine GoW.sg (mkF m 211 (Sh12 q1 q2 0 1 b10 b14 b18 b21 0 0 0) []) (fun t k => XS.istore X349.here hx rfl (hb hby at_209) rfl (l' := (Sh12 q1 q2 0 1 b10 b14 b18 b21 0 0 0)) rfl k) ?_
                      refine GoW.sg (mkF m 213 (Sh12 q1 q2 0 1 b10 b14 b18 b21 0 0 0) [(.int b14)]) (fun t k => XS.iload X349.here hx rfl (hb hby at_211) rfl k) ?_
                      refine GoW.sg (mkF m 216 (Sh12 q1 q2 0 1 b10 b14 b18 b21 0 0 0) []) (fun t k => XS.ifNo X349.here hx rfl (hb hby at_213) rfl ((if0 _ _).trans (feq c142).1) k) ?_
                      refine GoW.sg (mkF m 218 (Sh12 q1 q2 0 1 b10 b14 b18 b21 0 0 0) [(.int 0)]) (fun t k => XS.iload X349.here hx rfl (hb hby at_216) rfl k) ?_
                      refine GoW.sg (mkF m 230 (Sh12 q1 q2 0 1 b10 b14 b18 b21 0 0 0) []) (fun t k => XS.ifYes X349.here hx rfl (pc0 := 218) (pc' := 230) rfl (hb hby at_218) rfl (by decide) (by decide) (by decide) k) ?_
                      refine GoW.sg (mkF m 231 (Sh12 q1 q2 0 1 b10 b14 b18 b21 0 0 0) [(.int 0)]) (fun t k => XS.iconst X349.here hx rfl (hb hby at_230) k) ?_
                      refine GoW.sg (mkF m 233 (Sh13 q1 q2 0 1 b10 b14 b18 b21 0 0 0 0) []) (fun t k => XS.istore X349.here hx rfl (hb hby at_231) rfl (l' := (Sh13 q1 q2 0 1 b10 b14 b18 b21 0 0 0 0)) rfl k) ?_
                      refine GoW.sg (mkF m 253 (Sh13 q1 q2 0 1 b10 b14 b18 b21 0 0 0 0) []) (fun t k => XS.goto X349.here hx rfl (pc0 := 233) (pc' := 253) rfl (hb hby at_233) (by decide) (by decide) k) ?_
                      refine GoW.sg (mkF m 255 (Sh13 q1 q2 0 1 b10 b14 b18 b21 0 0 0 0) [(.long 0)]) (fun t k => XS.lload X349.here hx rfl (hb hby at_253) rfl k) ?_
                      refine GoW.sg (mkF m 257 (Sh13 q1 q2 0 1 b10 b14 b18 b21 0 0 0 0) [(.int 0), (.long 0)]) (fun t k => XS.iload X349.here hx rfl (hb hby at_255) rfl k) ?_
                      refine GoW.sg (mkF m 266 (Sh13 q1 q2 0 1 b10 b14 b18 b21 0 0 0 0) [(.long 0)]) (fun t k => XS.ifYes X349.here hx rfl (pc0 := 257) (pc' := 266) rfl (hb hby at_257) rfl (by decide) (by decide) (by decide) k) ?_
                      refine GoW.sg (mkF m 267 (Sh13 q1 q2 0 1 b10 b14 b18 b21 0 0 0 0) [(.long 0), (.long 0)]) (fun t k => XS.lconst X349.here hx rfl (hb hby at_266) k) ?_
                      refine GoW.sg (mkF m 268 (Sh13 q1 q2 0 1 b10 b14 b18 b21 0 0 0 0) [(.int (lcmpW (0 : Int64) (0 : Int64)))]) (fun t k => XS.lcmp X349.here hx rfl (hb hby at_267) rfl k) ?_
                      refine GoW.sg (mkF m 271 (Sh13 q1 q2 0 1 b10 b14 b18 b21 0 0 0 0) []) (fun t k => XS.ifNo X349.here hx rfl (hb hby at_268) rfl (by decide) k) ?_
                      refine GoW.sg (mkF m 272 (Sh13 q1 q2 0 1 b10 b14 b18 b21 0 0 0 0) [(.int 1)]) (fun t k => XS.iconst X349.here hx rfl (hb hby at_271) k) ?_
                      refine GoW.sg (mkF m 276 (Sh13 q1 q2 0 1 b10 b14 b18 b21 0 0 0 0) [(.int 1)]) (fun t k => XS.goto X349.here hx rfl (pc0 := 272) (pc' := 276) rfl (hb hby at_272) (by decide) (by decide) k) ?_
                      refine GoW.retN X349 hx (t := .boolean) Bd.returns (by simp) (hb hby at_276) Bd.notSynchronized ?_ (by decide) (by decide)
                      exact ⟨rfl, N349⟩
                  · subst cc
                    show GoW p e below s (ValQ (.int (1 : Int32)) n0) room_1.cells room_1.slots (T338.setTop (mkF m 136 (Sh6 q1 q2 1 b6 b10 b14 b18 b21) []))
                    rcases own_01 hb6 with cc | cc
                    · subst cc
                      show GoW p e below s (ValQ (.int (1 : Int32)) n0) room_1.cells room_1.slots (T338.setTop (mkF m 136 (Sh6 q1 q2 1 0 b10 b14 b18 b21) []))
                      refine GoW.sg (mkF m 138 (Sh6 q1 q2 1 0 b10 b14 b18 b21) [(.ref b21)]) (fun t k => XS.aload X338.here hx rfl (hb hby at_136) rfl rfl k) ?_
                      refine GoW.sg (mkF m 139 (Sh6 q1 q2 1 0 b10 b14 b18 b21) [(.int 1), (.ref b21)]) (fun t k => XS.iloadN X338.here hx rfl (hb hby at_138) rfl k) ?_
                      refine GoW.sg (mkF m 141 (Sh6 q1 q2 1 0 b10 b14 b18 b21) [(.int 0), (.int 1), (.ref b21)]) (fun t k => XS.iload X338.here hx rfl (hb hby at_139) rfl k) ?_
                      refine GoW.sg (mkF m 143 (Sh6 q1 q2 1 0 b10 b14 b18 b21) [(.long b18), (.int 0), (.int 1), (.ref b21)]) (fun t k => XS.lload X338.here hx rfl (hb hby at_141) rfl k) ?_
                      obtain ⟨cq358, kq358, q358a, q358b, q358c⟩ := isOf hZ rfl p338_0
                      obtain ⟨_, _, ⟨T358, L358, k358, n358⟩, -, X358, ⟨Lc358, hQ358, l358, y358, z358⟩, st358⟩ := X338.virtualBack hx (y := (⟨"com/example/spindle/spindle/SpinRule", "countWait", "(ZZJ)V"⟩ : MethodName)) (z := (⟨"com/example/spindle/spindle/SpinRule", "countWait", "(ZZJ)V"⟩ : MethodName)) hown (mvT hZ (ww hw 35 rfl)) (mvT hZ (ww hw 36 rfl)) (notFace_of_selects (args := #[]) (mvT hZ (ww hw 38 rfl))) (mvT hZ (ww hw 38 rfl)) (mvT hZ (ww hw 37 rfl)) (by decide) (backOf (W := 0) (rm6_40 l Z a0 hw [] b21 b18  T338.heap n0  p338_0 p338_1 p338_2 p338_3 g_b21  c339 ) hZ (ww hw 39 rfl) (ww hw 4 rfl) (by decide) (by decide)) q358a q358c (g := (mkF m 143 (Sh6 q1 q2 1 0 b10 b14 b18 b21) [(.long b18), (.int 0), (.int 1), (.ref b21)])) rfl (by rw [hml]; rfl) (Steps.refl _) (argsL := [(.int (1 : Int32)), (.int (0 : Int32)), (.long b18)]) (rest := []) (lenOf pd_28ZZJ29V rfl) rfl (by show 2 * 0 + _ ≤ _; exact Nat.le_of_eq rfl) (hb hby at_143) (fun _ _ => ⟨rfl, rfl, (by decide : 1 + 0 ≤ _), (by decide : 3 + 0 ≤ _)⟩)
                      dsimp only [Pt.U, Pt.locs, Pt.cells, Pt.slots] at X358 l358 y358 z358 st358 hQ358
                      subst l358 y358 z358
                      obtain ⟨rfl, N358q, K358, p358_0, p358_1, p358_2, p358_3⟩ := hQ358
                      have N358 := Fr.app N338 N358q
                      have Zs_358 : n0 ≤ T358.heap.size := Nat.le_trans Zs_338 K358.1
                      refine GoW.sg (mkF m 146 (Sh6 q1 q2 1 0 b10 b14 b18 b21) []) (fun t k => st358.trans k) ?_
                      refine GoW.sg (mkF m 148 (Sh6 q1 q2 1 0 b10 b14 b18 b21) [(.ref b21)]) (fun t k => XS.aload X358.here hx rfl (hb hby at_146) rfl rfl k) ?_
                      obtain ⟨cq361, kq361, q361a, q361b, q361c⟩ := isOf hZ rfl p358_0
                      obtain ⟨_, _, ⟨T361, L361, k361, n361⟩, -, X361, ⟨Lc361, hQ361, l361, y361, z361⟩, st361⟩ := X358.virtualBack hx (y := (⟨"com/example/spindle/spindle/SpinRule", "handedOn", "()V"⟩ : MethodName)) (z := (⟨"com/example/spindle/spindle/SpinRule", "handedOn", "()V"⟩ : MethodName)) hown (mvT hZ (ww hw 13 rfl)) (mvT hZ (ww hw 14 rfl)) (notFace_of_selects (args := #[]) (mvT hZ (ww hw 16 rfl))) (mvT hZ (ww hw 16 rfl)) (mvT hZ (ww hw 15 rfl)) (by decide) (backOf (W := 0) (rm3_41 l Z a0 hw [] b21  T358.heap n0  p358_0 p358_1 p358_2 p358_3 g_b21   ) hZ (ww hw 17 rfl) (ww hw 4 rfl) (by decide) (by decide)) q361a q361c (g := (mkF m 148 (Sh6 q1 q2 1 0 b10 b14 b18 b21) [(.ref b21)])) rfl (by rw [hml]; rfl) (Steps.refl _) (argsL := []) (rest := []) (lenOf pd_2829V rfl) rfl (by show 2 * 0 + _ ≤ _; exact Nat.le_of_eq rfl) (hb hby at_148) (fun _ _ => ⟨rfl, rfl, (by decide : 1 + 0 ≤ _), (by decide : 3 + 0 ≤ _)⟩)
                      dsimp only [Pt.U, Pt.locs, Pt.cells, Pt.slots] at X361 l361 y361 z361 st361 hQ361
                      subst l361 y361 z361
                      obtain ⟨rfl, N361q, K361, p361_0, p361_1, p361_2, p361_3⟩ := hQ361
                      have N361 := Fr.app N358 N361q
                      have Zs_361 : n0 ≤ T361.heap.size := Nat.le_trans Zs_358 K361.1
                      refine GoW.sg (mkF m 151 (Sh6 q1 q2 1 0 b10 b14 b18 b21) []) (fun t k => st361.trans k) ?_
                      refine GoW.sg (mkF m 153 (Sh6 q1 q2 1 0 b10 b14 b18 b21) [(.ref b21)]) (fun t k => XS.aload X361.here hx rfl (hb hby at_151) rfl rfl k) ?_
                      refine GoW.sg (mkF m 156 (Sh6 q1 q2 1 0 b10 b14 b18 b21) [(.long 9223372036854775807), (.ref b21)]) (fun t k => X361.ldc2Long hx hown (mvT hZ (ww hw 20 rfl)) (g := (mkF m 153 (Sh6 q1 q2 1 0 b10 b14 b18 b21) [(.ref b21)])) rfl (hb hby at_153) t k) ?_
                      obtain ⟨cq372, kq372, q372a, q372b, q372c⟩ := isOf hZ rfl p361_0
                      obtain ⟨_, _, ⟨T372, L372, k372, n372⟩, -, X372, ⟨Lc372, hQ372, l372, y372, z372⟩, st372⟩ := X361.virtualBack hx (y := (⟨"com/example/spindle/spindle/SpinRule", "spinNanos", "(J)J"⟩ : MethodName)) (z := (⟨"com/example/spindle/spindle/SpinRule", "spinNanos", "(J)J"⟩ : MethodName)) hown (mvT hZ (ww hw 21 rfl)) (mvT hZ (ww hw 22 rfl)) (notFace_of_selects (args := #[]) (mvT hZ (ww hw 24 rfl))) (mvT hZ (ww hw 24 rfl)) (mvT hZ (ww hw 23 rfl)) (by decide) (backOf (W := 0) (rm4_42 l Z a0 hw [] b21  T361.heap n0  p361_0 p361_1 p361_2 p361_3 g_b21   ) hZ (ww hw 25 rfl) (ww hw 4 rfl) (by decide) (by decide)) q372a q372c (g := (mkF m 156 (Sh6 q1 q2 1 0 b10 b14 b18 b21) [(.long 9223372036854775807), (.ref b21)])) rfl (by rw [hml]; rfl) (Steps.refl _) (argsL := [(.long (9223372036854775807 : Int64))]) (rest := []) (lenOf pd_28J29J rfl) rfl (by show 2 * 0 + _ ≤ _; exact Nat.le_of_eq rfl) (hb hby at_156) (fun _ _ => ⟨rfl, rfl, (by decide : 1 + 0 ≤ _), (by decide : 3 + 0 ≤ _)⟩)
                      dsimp only [Pt.U, Pt.locs, Pt.cells, Pt.slots] at X372 l372 y372 z372 st372 hQ372
                      subst l372 y372 z372
                      obtain ⟨rfl, N372q, K372, p372_0, p372_1, p372_2, p372_3⟩ := hQ372
                      have N372 := Fr.app N361 N372q
                      have Zs_372 : n0 ≤ T372.heap.size := Nat.le_trans Zs_361 K372.1
                      refine GoW.sg (mkF m 159 (Sh6 q1 q2 1 0 b10 b14 b18 b21) [(.long 0)]) (fun t k => st372.trans k) ?_
                      refine GoW.sg (mkF m 161 (Sh10 q1 q2 1 0 b10 b14 b18 b21 0) []) (fun t k => XS.lstore X372.here hx rfl (hb hby at_159) rfl (l' := (Sh10 q1 q2 1 0 b10 b14 b18 b21 0)) rfl k) ?_
                      refine GoW.sg (mkF m 163 (Sh10 q1 q2 1 0 b10 b14 b18 b21 0) [(.int b10)]) (fun t k => XS.iload X372.here hx rfl (hb hby at_161) rfl k) ?_
                      refine GoW.sg (mkF m 166 (Sh10 q1 q2 1 0 b10 b14 b18 b21 0) []) (fun t k => XS.ifNo X372.here hx rfl (hb hby at_163) rfl ((if0 _ _).trans (feq c302).1) k) ?_
                      refine GoW.sg (mkF m 167 (Sh10 q1 q2 1 0 b10 b14 b18 b21 0) [(.int 1)]) (fun t k => XS.iloadN X372.here hx rfl (hb hby at_166) rfl k) ?_
                      refine GoW.sg (mkF m 179 (Sh10 q1 q2 1 0 b10 b14 b18 b21 0) []) (fun t k => XS.ifYes X372.here hx rfl (pc0 := 167) (pc' := 179) rfl (hb hby at_167) rfl (by decide) (by decide) (by decide) k) ?_
                      refine GoW.sg (mkF m 180 (Sh10 q1 q2 1 0 b10 b14 b18 b21 0) [(.int 1)]) (fun t k => XS.iconst X372.here hx rfl (hb hby at_179) k) ?_
                      refine GoW.sg (mkF m 184 (Sh10 q1 q2 1 0 b10 b14 b18 b21 0) [(.int 1)]) (fun t k => XS.goto X372.here hx rfl (pc0 := 180) (pc' := 184) rfl (hb hby at_180) (by decide) (by decide) k) ?_
                      refine GoW.sg (mkF m 186 (Sh11 q1 q2 1 0 b10 b14 b18 b21 0 1) []) (fun t k => XS.istore X372.here hx rfl (hb hby at_184) rfl (l' := (Sh11 q1 q2 1 0 b10 b14 b18 b21 0 1)) rfl k) ?_
                      refine GoW.sg (mkF m 187 (Sh11 q1 q2 1 0 b10 b14 b18 b21 0 1) [(.int 1)]) (fun t k => XS.iloadN X372.here hx rfl (hb hby at_186) rfl k) ?_
                      refine GoW.sg (mkF m 190 (Sh11 q1 q2 1 0 b10 b14 b18 b21 0 1) []) (fun t k => XS.ifNo X372.here hx rfl (hb hby at_187) rfl (by decide) k) ?_
                      refine GoW.sg (mkF m 192 (Sh11 q1 q2 1 0 b10 b14 b18 b21 0 1) [(.int 0)]) (fun t k => XS.iload X372.here hx rfl (hb hby at_190) rfl k) ?_
                      refine GoW.sg (mkF m 208 (Sh11 q1 q2 1 0 b10 b14 b18 b21 0 1) []) (fun t k => XS.ifYes X372.here hx rfl (pc0 := 192) (pc' := 208) rfl (hb hby at_192) rfl (by decide) (by decide) (by decide) k) ?_
                      refine GoW.sg (mkF m 209 (Sh11 q1 q2 1 0 b10 b14 b18 b21 0 1) [(.int 0)]) (fun t k => XS.iconst X372.here hx rfl (hb hby at_208) k) ?_
                      refine GoW.sg (mkF m 211 (Sh12 q1 q2 1 0 b10 b14 b18 b21 0 1 0) []) (fun t k => XS.istore X372.here hx rfl (hb hby at_209) rfl (l' := (Sh12 q1 q2 1 0 b10 b14 b18 b21 0 1 0)) rfl k) ?_
                      refine GoW.sg (mkF m 213 (Sh12 q1 q2 1 0 b10 b14 b18 b21 0 1 0) [(.int b14)]) (fun t k => XS.iload X372.here hx rfl (hb hby at_211) rfl k) ?_
                      refine GoW.sg (mkF m 216 (Sh12 q1 q2 1 0 b10 b14 b18 b21 0 1 0) []) (fun t k => XS.ifNo X372.here hx rfl (hb hby at_213) rfl ((if0 _ _).trans (feq c142).1) k) ?_
                      refine GoW.sg (mkF m 218 (Sh12 q1 q2 1 0 b10 b14 b18 b21 0 1 0) [(.int 1)]) (fun t k => XS.iload X372.here hx rfl (hb hby at_216) rfl k) ?_
                      refine GoW.sg (mkF m 221 (Sh12 q1 q2 1 0 b10 b14 b18 b21 0 1 0) []) (fun t k => XS.ifNo X372.here hx rfl (hb hby at_218) rfl (by decide) k) ?_
                      refine GoW.sg (mkF m 223 (Sh12 q1 q2 1 0 b10 b14 b18 b21 0 1 0) [(.int 0)]) (fun t k => XS.iload X372.here hx rfl (hb hby at_221) rfl k) ?_
                      refine GoW.sg (mkF m 230 (Sh12 q1 q2 1 0 b10 b14 b18 b21 0 1 0) []) (fun t k => XS.ifYes X372.here hx rfl (pc0 := 223) (pc' := 230) rfl (hb hby at_223) rfl (by decide) (by decide) (by decide) k) ?_
                      refine GoW.sg (mkF m 231 (Sh12 q1 q2 1 0 b10 b14 b18 b21 0 1 0) [(.int 0)]) (fun t k => XS.iconst X372.here hx rfl (hb hby at_230) k) ?_
                      refine GoW.sg (mkF m 233 (Sh13 q1 q2 1 0 b10 b14 b18 b21 0 1 0 0) []) (fun t k => XS.istore X372.here hx rfl (hb hby at_231) rfl (l' := (Sh13 q1 q2 1 0 b10 b14 b18 b21 0 1 0 0)) rfl k) ?_
                      refine GoW.sg (mkF m 253 (Sh13 q1 q2 1 0 b10 b14 b18 b21 0 1 0 0) []) (fun t k => XS.goto X372.here hx rfl (pc0 := 233) (pc' := 253) rfl (hb hby at_233) (by decide) (by decide) k) ?_
                      refine GoW.sg (mkF m 255 (Sh13 q1 q2 1 0 b10 b14 b18 b21 0 1 0 0) [(.long 0)]) (fun t k => XS.lload X372.here hx rfl (hb hby at_253) rfl k) ?_
                      refine GoW.sg (mkF m 257 (Sh13 q1 q2 1 0 b10 b14 b18 b21 0 1 0 0) [(.int 0), (.long 0)]) (fun t k => XS.iload X372.here hx rfl (hb hby at_255) rfl k) ?_
                      refine GoW.sg (mkF m 266 (Sh13 q1 q2 1 0 b10 b14 b18 b21 0 1 0 0) [(.long 0)]) (fun t k => XS.ifYes X372.here hx rfl (pc0 := 257) (pc' := 266) rfl (hb hby at_257) rfl (by decide) (by decide) (by decide) k) ?_
                      refine GoW.sg (mkF m 267 (Sh13 q1 q2 1 0 b10 b14 b18 b21 0 1 0 0) [(.long 0), (.long 0)]) (fun t k => XS.lconst X372.here hx rfl (hb hby at_266) k) ?_
                      refine GoW.sg (mkF m 268 (Sh13 q1 q2 1 0 b10 b14 b18 b21 0 1 0 0) [(.int (lcmpW (0 : Int64) (0 : Int64)))]) (fun t k => XS.lcmp X372.here hx rfl (hb hby at_267) rfl k) ?_
                      refine GoW.sg (mkF m 271 (Sh13 q1 q2 1 0 b10 b14 b18 b21 0 1 0 0) []) (fun t k => XS.ifNo X372.here hx rfl (hb hby at_268) rfl (by decide) k) ?_
                      refine GoW.sg (mkF m 272 (Sh13 q1 q2 1 0 b10 b14 b18 b21 0 1 0 0) [(.int 1)]) (fun t k => XS.iconst X372.here hx rfl (hb hby at_271) k) ?_
                      refine GoW.sg (mkF m 276 (Sh13 q1 q2 1 0 b10 b14 b18 b21 0 1 0 0) [(.int 1)]) (fun t k => XS.goto X372.here hx rfl (pc0 := 272) (pc' := 276) rfl (hb hby at_272) (by decide) (by decide) k) ?_
                      refine GoW.retN X372 hx (t := .boolean) Bd.returns (by simp) (hb hby at_276) Bd.notSynchronized ?_ (by decide) (by decide)
                      exact ⟨rfl, N372⟩
                    · subst cc
                      show GoW p e below s (ValQ (.int (1 : Int32)) n0) room_1.cells room_1.slots (T338.setTop (mkF m 136 (Sh6 q1 q2 1 1 b10 b14 b18 b21) []))
                      refine GoW.sg (mkF m 138 (Sh6 q1 q2 1 1 b10 b14 b18 b21) [(.ref b21)]) (fun t k => XS.aload X338.here hx rfl (hb hby at_136) rfl rfl k) ?_
                      refine GoW.sg (mkF m 139 (Sh6 q1 q2 1 1 b10 b14 b18 b21) [(.int 1), (.ref b21)]) (fun t k => XS.iloadN X338.here hx rfl (hb hby at_138) rfl k) ?_
                      refine GoW.sg (mkF m 141 (Sh6 q1 q2 1 1 b10 b14 b18 b21) [(.int 1), (.int 1), (.ref b21)]) (fun t k => XS.iload X338.here hx rfl (hb hby at_139) rfl k) ?_
                      refine GoW.sg (mkF m 143 (Sh6 q1 q2 1 1 b10 b14 b18 b21) [(.long b18), (.int 1), (.int 1), (.ref b21)]) (fun t k => XS.lload X338.here hx rfl (hb hby at_141) rfl k) ?_
                      obtain ⟨cq381, kq381, q381a, q381b, q381c⟩ := isOf hZ rfl p338_0
                      obtain ⟨_, _, ⟨T381, L381, k381, n381⟩, -, X381, ⟨Lc381, hQ381, l381, y381, z381⟩, st381⟩ := X338.virtualBack hx (y := (⟨"com/example/spindle/spindle/SpinRule", "countWait", "(ZZJ)V"⟩ : MethodName)) (z := (⟨"com/example/spindle/spindle/SpinRule", "countWait", "(ZZJ)V"⟩ : MethodName)) hown (mvT hZ (ww hw 35 rfl)) (mvT hZ (ww hw 36 rfl)) (notFace_of_selects (args := #[]) (mvT hZ (ww hw 38 rfl))) (mvT hZ (ww hw 38 rfl)) (mvT hZ (ww hw 37 rfl)) (by decide) (backOf (W := 0) (rm6_43 l Z a0 hw [] b21 b18  T338.heap n0  p338_0 p338_1 p338_2 p338_3 g_b21  c339 ) hZ (ww hw 39 rfl) (ww hw 4 rfl) (by decide) (by decide)) q381a q381c (g := (mkF m 143 (Sh6 q1 q2 1 1 b10 b14 b18 b21) [(.long b18), (.int 1), (.int 1), (.ref b21)])) rfl (by rw [hml]; rfl) (Steps.refl _) (argsL := [(.int (1 : Int32)), (.int (1 : Int32)), (.long b18)]) (rest := []) (lenOf pd_28ZZJ29V rfl) rfl (by show 2 * 0 + _ ≤ _; exact Nat.le_of_eq rfl) (hb hby at_143) (fun _ _ => ⟨rfl, rfl, (by decide : 1 + 0 ≤ _), (by decide : 3 + 0 ≤ _)⟩)
                      dsimp only [Pt.U, Pt.locs, Pt.cells, Pt.slots] at X381 l381 y381 z381 st381 hQ381
                      subst l381 y381 z381
                      obtain ⟨rfl, N381q, K381, p381_0, p381_1, p381_2, p381_3⟩ := hQ381
                      have N381 := Fr.app N338 N381q
                      have Zs_381 : n0 ≤ T381.heap.size := Nat.le_trans Zs_338 K381.1
                      refine GoW.sg (mkF m 146 (Sh6 q1 q2 1 1 b10 b14 b18 b21) []) (fun t k => st381.trans k) ?_
                      refine GoW.sg (mkF m 148 (Sh6 q1 q2 1 1 b10 b14 b18 b21) [(.ref b21)]) (fun t k => XS.aload X381.here hx rfl (hb hby at_146) rfl rfl k) ?_
                      obtain ⟨cq384, kq384, q384a, q384b, q384c⟩ := isOf hZ rfl p381_0
                      obtain ⟨_, _, ⟨T384, L384, k384, n384⟩, -, X384, ⟨Lc384, hQ384, l384, y384, z384⟩, st384⟩ := X381.virtualBack hx (y := (⟨"com/example/spindle/spindle/SpinRule", "handedOn", "()V"⟩ : MethodName)) (z := (⟨"com/example/spindle/spindle/SpinRule", "handedOn", "()V"⟩ : MethodName)) hown (mvT hZ (ww hw 13 rfl)) (mvT hZ (ww hw 14 rfl)) (notFace_of_selects (args := #[]) (mvT hZ (ww hw 16 rfl))) (mvT hZ (ww hw 16 rfl)) (mvT hZ (ww hw 15 rfl)) (by decide) (backOf (W := 0) (rm3_44 l Z a0 hw [] b21  T381.heap n0  p381_0 p381_1 p381_2 p381_3 g_b21   ) hZ (ww hw 17 rfl) (ww hw 4 rfl) (by decide) (by decide)) q384a q384c (g := (mkF m 148 (Sh6 q1 q2 1 1 b10 b14 b18 b21) [(.ref b21)])) rfl (by rw [hml]; rfl) (Steps.refl _) (argsL := []) (rest := []) (lenOf pd_2829V rfl) rfl (by show 2 * 0 + _ ≤ _; exact Nat.le_of_eq rfl) (hb hby at_148) (fun _ _ => ⟨rfl, rfl, (by decide : 1 + 0 ≤ _), (by decide : 3 + 0 ≤ _)⟩)
                      dsimp only [Pt.U, Pt.locs, Pt.cells, Pt.slots] at X384 l384 y384 z384 st384 hQ384
                      subst l384 y384 z384
                      obtain ⟨rfl, N384q, K384, p384_0, p384_1, p384_2, p384_3⟩ := hQ384
                      have N384 := Fr.app N381 N384q
                      have Zs_384 : n0 ≤ T384.heap.size := Nat.le_trans Zs_381 K384.1
                      refine GoW.sg (mkF m 151 (Sh6 q1 q2 1 1 b10 b14 b18 b21) []) (fun t k => st384.trans k) ?_
                      refine GoW.sg (mkF m 153 (Sh6 q1 q2 1 1 b10 b14 b18 b21) [(.ref b21)]) (fun t k => XS.aload X384.here hx rfl (hb hby at_151) rfl rfl k) ?_
                      refine GoW.sg (mkF m 156 (Sh6 q1 q2 1 1 b10 b14 b18 b21) [(.long 9223372036854775807), (.ref b21)]) (fun t k => X384.ldc2Long hx hown (mvT hZ (ww hw 20 rfl)) (g := (mkF m 153 (Sh6 q1 q2 1 1 b10 b14 b18 b21) [(.ref b21)])) rfl (hb hby at_153) t k) ?_
                      obtain ⟨cq395, kq395, q395a, q395b, q395c⟩ := isOf hZ rfl p384_0
                      obtain ⟨_, _, ⟨T395, L395, k395, n395⟩, -, X395, ⟨Lc395, hQ395, l395, y395, z395⟩, st395⟩ := X384.virtualBack hx (y := (⟨"com/example/spindle/spindle/SpinRule", "spinNanos", "(J)J"⟩ : MethodName)) (z := (⟨"com/example/spindle/spindle/SpinRule", "spinNanos", "(J)J"⟩ : MethodName)) hown (mvT hZ (ww hw 21 rfl)) (mvT hZ (ww hw 22 rfl)) (notFace_of_selects (args := #[]) (mvT hZ (ww hw 24 rfl))) (mvT hZ (ww hw 24 rfl)) (mvT hZ (ww hw 23 rfl)) (by decide) (backOf (W := 0) (rm4_45 l Z a0 hw [] b21  T384.heap n0  p384_0 p384_1 p384_2 p384_3 g_b21   ) hZ (ww hw 25 rfl) (ww hw 4 rfl) (by decide) (by decide)) q395a q395c (g := (mkF m 156 (Sh6 q1 q2 1 1 b10 b14 b18 b21) [(.long 9223372036854775807), (.ref b21)])) rfl (by rw [hml]; rfl) (Steps.refl _) (argsL := [(.long (9223372036854775807 : Int64))]) (rest := []) (lenOf pd_28J29J rfl) rfl (by show 2 * 0 + _ ≤ _; exact Nat.le_of_eq rfl) (hb hby at_156) (fun _ _ => ⟨rfl, rfl, (by decide : 1 + 0 ≤ _), (by decide : 3 + 0 ≤ _)⟩)
                      dsimp only [Pt.U, Pt.locs, Pt.cells, Pt.slots] at X395 l395 y395 z395 st395 hQ395
                      subst l395 y395 z395
                      obtain ⟨rfl, N395q, K395, p395_0, p395_1, p395_2, p395_3⟩ := hQ395
                      have N395 := Fr.app N384 N395q
                      have Zs_395 : n0 ≤ T395.heap.size := Nat.le_trans Zs_384 K395.1
                      refine GoW.sg (mkF m 159 (Sh6 q1 q2 1 1 b10 b14 b18 b21) [(.long 20000)]) (fun t k => st395.trans k) ?_
                      refine GoW.sg (mkF m 161 (Sh10 q1 q2 1 1 b10 b14 b18 b21 20000) []) (fun t k => XS.lstore X395.here hx rfl (hb hby at_159) rfl (l' := (Sh10 q1 q2 1 1 b10 b14 b18 b21 20000)) rfl k) ?_
                      refine GoW.sg (mkF m 163 (Sh10 q1 q2 1 1 b10 b14 b18 b21 20000) [(.int b10)]) (fun t k => XS.iload X395.here hx rfl (hb hby at_161) rfl k) ?_
                      refine GoW.sg (mkF m 166 (Sh10 q1 q2 1 1 b10 b14 b18 b21 20000) []) (fun t k => XS.ifNo X395.here hx rfl (hb hby at_163) rfl ((if0 _ _).trans (feq c302).1) k) ?_
                      refine GoW.sg (mkF m 167 (Sh10 q1 q2 1 1 b10 b14 b18 b21 20000) [(.int 1)]) (fun t k => XS.iloadN X395.here hx rfl (hb hby at_166) rfl k) ?_
                      refine GoW.sg (mkF m 179 (Sh10 q1 q2 1 1 b10 b14 b18 b21 20000) []) (fun t k => XS.ifYes X395.here hx rfl (pc0 := 167) (pc' := 179) rfl (hb hby at_167) rfl (by decide) (by decide) (by decide) k) ?_
                      refine GoW.sg (mkF m 180 (Sh10 q1 q2 1 1 b10 b14 b18 b21 20000) [(.int 1)]) (fun t k => XS.iconst X395.here hx rfl (hb hby at_179) k) ?_
                      refine GoW.sg (mkF m 184 (Sh10 q1 q2 1 1 b10 b14 b18 b21 20000) [(.int 1)]) (fun t k => XS.goto X395.here hx rfl (pc0 := 180) (pc' := 184) rfl (hb hby at_180) (by decide) (by decide) k) ?_
                      refine GoW.sg (mkF m 186 (Sh11 q1 q2 1 1 b10 b14 b18 b21 20000 1) []) (fun t k => XS.istore X395.here hx rfl (hb hby at_184) rfl (l' := (Sh11 q1 q2 1 1 b10 b14 b18 b21 20000 1)) rfl k) ?_
                      refine GoW.sg (mkF m 187 (Sh11 q1 q2 1 1 b10 b14 b18 b21 20000 1) [(.int 1)]) (fun t k => XS.iloadN X395.here hx rfl (hb hby at_186) rfl k) ?_
                      refine GoW.sg (mkF m 190 (Sh11 q1 q2 1 1 b10 b14 b18 b21 20000 1) []) (fun t k => XS.ifNo X395.here hx rfl (hb hby at_187) rfl (by decide) k) ?_
                      refine GoW.sg (mkF m 192 (Sh11 q1 q2 1 1 b10 b14 b18 b21 20000 1) [(.int 1)]) (fun t k => XS.iload X395.here hx rfl (hb hby at_190) rfl k) ?_
                      refine GoW.sg (mkF m 195 (Sh11 q1 q2 1 1 b10 b14 b18 b21 20000 1) []) (fun t k => XS.ifNo X395.here hx rfl (hb hby at_192) rfl (by decide) k) ?_
                      refine GoW.sg (mkF m 197 (Sh11 q1 q2 1 1 b10 b14 b18 b21 20000 1) [(.long b18)]) (fun t k => XS.lload X395.here hx rfl (hb hby at_195) rfl k) ?_
                      refine GoW.sg (mkF m 200 (Sh11 q1 q2 1 1 b10 b14 b18 b21 20000 1) [(.long 20000), (.long b18)]) (fun t k => X395.ldc2Long hx hown (mvT hZ (ww hw 34 rfl)) (g := (mkF m 197 (Sh11 q1 q2 1 1 b10 b14 b18 b21 20000 1) [(.long b18)])) rfl (hb hby at_197) t k) ?_
                      refine GoW.sg (mkF m 201 (Sh11 q1 q2 1 1 b10 b14 b18 b21 20000 1) [(.int (lcmpW b18 (20000 : Int64)))]) (fun t k => XS.lcmp X395.here hx rfl (hb hby at_200) rfl k) ?_
                      refine GoW.sg (mkF m 204 (Sh11 q1 q2 1 1 b10 b14 b18 b21 20000 1) []) (fun t k => XS.ifNo X395.here hx rfl (hb hby at_201) rfl ((if0 _ _).trans (tlt ((lw_lt _ _).mpr c339)).2.1) k) ?_
                      refine GoW.sg (mkF m 205 (Sh11 q1 q2 1 1 b10 b14 b18 b21 20000 1) [(.int 1)]) (fun t k => XS.iconst X395.here hx rfl (hb hby at_204) k) ?_
                      refine GoW.sg (mkF m 209 (Sh11 q1 q2 1 1 b10 b14 b18 b21 20000 1) [(.int 1)]) (fun t k => XS.goto X395.here hx rfl (pc0 := 205) (pc' := 209) rfl (hb hby at_205) (by decide) (by decide) k) ?_
                      refine GoW.sg (mkF m 211 (Sh12 q1 q2 1 1 b10 b14 b18 b21 20000 1 1) []) (fun t k => XS.istore X395.here hx rfl (hb hby at_209) rfl (l' := (Sh12 q1 q2 1 1 b10 b14 b18 b21 20000 1 1)) rfl k) ?_
                      refine GoW.sg (mkF m 213 (Sh12 q1 q2 1 1 b10 b14 b18 b21 20000 1 1) [(.int b14)]) (fun t k => XS.iload X395.here hx rfl (hb hby at_211) rfl k) ?_
                      refine GoW.sg (mkF m 216 (Sh12 q1 q2 1 1 b10 b14 b18 b21 20000 1 1) []) (fun t k => XS.ifNo X395.here hx rfl (hb hby at_213) rfl ((if0 _ _).trans (feq c142).1) k) ?_
                      refine GoW.sg (mkF m 218 (Sh12 q1 q2 1 1 b10 b14 b18 b21 20000 1 1) [(.int 1)]) (fun t k => XS.iload X395.here hx rfl (hb hby at_216) rfl k) ?_
                      refine GoW.sg (mkF m 221 (Sh12 q1 q2 1 1 b10 b14 b18 b21 20000 1 1) []) (fun t k => XS.ifNo X395.here hx rfl (hb hby at_218) rfl (by decide) k) ?_
                      refine GoW.sg (mkF m 223 (Sh12 q1 q2 1 1 b10 b14 b18 b21 20000 1 1) [(.int 1)]) (fun t k => XS.iload X395.here hx rfl (hb hby at_221) rfl k) ?_
                      refine GoW.sg (mkF m 226 (Sh12 q1 q2 1 1 b10 b14 b18 b21 20000 1 1) []) (fun t k => XS.ifNo X395.here hx rfl (hb hby at_223) rfl (by decide) k) ?_
                      refine GoW.sg (mkF m 227 (Sh12 q1 q2 1 1 b10 b14 b18 b21 20000 1 1) [(.int 1)]) (fun t k => XS.iconst X395.here hx rfl (hb hby at_226) k) ?_
                      refine GoW.sg (mkF m 231 (Sh12 q1 q2 1 1 b10 b14 b18 b21 20000 1 1) [(.int 1)]) (fun t k => XS.goto X395.here hx rfl (pc0 := 227) (pc' := 231) rfl (hb hby at_227) (by decide) (by decide) k) ?_
                      refine GoW.sg (mkF m 233 (Sh13 q1 q2 1 1 b10 b14 b18 b21 20000 1 1 1) []) (fun t k => XS.istore X395.here hx rfl (hb hby at_231) rfl (l' := (Sh13 q1 q2 1 1 b10 b14 b18 b21 20000 1 1 1)) rfl k) ?_
                      refine GoW.sg (mkF m 253 (Sh13 q1 q2 1 1 b10 b14 b18 b21 20000 1 1 1) []) (fun t k => XS.goto X395.here hx rfl (pc0 := 233) (pc' := 253) rfl (hb hby at_233) (by decide) (by decide) k) ?_
                      refine GoW.sg (mkF m 255 (Sh13 q1 q2 1 1 b10 b14 b18 b21 20000 1 1 1) [(.long 20000)]) (fun t k => XS.lload X395.here hx rfl (hb hby at_253) rfl k) ?_
                      refine GoW.sg (mkF m 257 (Sh13 q1 q2 1 1 b10 b14 b18 b21 20000 1 1 1) [(.int 1), (.long 20000)]) (fun t k => XS.iload X395.here hx rfl (hb hby at_255) rfl k) ?_
                      refine GoW.sg (mkF m 260 (Sh13 q1 q2 1 1 b10 b14 b18 b21 20000 1 1 1) [(.long 20000)]) (fun t k => XS.ifNo X395.here hx rfl (hb hby at_257) rfl (by decide) k) ?_
                      refine GoW.sg (mkF m 263 (Sh13 q1 q2 1 1 b10 b14 b18 b21 20000 1 1 1) [(.long 20000), (.long 20000)]) (fun t k => X395.ldc2Long hx hown (mvT hZ (ww hw 34 rfl)) (g := (mkF m 260 (Sh13 q1 q2 1 1 b10 b14 b18 b21 20000 1 1 1) [(.long 20000)])) rfl (hb hby at_260) t k) ?_
                      refine GoW.sg (mkF m 267 (Sh13 q1 q2 1 1 b10 b14 b18 b21 20000 1 1 1) [(.long 20000), (.long 20000)]) (fun t k => XS.goto X395.here hx rfl (pc0 := 263) (pc' := 267) rfl (hb hby at_263) (by decide) (by decide) k) ?_
                      refine GoW.sg (mkF m 268 (Sh13 q1 q2 1 1 b10 b14 b18 b21 20000 1 1 1) [(.int (lcmpW (20000 : Int64) (20000 : Int64)))]) (fun t k => XS.lcmp X395.here hx rfl (hb hby at_267) rfl k) ?_
                      refine GoW.sg (mkF m 271 (Sh13 q1 q2 1 1 b10 b14 b18 b21 20000 1 1 1) []) (fun t k => XS.ifNo X395.here hx rfl (hb hby at_268) rfl (by decide) k) ?_
                      refine GoW.sg (mkF m 272 (Sh13 q1 q2 1 1 b10 b14 b18 b21 20000 1 1 1) [(.int 1)]) (fun t k => XS.iconst X395.here hx rfl (hb hby at_271) k) ?_
                      refine GoW.sg (mkF m 276 (Sh13 q1 q2 1 1 b10 b14 b18 b21 20000 1 1 1) [(.int 1)]) (fun t k => XS.goto X395.here hx rfl (pc0 := 272) (pc' := 276) rfl (hb hby at_272) (by decide) (by decide) k) ?_
                      refine GoW.retN X395 hx (t := .boolean) Bd.returns (by simp) (hb hby at_276) Bd.notSynchronized ?_ (by decide) (by decide)
                      exact ⟨rfl, N395⟩
                · show GoW p e below s (ValQ (.int (1 : Int32)) n0) room_1.cells room_1.slots (T338.setTop (mkF m 136 (Sh6 q1 q2 b2 b6 b10 b14 b18 b21) []))
                  rcases own_01 hb2 with cc | cc
                  · subst cc
                    show GoW p e below s (ValQ (.int (1 : Int32)) n0) room_1.cells room_1.slots (T338.setTop (mkF m 136 (Sh6 q1 q2 0 b6 b10 b14 b18 b21) []))
                    rcases own_01 hb6 with cc | cc
                    · subst cc
                      show GoW p e below s (ValQ (.int (1 : Int32)) n0) room_1.cells room_1.slots (T338.setTop (mkF m 136 (Sh6 q1 q2 0 0 b10 b14 b18 b21) []))
                      refine GoW.sg (mkF m 138 (Sh6 q1 q2 0 0 b10 b14 b18 b21) [(.ref b21)]) (fun t k => XS.aload X338.here hx rfl (hb hby at_136) rfl rfl k) ?_
                      refine GoW.sg (mkF m 139 (Sh6 q1 q2 0 0 b10 b14 b18 b21) [(.int 0), (.ref b21)]) (fun t k => XS.iloadN X338.here hx rfl (hb hby at_138) rfl k) ?_
                      refine GoW.sg (mkF m 141 (Sh6 q1 q2 0 0 b10 b14 b18 b21) [(.int 0), (.int 0), (.ref b21)]) (fun t k => XS.iload X338.here hx rfl (hb hby at_139) rfl k) ?_
                      refine GoW.sg (mkF m 143 (Sh6 q1 q2 0 0 b10 b14 b18 b21) [(.long b18), (.int 0), (.int 0), (.ref b21)]) (fun t k => XS.lload X338.here hx rfl (hb hby at_141) rfl k) ?_
                      obtain ⟨cq404, kq404, q404a, q404b, q404c⟩ := isOf hZ rfl p338_0
                      obtain ⟨_, _, ⟨T404, L404, k404, n404⟩, -, X404, ⟨Lc404, hQ404, l404, y404, z404⟩, st404⟩ := X338.virtualBack hx (y := (⟨"com/example/spindle/spindle/SpinRule", "countWait", "(ZZJ)V"⟩ : MethodName)) (z := (⟨"com/example/spindle/spindle/SpinRule", "countWait", "(ZZJ)V"⟩ : MethodName)) hown (mvT hZ (ww hw 35 rfl)) (mvT hZ (ww hw 36 rfl)) (notFace_of_selects (args := #[]) (mvT hZ (ww hw 38 rfl))) (mvT hZ (ww hw 38 rfl)) (mvT hZ (ww hw 37 rfl)) (by decide) (backOf (W := 0) (rm6_46 l Z a0 hw [] b21 b18  T338.heap n0  p338_0 p338_1 p338_2 p338_3 g_b21  c339 ) hZ (ww hw 39 rfl) (ww hw 4 rfl) (by decide) (by decide)) q404a q404c (g := (mkF m 143 (Sh6 q1 q2 0 0 b10 b14 b18 b21) [(.long b18), (.int 0), (.int 0), (.ref b21)])) rfl (by rw [hml]; rfl) (Steps.refl _) (argsL := [(.int (0 : Int32)), (.int (0 : Int32)), (.long b18)]) (rest := []) (lenOf pd_28ZZJ29V rfl) rfl (by show 2 * 0 + _ ≤ _; exact Nat.le_of_eq rfl) (hb hby at_143) (fun _ _ => ⟨rfl, rfl, (by decide : 1 + 0 ≤ _), (by decide : 3 + 0 ≤ _)⟩)
                      dsimp only [Pt.U, Pt.locs, Pt.cells, Pt.slots] at X404 l404 y404 z404 st404 hQ404
                      subst l404 y404 z404
                      obtain ⟨rfl, N404q, K404, p404_0, p404_1, p404_2, p404_3⟩ := hQ404
                      have N404 := Fr.app N338 N404q
                      have Zs_404 : n0 ≤ T404.heap.size := Nat.le_trans Zs_338 K404.1
                      refine GoW.sg (mkF m 146 (Sh6 q1 q2 0 0 b10 b14 b18 b21) []) (fun t k => st404.trans k) ?_
                      refine GoW.sg (mkF m 148 (Sh6 q1 q2 0 0 b10 b14 b18 b21) [(.ref b21)]) (fun t k => XS.aload X404.here hx rfl (hb hby at_146) rfl rfl k) ?_
                      obtain ⟨cq405, kq405, q405a, q405b, q405c⟩ := isOf hZ rfl p404_0
                      obtain ⟨_, _, ⟨T405, L405, k405, n405⟩, -, X405, ⟨Lc405, hQ405, l405, y405, z405⟩, st405⟩ := X404.virtualBack hx (y := (⟨"com/example/spindle/spindle/SpinRule", "handedOn", "()V"⟩ : MethodName)) (z := (⟨"com/example/spindle/spindle/SpinRule", "handedOn", "()V"⟩ : MethodName)) hown (mvT hZ (ww hw 13 rfl)) (mvT hZ (ww hw 14 rfl)) (notFace_of_selects (args := #[]) (mvT hZ (ww hw 16 rfl))) (mvT hZ (ww hw 16 rfl)) (mvT hZ (ww hw 15 rfl)) (by decide) (backOf (W := 0) (rm3_41 l Z a0 hw [] b21  T404.heap n0  p404_0 p404_1 p404_2 p404_3 g_b21   ) hZ (ww hw 17 rfl) (ww hw 4 rfl) (by decide) (by decide)) q405a q405c (g := (mkF m 148 (Sh6 q1 q2 0 0 b10 b14 b18 b21) [(.ref b21)])) rfl (by rw [hml]; rfl) (Steps.refl _) (argsL := []) (rest := []) (lenOf pd_2829V rfl) rfl (by show 2 * 0 + _ ≤ _; exact Nat.le_of_eq rfl) (hb hby at_148) (fun _ _ => ⟨rfl, rfl, (by decide : 1 + 0 ≤ _), (by decide : 3 + 0 ≤ _)⟩)
                      dsimp only [Pt.U, Pt.locs, Pt.cells, Pt.slots] at X405 l405 y405 z405 st405 hQ405
                      subst l405 y405 z405
                      obtain ⟨rfl, N405q, K405, p405_0, p405_1, p405_2, p405_3⟩ := hQ405
                      have N405 := Fr.app N404 N405q
                      have Zs_405 : n0 ≤ T405.heap.size := Nat.le_trans Zs_404 K405.1
                      refine GoW.sg (mkF m 151 (Sh6 q1 q2 0 0 b10 b14 b18 b21) []) (fun t k => st405.trans k) ?_
                      refine GoW.sg (mkF m 153 (Sh6 q1 q2 0 0 b10 b14 b18 b21) [(.ref b21)]) (fun t k => XS.aload X405.here hx rfl (hb hby at_151) rfl rfl k) ?_
                      refine GoW.sg (mkF m 156 (Sh6 q1 q2 0 0 b10 b14 b18 b21) [(.long 9223372036854775807), (.ref b21)]) (fun t k => X405.ldc2Long hx hown (mvT hZ (ww hw 20 rfl)) (g := (mkF m 153 (Sh6 q1 q2 0 0 b10 b14 b18 b21) [(.ref b21)])) rfl (hb hby at_153) t k) ?_
                      obtain ⟨cq406, kq406, q406a, q406b, q406c⟩ := isOf hZ rfl p405_0
                      obtain ⟨_, _, ⟨T406, L406, k406, n406⟩, -, X406, ⟨Lc406, hQ406, l406, y406, z406⟩, st406⟩ := X405.virtualBack hx (y := (⟨"com/example/spindle/spindle/SpinRule", "spinNanos", "(J)J"⟩ : MethodName)) (z := (⟨"com/example/spindle/spindle/SpinRule", "spinNanos", "(J)J"⟩ : MethodName)) hown (mvT hZ (ww hw 21 rfl)) (mvT hZ (ww hw 22 rfl)) (notFace_of_selects (args := #[]) (mvT hZ (ww hw 24 rfl))) (mvT hZ (ww hw 24 rfl)) (mvT hZ (ww hw 23 rfl)) (by decide) (backOf (W := 0) (rm4_42 l Z a0 hw [] b21  T405.heap n0  p405_0 p405_1 p405_2 p405_3 g_b21   ) hZ (ww hw 25 rfl) (ww hw 4 rfl) (by decide) (by decide)) q406a q406c (g := (mkF m 156 (Sh6 q1 q2 0 0 b10 b14 b18 b21) [(.long 9223372036854775807), (.ref b21)])) rfl (by rw [hml]; rfl) (Steps.refl _) (argsL := [(.long (9223372036854775807 : Int64))]) (rest := []) (lenOf pd_28J29J rfl) rfl (by show 2 * 0 + _ ≤ _; exact Nat.le_of_eq rfl) (hb hby at_156) (fun _ _ => ⟨rfl, rfl, (by decide : 1 + 0 ≤ _), (by decide : 3 + 0 ≤ _)⟩)
                      dsimp only [Pt.U, Pt.locs, Pt.cells, Pt.slots] at X406 l406 y406 z406 st406 hQ406
                      subst l406 y406 z406
                      obtain ⟨rfl, N406q, K406, p406_0, p406_1, p406_2, p406_3⟩ := hQ406
                      have N406 := Fr.app N405 N406q
                      have Zs_406 : n0 ≤ T406.heap.size := Nat.le_trans Zs_405 K406.1
                      refine GoW.sg (mkF m 159 (Sh6 q1 q2 0 0 b10 b14 b18 b21) [(.long 0)]) (fun t k => st406.trans k) ?_
                      refine GoW.sg (mkF m 161 (Sh10 q1 q2 0 0 b10 b14 b18 b21 0) []) (fun t k => XS.lstore X406.here hx rfl (hb hby at_159) rfl (l' := (Sh10 q1 q2 0 0 b10 b14 b18 b21 0)) rfl k) ?_
                      refine GoW.sg (mkF m 163 (Sh10 q1 q2 0 0 b10 b14 b18 b21 0) [(.int b10)]) (fun t k => XS.iload X406.here hx rfl (hb hby at_161) rfl k) ?_
                      refine GoW.sg (mkF m 166 (Sh10 q1 q2 0 0 b10 b14 b18 b21 0) []) (fun t k => XS.ifNo X406.here hx rfl (hb hby at_163) rfl ((if0 _ _).trans (feq c302).1) k) ?_
                      refine GoW.sg (mkF m 167 (Sh10 q1 q2 0 0 b10 b14 b18 b21 0) [(.int 0)]) (fun t k => XS.iloadN X406.here hx rfl (hb hby at_166) rfl k) ?_
                      refine GoW.sg (mkF m 170 (Sh10 q1 q2 0 0 b10 b14 b18 b21 0) []) (fun t k => XS.ifNo X406.here hx rfl (hb hby at_167) rfl (by decide) k) ?_
                      refine GoW.sg (mkF m 172 (Sh10 q1 q2 0 0 b10 b14 b18 b21 0) [(.long b18)]) (fun t k => XS.lload X406.here hx rfl (hb hby at_170) rfl k) ?_
                      refine GoW.sg (mkF m 175 (Sh10 q1 q2 0 0 b10 b14 b18 b21 0) [(.long 20000), (.long b18)]) (fun t k => X406.ldc2Long hx hown (mvT hZ (ww hw 34 rfl)) (g := (mkF m 172 (Sh10 q1 q2 0 0 b10 b14 b18 b21 0) [(.long b18)])) rfl (hb hby at_172) t k) ?_
                      refine GoW.sg (mkF m 176 (Sh10 q1 q2 0 0 b10 b14 b18 b21 0) [(.int (lcmpW b18 (20000 : Int64)))]) (fun t k => XS.lcmp X406.here hx rfl (hb hby at_175) rfl k) ?_
                      refine GoW.sg (mkF m 179 (Sh10 q1 q2 0 0 b10 b14 b18 b21 0) []) (fun t k => XS.ifNo X406.here hx rfl (hb hby at_176) rfl ((if0 _ _).trans (flt (mt (lw_lt _ _).mp c339)).1) k) ?_
                      refine GoW.sg (mkF m 180 (Sh10 q1 q2 0 0 b10 b14 b18 b21 0) [(.int 1)]) (fun t k => XS.iconst X406.here hx rfl (hb hby at_179) k) ?_
                      refine GoW.sg (mkF m 184 (Sh10 q1 q2 0 0 b10 b14 b18 b21 0) [(.int 1)]) (fun t k => XS.goto X406.here hx rfl (pc0 := 180) (pc' := 184) rfl (hb hby at_180) (by decide) (by decide) k) ?_
                      refine GoW.sg (mkF m 186 (Sh11 q1 q2 0 0 b10 b14 b18 b21 0 1) []) (fun t k => XS.istore X406.here hx rfl (hb hby at_184) rfl (l' := (Sh11 q1 q2 0 0 b10 b14 b18 b21 0 1)) rfl k) ?_
                      refine GoW.sg (mkF m 187 (Sh11 q1 q2 0 0 b10 b14 b18 b21 0 1) [(.int 0)]) (fun t k => XS.iloadN X406.here hx rfl (hb hby at_186) rfl k) ?_
                      refine GoW.sg (mkF m 208 (Sh11 q1 q2 0 0 b10 b14 b18 b21 0 1) []) (fun t k => XS.ifYes X406.here hx rfl (pc0 := 187) (pc' := 208) rfl (hb hby at_187) rfl (by decide) (by decide) (by decide) k) ?_
                      refine GoW.sg (mkF m 209 (Sh11 q1 q2 0 0 b10 b14 b18 b21 0 1) [(.int 0)]) (fun t k => XS.iconst X406.here hx rfl (hb hby at_208) k) ?_
                      refine GoW.sg (mkF m 211 (Sh12 q1 q2 0 0 b10 b14 b18 b21 0 1 0) []) (fun t k => XS.istore X406.here hx rfl (hb hby at_209) rfl (l' := (Sh12 q1 q2 0 0 b10 b14 b18 b21 0 1 0)) rfl k) ?_
                      refine GoW.sg (mkF m 213 (Sh12 q1 q2 0 0 b10 b14 b18 b21 0 1 0) [(.int b14)]) (fun t k => XS.iload X406.here hx rfl (hb hby at_211) rfl k) ?_
                      refine GoW.sg (mkF m 216 (Sh12 q1 q2 0 0 b10 b14 b18 b21 0 1 0) []) (fun t k => XS.ifNo X406.here hx rfl (hb hby at_213) rfl ((if0 _ _).trans (feq c142).1) k) ?_
                      refine GoW.sg (mkF m 218 (Sh12 q1 q2 0 0 b10 b14 b18 b21 0 1 0) [(.int 1)]) (fun t k => XS.iload X406.here hx rfl (hb hby at_216) rfl k) ?_
                      refine GoW.sg (mkF m 221 (Sh12 q1 q2 0 0 b10 b14 b18 b21 0 1 0) []) (fun t k => XS.ifNo X406.here hx rfl (hb hby at_218) rfl (by decide) k) ?_
                      refine GoW.sg (mkF m 223 (Sh12 q1 q2 0 0 b10 b14 b18 b21 0 1 0) [(.int 0)]) (fun t k => XS.iload X406.here hx rfl (hb hby at_221) rfl k) ?_
                      refine GoW.sg (mkF m 230 (Sh12 q1 q2 0 0 b10 b14 b18 b21 0 1 0) []) (fun t k => XS.ifYes X406.here hx rfl (pc0 := 223) (pc' := 230) rfl (hb hby at_223) rfl (by decide) (by decide) (by decide) k) ?_
                      refine GoW.sg (mkF m 231 (Sh12 q1 q2 0 0 b10 b14 b18 b21 0 1 0) [(.int 0)]) (fun t k => XS.iconst X406.here hx rfl (hb hby at_230) k) ?_
                      refine GoW.sg (mkF m 233 (Sh13 q1 q2 0 0 b10 b14 b18 b21 0 1 0 0) []) (fun t k => XS.istore X406.here hx rfl (hb hby at_231) rfl (l' := (Sh13 q1 q2 0 0 b10 b14 b18 b21 0 1 0 0)) rfl k) ?_
                      refine GoW.sg (mkF m 253 (Sh13 q1 q2 0 0 b10 b14 b18 b21 0 1 0 0) []) (fun t k => XS.goto X406.here hx rfl (pc0 := 233) (pc' := 253) rfl (hb hby at_233) (by decide) (by decide) k) ?_
                      refine GoW.sg (mkF m 255 (Sh13 q1 q2 0 0 b10 b14 b18 b21 0 1 0 0) [(.long 0)]) (fun t k => XS.lload X406.here hx rfl (hb hby at_253) rfl k) ?_
                      refine GoW.sg (mkF m 257 (Sh13 q1 q2 0 0 b10 b14 b18 b21 0 1 0 0) [(.int 0), (.long 0)]) (fun t k => XS.iload X406.here hx rfl (hb hby at_255) rfl k) ?_
                      refine GoW.sg (mkF m 266 (Sh13 q1 q2 0 0 b10 b14 b18 b21 0 1 0 0) [(.long 0)]) (fun t k => XS.ifYes X406.here hx rfl (pc0 := 257) (pc' := 266) rfl (hb hby at_257) rfl (by decide) (by decide) (by decide) k) ?_
                      refine GoW.sg (mkF m 267 (Sh13 q1 q2 0 0 b10 b14 b18 b21 0 1 0 0) [(.long 0), (.long 0)]) (fun t k => XS.lconst X406.here hx rfl (hb hby at_266) k) ?_
                      refine GoW.sg (mkF m 268 (Sh13 q1 q2 0 0 b10 b14 b18 b21 0 1 0 0) [(.int (lcmpW (0 : Int64) (0 : Int64)))]) (fun t k => XS.lcmp X406.here hx rfl (hb hby at_267) rfl k) ?_
                      refine GoW.sg (mkF m 271 (Sh13 q1 q2 0 0 b10 b14 b18 b21 0 1 0 0) []) (fun t k => XS.ifNo X406.here hx rfl (hb hby at_268) rfl (by decide) k) ?_
                      refine GoW.sg (mkF m 272 (Sh13 q1 q2 0 0 b10 b14 b18 b21 0 1 0 0) [(.int 1)]) (fun t k => XS.iconst X406.here hx rfl (hb hby at_271) k) ?_
                      refine GoW.sg (mkF m 276 (Sh13 q1 q2 0 0 b10 b14 b18 b21 0 1 0 0) [(.int 1)]) (fun t k => XS.goto X406.here hx rfl (pc0 := 272) (pc' := 276) rfl (hb hby at_272) (by decide) (by decide) k) ?_
                      refine GoW.retN X406 hx (t := .boolean) Bd.returns (by simp) (hb hby at_276) Bd.notSynchronized ?_ (by decide) (by decide)
                      exact ⟨rfl, N406⟩
                    · subst cc
                      show GoW p e below s (ValQ (.int (1 : Int32)) n0) room_1.cells room_1.slots (T338.setTop (mkF m 136 (Sh6 q1 q2 0 1 b10 b14 b18 b21) []))
                      refine GoW.sg (mkF m 138 (Sh6 q1 q2 0 1 b10 b14 b18 b21) [(.ref b21)]) (fun t k => XS.aload X338.here hx rfl (hb hby at_136) rfl rfl k) ?_
                      refine GoW.sg (mkF m 139 (Sh6 q1 q2 0 1 b10 b14 b18 b21) [(.int 0), (.ref b21)]) (fun t k => XS.iloadN X338.here hx rfl (hb hby at_138) rfl k) ?_
                      refine GoW.sg (mkF m 141 (Sh6 q1 q2 0 1 b10 b14 b18 b21) [(.int 1), (.int 0), (.ref b21)]) (fun t k => XS.iload X338.here hx rfl (hb hby at_139) rfl k) ?_
                      refine GoW.sg (mkF m 143 (Sh6 q1 q2 0 1 b10 b14 b18 b21) [(.long b18), (.int 1), (.int 0), (.ref b21)]) (fun t k => XS.lload X338.here hx rfl (hb hby at_141) rfl k) ?_
                      obtain ⟨cq415, kq415, q415a, q415b, q415c⟩ := isOf hZ rfl p338_0
                      obtain ⟨_, _, ⟨T415, L415, k415, n415⟩, -, X415, ⟨Lc415, hQ415, l415, y415, z415⟩, st415⟩ := X338.virtualBack hx (y := (⟨"com/example/spindle/spindle/SpinRule", "countWait", "(ZZJ)V"⟩ : MethodName)) (z := (⟨"com/example/spindle/spindle/SpinRule", "countWait", "(ZZJ)V"⟩ : MethodName)) hown (mvT hZ (ww hw 35 rfl)) (mvT hZ (ww hw 36 rfl)) (notFace_of_selects (args := #[]) (mvT hZ (ww hw 38 rfl))) (mvT hZ (ww hw 38 rfl)) (mvT hZ (ww hw 37 rfl)) (by decide) (backOf (W := 0) (rm6_47 l Z a0 hw [] b21 b18  T338.heap n0  p338_0 p338_1 p338_2 p338_3 g_b21  c339 ) hZ (ww hw 39 rfl) (ww hw 4 rfl) (by decide) (by decide)) q415a q415c (g := (mkF m 143 (Sh6 q1 q2 0 1 b10 b14 b18 b21) [(.long b18), (.int 1), (.int 0), (.ref b21)])) rfl (by rw [hml]; rfl) (Steps.refl _) (argsL := [(.int (0 : Int32)), (.int (1 : Int32)), (.long b18)]) (rest := []) (lenOf pd_28ZZJ29V rfl) rfl (by show 2 * 0 + _ ≤ _; exact Nat.le_of_eq rfl) (hb hby at_143) (fun _ _ => ⟨rfl, rfl, (by decide : 1 + 0 ≤ _), (by decide : 3 + 0 ≤ _)⟩)
                      dsimp only [Pt.U, Pt.locs, Pt.cells, Pt.slots] at X415 l415 y415 z415 st415 hQ415
                      subst l415 y415 z415
                      obtain ⟨rfl, N415q, K415, p415_0, p415_1, p415_2, p415_3⟩ := hQ415
                      have N415 := Fr.app N338 N415q
                      have Zs_415 : n0 ≤ T415.heap.size := Nat.le_trans Zs_338 K415.1
                      refine GoW.sg (mkF m 146 (Sh6 q1 q2 0 1 b10 b14 b18 b21) []) (fun t k => st415.trans k) ?_
                      refine GoW.sg (mkF m 148 (Sh6 q1 q2 0 1 b10 b14 b18 b21) [(.ref b21)]) (fun t k => XS.aload X415.here hx rfl (hb hby at_146) rfl rfl k) ?_
                      obtain ⟨cq416, kq416, q416a, q416b, q416c⟩ := isOf hZ rfl p415_0
                      obtain ⟨_, _, ⟨T416, L416, k416, n416⟩, -, X416, ⟨Lc416, hQ416, l416, y416, z416⟩, st416⟩ := X415.virtualBack hx (y := (⟨"com/example/spindle/spindle/SpinRule", "handedOn", "()V"⟩ : MethodName)) (z := (⟨"com/example/spindle/spindle/SpinRule", "handedOn", "()V"⟩ : MethodName)) hown (mvT hZ (ww hw 13 rfl)) (mvT hZ (ww hw 14 rfl)) (notFace_of_selects (args := #[]) (mvT hZ (ww hw 16 rfl))) (mvT hZ (ww hw 16 rfl)) (mvT hZ (ww hw 15 rfl)) (by decide) (backOf (W := 0) (rm3_41 l Z a0 hw [] b21  T415.heap n0  p415_0 p415_1 p415_2 p415_3 g_b21   ) hZ (ww hw 17 rfl) (ww hw 4 rfl) (by decide) (by decide)) q416a q416c (g := (mkF m 148 (Sh6 q1 q2 0 1 b10 b14 b18 b21) [(.ref b21)])) rfl (by rw [hml]; rfl) (Steps.refl _) (argsL := []) (rest := []) (lenOf pd_2829V rfl) rfl (by show 2 * 0 + _ ≤ _; exact Nat.le_of_eq rfl) (hb hby at_148) (fun _ _ => ⟨rfl, rfl, (by decide : 1 + 0 ≤ _), (by decide : 3 + 0 ≤ _)⟩)
                      dsimp only [Pt.U, Pt.locs, Pt.cells, Pt.slots] at X416 l416 y416 z416 st416 hQ416
                      subst l416 y416 z416
                      obtain ⟨rfl, N416q, K416, p416_0, p416_1, p416_2, p416_3⟩ := hQ416
                      have N416 := Fr.app N415 N416q
                      have Zs_416 : n0 ≤ T416.heap.size := Nat.le_trans Zs_415 K416.1
                      refine GoW.sg (mkF m 151 (Sh6 q1 q2 0 1 b10 b14 b18 b21) []) (fun t k => st416.trans k) ?_
                      refine GoW.sg (mkF m 153 (Sh6 q1 q2 0 1 b10 b14 b18 b21) [(.ref b21)]) (fun t k => XS.aload X416.here hx rfl (hb hby at_151) rfl rfl k) ?_
                      refine GoW.sg (mkF m 156 (Sh6 q1 q2 0 1 b10 b14 b18 b21) [(.long 9223372036854775807), (.ref b21)]) (fun t k => X416.ldc2Long hx hown (mvT hZ (ww hw 20 rfl)) (g := (mkF m 153 (Sh6 q1 q2 0 1 b10 b14 b18 b21) [(.ref b21)])) rfl (hb hby at_153) t k) ?_
                      obtain ⟨cq417, kq417, q417a, q417b, q417c⟩ := isOf hZ rfl p416_0
                      obtain ⟨_, _, ⟨T417, L417, k417, n417⟩, -, X417, ⟨Lc417, hQ417, l417, y417, z417⟩, st417⟩ := X416.virtualBack hx (y := (⟨"com/example/spindle/spindle/SpinRule", "spinNanos", "(J)J"⟩ : MethodName)) (z := (⟨"com/example/spindle/spindle/SpinRule", "spinNanos", "(J)J"⟩ : MethodName)) hown (mvT hZ (ww hw 21 rfl)) (mvT hZ (ww hw 22 rfl)) (notFace_of_selects (args := #[]) (mvT hZ (ww hw 24 rfl))) (mvT hZ (ww hw 24 rfl)) (mvT hZ (ww hw 23 rfl)) (by decide) (backOf (W := 0) (rm4_42 l Z a0 hw [] b21  T416.heap n0  p416_0 p416_1 p416_2 p416_3 g_b21   ) hZ (ww hw 25 rfl) (ww hw 4 rfl) (by decide) (by decide)) q417a q417c (g := (mkF m 156 (Sh6 q1 q2 0 1 b10 b14 b18 b21) [(.long 9223372036854775807), (.ref b21)])) rfl (by rw [hml]; rfl) (Steps.refl _) (argsL := [(.long (9223372036854775807 : Int64))]) (rest := []) (lenOf pd_28J29J rfl) rfl (by show 2 * 0 + _ ≤ _; exact Nat.le_of_eq rfl) (hb hby at_156) (fun _ _ => ⟨rfl, rfl, (by decide : 1 + 0 ≤ _), (by decide : 3 + 0 ≤ _)⟩)
                      dsimp only [Pt.U, Pt.locs, Pt.cells, Pt.slots] at X417 l417 y417 z417 st417 hQ417
                      subst l417 y417 z417
                      obtain ⟨rfl, N417q, K417, p417_0, p417_1, p417_2, p417_3⟩ := hQ417
                      have N417 := Fr.app N416 N417q
                      have Zs_417 : n0 ≤ T417.heap.size := Nat.le_trans Zs_416 K417.1
                      refine GoW.sg (mkF m 159 (Sh6 q1 q2 0 1 b10 b14 b18 b21) [(.long 0)]) (fun t k => st417.trans k) ?_
                      refine GoW.sg (mkF m 161 (Sh10 q1 q2 0 1 b10 b14 b18 b21 0) []) (fun t k => XS.lstore X417.here hx rfl (hb hby at_159) rfl (l' := (Sh10 q1 q2 0 1 b10 b14 b18 b21 0)) rfl k) ?_
                      refine GoW.sg (mkF m 163 (Sh10 q1 q2 0 1 b10 b14 b18 b21 0) [(.int b10)]) (fun t k => XS.iload X417.here hx rfl (hb hby at_161) rfl k) ?_
                      refine GoW.sg (mkF m 166 (Sh10 q1 q2 0 1 b10 b14 b18 b21 0) []) (fun t k => XS.ifNo X417.here hx rfl (hb hby at_163) rfl ((if0 _ _).trans (feq c302).1) k) ?_
                      refine GoW.sg (mkF m 167 (Sh10 q1 q2 0 1 b10 b14 b18 b21 0) [(.int 0)]) (fun t k => XS.iloadN X417.here hx rfl (hb hby at_166) rfl k) ?_
                      refine GoW.sg (mkF m 170 (Sh10 q1 q2 0 1 b10 b14 b18 b21 0) []) (fun t k => XS.ifNo X417.here hx rfl (hb hby at_167) rfl (by decide) k) ?_
                      refine GoW.sg (mkF m 172 (Sh10 q1 q2 0 1 b10 b14 b18 b21 0) [(.long b18)]) (fun t k => XS.lload X417.here hx rfl (hb hby at_170) rfl k) ?_
                      refine GoW.sg (mkF m 175 (Sh10 q1 q2 0 1 b10 b14 b18 b21 0) [(.long 20000), (.long b18)]) (fun t k => X417.ldc2Long hx hown (mvT hZ (ww hw 34 rfl)) (g := (mkF m 172 (Sh10 q1 q2 0 1 b10 b14 b18 b21 0) [(.long b18)])) rfl (hb hby at_172) t k) ?_
                      refine GoW.sg (mkF m 176 (Sh10 q1 q2 0 1 b10 b14 b18 b21 0) [(.int (lcmpW b18 (20000 : Int64)))]) (fun t k => XS.lcmp X417.here hx rfl (hb hby at_175) rfl k) ?_
                      refine GoW.sg (mkF m 179 (Sh10 q1 q2 0 1 b10 b14 b18 b21 0) []) (fun t k => XS.ifNo X417.here hx rfl (hb hby at_176) rfl ((if0 _ _).trans (flt (mt (lw_lt _ _).mp c339)).1) k) ?_
                      refine GoW.sg (mkF m 180 (Sh10 q1 q2 0 1 b10 b14 b18 b21 0) [(.int 1)]) (fun t k => XS.iconst X417.here hx rfl (hb hby at_179) k) ?_
                      refine GoW.sg (mkF m 184 (Sh10 q1 q2 0 1 b10 b14 b18 b21 0) [(.int 1)]) (fun t k => XS.goto X417.here hx rfl (pc0 := 180) (pc' := 184) rfl (hb hby at_180) (by decide) (by decide) k) ?_
                      refine GoW.sg (mkF m 186 (Sh11 q1 q2 0 1 b10 b14 b18 b21 0 1) []) (fun t k => XS.istore X417.here hx rfl (hb hby at_184) rfl (l' := (Sh11 q1 q2 0 1 b10 b14 b18 b21 0 1)) rfl k) ?_
                      refine GoW.sg (mkF m 187 (Sh11 q1 q2 0 1 b10 b14 b18 b21 0 1) [(.int 0)]) (fun t k => XS.iloadN X417.here hx rfl (hb hby at_186) rfl k) ?_
                      refine GoW.sg (mkF m 208 (Sh11 q1 q2 0 1 b10 b14 b18 b21 0 1) []) (fun t k => XS.ifYes X417.here hx rfl (pc0 := 187) (pc' := 208) rfl (hb hby at_187) rfl (by decide) (by decide) (by decide) k) ?_
                      refine GoW.sg (mkF m 209 (Sh11 q1 q2 0 1 b10 b14 b18 b21 0 1) [(.int 0)]) (fun t k => XS.iconst X417.here hx rfl (hb hby at_208) k) ?_
                      refine GoW.sg (mkF m 211 (Sh12 q1 q2 0 1 b10 b14 b18 b21 0 1 0) []) (fun t k => XS.istore X417.here hx rfl (hb hby at_209) rfl (l' := (Sh12 q1 q2 0 1 b10 b14 b18 b21 0 1 0)) rfl k) ?_
                      refine GoW.sg (mkF m 213 (Sh12 q1 q2 0 1 b10 b14 b18 b21 0 1 0) [(.int b14)]) (fun t k => XS.iload X417.here hx rfl (hb hby at_211) rfl k) ?_
                      refine GoW.sg (mkF m 216 (Sh12 q1 q2 0 1 b10 b14 b18 b21 0 1 0) []) (fun t k => XS.ifNo X417.here hx rfl (hb hby at_213) rfl ((if0 _ _).trans (feq c142).1) k) ?_
                      refine GoW.sg (mkF m 218 (Sh12 q1 q2 0 1 b10 b14 b18 b21 0 1 0) [(.int 1)]) (fun t k => XS.iload X417.here hx rfl (hb hby at_216) rfl k) ?_
                      refine GoW.sg (mkF m 221 (Sh12 q1 q2 0 1 b10 b14 b18 b21 0 1 0) []) (fun t k => XS.ifNo X417.here hx rfl (hb hby at_218) rfl (by decide) k) ?_
                      refine GoW.sg (mkF m 223 (Sh12 q1 q2 0 1 b10 b14 b18 b21 0 1 0) [(.int 0)]) (fun t k => XS.iload X417.here hx rfl (hb hby at_221) rfl k) ?_
                      refine GoW.sg (mkF m 230 (Sh12 q1 q2 0 1 b10 b14 b18 b21 0 1 0) []) (fun t k => XS.ifYes X417.here hx rfl (pc0 := 223) (pc' := 230) rfl (hb hby at_223) rfl (by decide) (by decide) (by decide) k) ?_
                      refine GoW.sg (mkF m 231 (Sh12 q1 q2 0 1 b10 b14 b18 b21 0 1 0) [(.int 0)]) (fun t k => XS.iconst X417.here hx rfl (hb hby at_230) k) ?_
                      refine GoW.sg (mkF m 233 (Sh13 q1 q2 0 1 b10 b14 b18 b21 0 1 0 0) []) (fun t k => XS.istore X417.here hx rfl (hb hby at_231) rfl (l' := (Sh13 q1 q2 0 1 b10 b14 b18 b21 0 1 0 0)) rfl k) ?_
                      refine GoW.sg (mkF m 253 (Sh13 q1 q2 0 1 b10 b14 b18 b21 0 1 0 0) []) (fun t k => XS.goto X417.here hx rfl (pc0 := 233) (pc' := 253) rfl (hb hby at_233) (by decide) (by decide) k) ?_
                      refine GoW.sg (mkF m 255 (Sh13 q1 q2 0 1 b10 b14 b18 b21 0 1 0 0) [(.long 0)]) (fun t k => XS.lload X417.here hx rfl (hb hby at_253) rfl k) ?_
                      refine GoW.sg (mkF m 257 (Sh13 q1 q2 0 1 b10 b14 b18 b21 0 1 0 0) [(.int 0), (.long 0)]) (fun t k => XS.iload X417.here hx rfl (hb hby at_255) rfl k) ?_
                      refine GoW.sg (mkF m 266 (Sh13 q1 q2 0 1 b10 b14 b18 b21 0 1 0 0) [(.long 0)]) (fun t k => XS.ifYes X417.here hx rfl (pc0 := 257) (pc' := 266) rfl (hb hby at_257) rfl (by decide) (by decide) (by decide) k) ?_
                      refine GoW.sg (mkF m 267 (Sh13 q1 q2 0 1 b10 b14 b18 b21 0 1 0 0) [(.long 0), (.long 0)]) (fun t k => XS.lconst X417.here hx rfl (hb hby at_266) k) ?_
                      refine GoW.sg (mkF m 268 (Sh13 q1 q2 0 1 b10 b14 b18 b21 0 1 0 0) [(.int (lcmpW (0 : Int64) (0 : Int64)))]) (fun t k => XS.lcmp X417.here hx rfl (hb hby at_267) rfl k) ?_
                      refine GoW.sg (mkF m 271 (Sh13 q1 q2 0 1 b10 b14 b18 b21 0 1 0 0) []) (fun t k => XS.ifNo X417.here hx rfl (hb hby at_268) rfl (by decide) k) ?_
                      refine GoW.sg (mkF m 272 (Sh13 q1 q2 0 1 b10 b14 b18 b21 0 1 0 0) [(.int 1)]) (fun t k => XS.iconst X417.here hx rfl (hb hby at_271) k) ?_
                      refine GoW.sg (mkF m 276 (Sh13 q1 q2 0 1 b10 b14 b18 b21 0 1 0 0) [(.int 1)]) (fun t k => XS.goto X417.here hx rfl (pc0 := 272) (pc' := 276) rfl (hb hby at_272) (by decide) (by decide) k) ?_
                      refine GoW.retN X417 hx (t := .boolean) Bd.returns (by simp) (hb hby at_276) Bd.notSynchronized ?_ (by decide) (by decide)
                      exact ⟨rfl, N417⟩
                  · subst cc
                    show GoW p e below s (ValQ (.int (1 : Int32)) n0) room_1.cells room_1.slots (T338.setTop (mkF m 136 (Sh6 q1 q2 1 b6 b10 b14 b18 b21) []))
                    rcases own_01 hb6 with cc | cc
                    · subst cc
                      show GoW p e below s (ValQ (.int (1 : Int32)) n0) room_1.cells room_1.slots (T338.setTop (mkF m 136 (Sh6 q1 q2 1 0 b10 b14 b18 b21) []))
                      refine GoW.sg (mkF m 138 (Sh6 q1 q2 1 0 b10 b14 b18 b21) [(.ref b21)]) (fun t k => XS.aload X338.here hx rfl (hb hby at_136) rfl rfl k) ?_
                      refine GoW.sg (mkF m 139 (Sh6 q1 q2 1 0 b10 b14 b18 b21) [(.int 1), (.ref b21)]) (fun t k => XS.iloadN X338.here hx rfl (hb hby at_138) rfl k) ?_
                      refine GoW.sg (mkF m 141 (Sh6 q1 q2 1 0 b10 b14 b18 b21) [(.int 0), (.int 1), (.ref b21)]) (fun t k => XS.iload X338.here hx rfl (hb hby at_139) rfl k) ?_
                      refine GoW.sg (mkF m 143 (Sh6 q1 q2 1 0 b10 b14 b18 b21) [(.long b18), (.int 0), (.int 1), (.ref b21)]) (fun t k => XS.lload X338.here hx rfl (hb hby at_141) rfl k) ?_
                      obtain ⟨cq426, kq426, q426a, q426b, q426c⟩ := isOf hZ rfl p338_0
                      obtain ⟨_, _, ⟨T426, L426, k426, n426⟩, -, X426, ⟨Lc426, hQ426, l426, y426, z426⟩, st426⟩ := X338.virtualBack hx (y := (⟨"com/example/spindle/spindle/SpinRule", "countWait", "(ZZJ)V"⟩ : MethodName)) (z := (⟨"com/example/spindle/spindle/SpinRule", "countWait", "(ZZJ)V"⟩ : MethodName)) hown (mvT hZ (ww hw 35 rfl)) (mvT hZ (ww hw 36 rfl)) (notFace_of_selects (args := #[]) (mvT hZ (ww hw 38 rfl))) (mvT hZ (ww hw 38 rfl)) (mvT hZ (ww hw 37 rfl)) (by decide) (backOf (W := 0) (rm6_48 l Z a0 hw [] b21 b18  T338.heap n0  p338_0 p338_1 p338_2 p338_3 g_b21  c339 ) hZ (ww hw 39 rfl) (ww hw 4 rfl) (by decide) (by decide)) q426a q426c (g := (mkF m 143 (Sh6 q1 q2 1 0 b10 b14 b18 b21) [(.long b18), (.int 0), (.int 1), (.ref b21)])) rfl (by rw [hml]; rfl) (Steps.refl _) (argsL := [(.int (1 : Int32)), (.int (0 : Int32)), (.long b18)]) (rest := []) (lenOf pd_28ZZJ29V rfl) rfl (by show 2 * 0 + _ ≤ _; exact Nat.le_of_eq rfl) (hb hby at_143) (fun _ _ => ⟨rfl, rfl, (by decide : 1 + 0 ≤ _), (by decide : 3 + 0 ≤ _)⟩)
                      dsimp only [Pt.U, Pt.locs, Pt.cells, Pt.slots] at X426 l426 y426 z426 st426 hQ426
                      subst l426 y426 z426
                      obtain ⟨rfl, N426q, K426, p426_0, p426_1, p426_2, p426_3⟩ := hQ426
                      have N426 := Fr.app N338 N426q
                      have Zs_426 : n0 ≤ T426.heap.size := Nat.le_trans Zs_338 K426.1
                      refine GoW.sg (mkF m 146 (Sh6 q1 q2 1 0 b10 b14 b18 b21) []) (fun t k => st426.trans k) ?_
                      refine GoW.sg (mkF m 148 (Sh6 q1 q2 1 0 b10 b14 b18 b21) [(.ref b21)]) (fun t k => XS.aload X426.here hx rfl (hb hby at_146) rfl rfl k) ?_
                      obtain ⟨cq427, kq427, q427a, q427b, q427c⟩ := isOf hZ rfl p426_0
                      obtain ⟨_, _, ⟨T427, L427, k427, n427⟩, -, X427, ⟨Lc427, hQ427, l427, y427, z427⟩, st427⟩ := X426.virtualBack hx (y := (⟨"com/example/spindle/spindle/SpinRule", "handedOn", "()V"⟩ : MethodName)) (z := (⟨"com/example/spindle/spindle/SpinRule", "handedOn", "()V"⟩ : MethodName)) hown (mvT hZ (ww hw 13 rfl)) (mvT hZ (ww hw 14 rfl)) (notFace_of_selects (args := #[]) (mvT hZ (ww hw 16 rfl))) (mvT hZ (ww hw 16 rfl)) (mvT hZ (ww hw 15 rfl)) (by decide) (backOf (W := 0) (rm3_41 l Z a0 hw [] b21  T426.heap n0  p426_0 p426_1 p426_2 p426_3 g_b21   ) hZ (ww hw 17 rfl) (ww hw 4 rfl) (by decide) (by decide)) q427a q427c (g := (mkF m 148 (Sh6 q1 q2 1 0 b10 b14 b18 b21) [(.ref b21)])) rfl (by rw [hml]; rfl) (Steps.refl _) (argsL := []) (rest := []) (lenOf pd_2829V rfl) rfl (by show 2 * 0 + _ ≤ _; exact Nat.le_of_eq rfl) (hb hby at_148) (fun _ _ => ⟨rfl, rfl, (by decide : 1 + 0 ≤ _), (by decide : 3 + 0 ≤ _)⟩)
                      dsimp only [Pt.U, Pt.locs, Pt.cells, Pt.slots] at X427 l427 y427 z427 st427 hQ427
                      subst l427 y427 z427
                      obtain ⟨rfl, N427q, K427, p427_0, p427_1, p427_2, p427_3⟩ := hQ427
                      have N427 := Fr.app N426 N427q
                      have Zs_427 : n0 ≤ T427.heap.size := Nat.le_trans Zs_426 K427.1
                      refine GoW.sg (mkF m 151 (Sh6 q1 q2 1 0 b10 b14 b18 b21) []) (fun t k => st427.trans k) ?_
                      refine GoW.sg (mkF m 153 (Sh6 q1 q2 1 0 b10 b14 b18 b21) [(.ref b21)]) (fun t k => XS.aload X427.here hx rfl (hb hby at_151) rfl rfl k) ?_
                      refine GoW.sg (mkF m 156 (Sh6 q1 q2 1 0 b10 b14 b18 b21) [(.long 9223372036854775807), (.ref b21)]) (fun t k => X427.ldc2Long hx hown (mvT hZ (ww hw 20 rfl)) (g := (mkF m 153 (Sh6 q1 q2 1 0 b10 b14 b18 b21) [(.ref b21)])) rfl (hb hby at_153) t k) ?_
                      obtain ⟨cq428, kq428, q428a, q428b, q428c⟩ := isOf hZ rfl p427_0
                      obtain ⟨_, _, ⟨T428, L428, k428, n428⟩, -, X428, ⟨Lc428, hQ428, l428, y428, z428⟩, st428⟩ := X427.virtualBack hx (y := (⟨"com/example/spindle/spindle/SpinRule", "spinNanos", "(J)J"⟩ : MethodName)) (z := (⟨"com/example/spindle/spindle/SpinRule", "spinNanos", "(J)J"⟩ : MethodName)) hown (mvT hZ (ww hw 21 rfl)) (mvT hZ (ww hw 22 rfl)) (notFace_of_selects (args := #[]) (mvT hZ (ww hw 24 rfl))) (mvT hZ (ww hw 24 rfl)) (mvT hZ (ww hw 23 rfl)) (by decide) (backOf (W := 0) (rm4_42 l Z a0 hw [] b21  T427.heap n0  p427_0 p427_1 p427_2 p427_3 g_b21   ) hZ (ww hw 25 rfl) (ww hw 4 rfl) (by decide) (by decide)) q428a q428c (g := (mkF m 156 (Sh6 q1 q2 1 0 b10 b14 b18 b21) [(.long 9223372036854775807), (.ref b21)])) rfl (by rw [hml]; rfl) (Steps.refl _) (argsL := [(.long (9223372036854775807 : Int64))]) (rest := []) (lenOf pd_28J29J rfl) rfl (by show 2 * 0 + _ ≤ _; exact Nat.le_of_eq rfl) (hb hby at_156) (fun _ _ => ⟨rfl, rfl, (by decide : 1 + 0 ≤ _), (by decide : 3 + 0 ≤ _)⟩)
                      dsimp only [Pt.U, Pt.locs, Pt.cells, Pt.slots] at X428 l428 y428 z428 st428 hQ428
                      subst l428 y428 z428
                      obtain ⟨rfl, N428q, K428, p428_0, p428_1, p428_2, p428_3⟩ := hQ428
                      have N428 := Fr.app N427 N428q
                      have Zs_428 : n0 ≤ T428.heap.size := Nat.le_trans Zs_427 K428.1
                      refine GoW.sg (mkF m 159 (Sh6 q1 q2 1 0 b10 b14 b18 b21) [(.long 0)]) (fun t k => st428.trans k) ?_
                      refine GoW.sg (mkF m 161 (Sh10 q1 q2 1 0 b10 b14 b18 b21 0) []) (fun t k => XS.lstore X428.here hx rfl (hb hby at_159) rfl (l' := (Sh10 q1 q2 1 0 b10 b14 b18 b21 0)) rfl k) ?_
                      refine GoW.sg (mkF m 163 (Sh10 q1 q2 1 0 b10 b14 b18 b21 0) [(.int b10)]) (fun t k => XS.iload X428.here hx rfl (hb hby at_161) rfl k) ?_
                      refine GoW.sg (mkF m 166 (Sh10 q1 q2 1 0 b10 b14 b18 b21 0) []) (fun t k => XS.ifNo X428.here hx rfl (hb hby at_163) rfl ((if0 _ _).trans (feq c302).1) k) ?_
                      refine GoW.sg (mkF m 167 (Sh10 q1 q2 1 0 b10 b14 b18 b21 0) [(.int 1)]) (fun t k => XS.iloadN X428.here hx rfl (hb hby at_166) rfl k) ?_
                      refine GoW.sg (mkF m 179 (Sh10 q1 q2 1 0 b10 b14 b18 b21 0) []) (fun t k => XS.ifYes X428.here hx rfl (pc0 := 167) (pc' := 179) rfl (hb hby at_167) rfl (by decide) (by decide) (by decide) k) ?_
                      refine GoW.sg (mkF m 180 (Sh10 q1 q2 1 0 b10 b14 b18 b21 0) [(.int 1)]) (fun t k => XS.iconst X428.here hx rfl (hb hby at_179) k) ?_
                      refine GoW.sg (mkF m 184 (Sh10 q1 q2 1 0 b10 b14 b18 b21 0) [(.int 1)]) (fun t k => XS.goto X428.here hx rfl (pc0 := 180) (pc' := 184) rfl (hb hby at_180) (by decide) (by decide) k) ?_
                      refine GoW.sg (mkF m 186 (Sh11 q1 q2 1 0 b10 b14 b18 b21 0 1) []) (fun t k => XS.istore X428.here hx rfl (hb hby at_184) rfl (l' := (Sh11 q1 q2 1 0 b10 b14 b18 b21 0 1)) rfl k) ?_
                      refine GoW.sg (mkF m 187 (Sh11 q1 q2 1 0 b10 b14 b18 b21 0 1) [(.int 1)]) (fun t k => XS.iloadN X428.here hx rfl (hb hby at_186) rfl k) ?_
                      refine GoW.sg (mkF m 190 (Sh11 q1 q2 1 0 b10 b14 b18 b21 0 1) []) (fun t k => XS.ifNo X428.here hx rfl (hb hby at_187) rfl (by decide) k) ?_
                      refine GoW.sg (mkF m 192 (Sh11 q1 q2 1 0 b10 b14 b18 b21 0 1) [(.int 0)]) (fun t k => XS.iload X428.here hx rfl (hb hby at_190) rfl k) ?_
                      refine GoW.sg (mkF m 208 (Sh11 q1 q2 1 0 b10 b14 b18 b21 0 1) []) (fun t k => XS.ifYes X428.here hx rfl (pc0 := 192) (pc' := 208) rfl (hb hby at_192) rfl (by decide) (by decide) (by decide) k) ?_
                      refine GoW.sg (mkF m 209 (Sh11 q1 q2 1 0 b10 b14 b18 b21 0 1) [(.int 0)]) (fun t k => XS.iconst X428.here hx rfl (hb hby at_208) k) ?_
                      refine GoW.sg (mkF m 211 (Sh12 q1 q2 1 0 b10 b14 b18 b21 0 1 0) []) (fun t k => XS.istore X428.here hx rfl (hb hby at_209) rfl (l' := (Sh12 q1 q2 1 0 b10 b14 b18 b21 0 1 0)) rfl k) ?_
                      refine GoW.sg (mkF m 213 (Sh12 q1 q2 1 0 b10 b14 b18 b21 0 1 0) [(.int b14)]) (fun t k => XS.iload X428.here hx rfl (hb hby at_211) rfl k) ?_
                      refine GoW.sg (mkF m 216 (Sh12 q1 q2 1 0 b10 b14 b18 b21 0 1 0) []) (fun t k => XS.ifNo X428.here hx rfl (hb hby at_213) rfl ((if0 _ _).trans (feq c142).1) k) ?_
                      refine GoW.sg (mkF m 218 (Sh12 q1 q2 1 0 b10 b14 b18 b21 0 1 0) [(.int 1)]) (fun t k => XS.iload X428.here hx rfl (hb hby at_216) rfl k) ?_
                      refine GoW.sg (mkF m 221 (Sh12 q1 q2 1 0 b10 b14 b18 b21 0 1 0) []) (fun t k => XS.ifNo X428.here hx rfl (hb hby at_218) rfl (by decide) k) ?_
                      refine GoW.sg (mkF m 223 (Sh12 q1 q2 1 0 b10 b14 b18 b21 0 1 0) [(.int 0)]) (fun t k => XS.iload X428.here hx rfl (hb hby at_221) rfl k) ?_
                      refine GoW.sg (mkF m 230 (Sh12 q1 q2 1 0 b10 b14 b18 b21 0 1 0) []) (fun t k => XS.ifYes X428.here hx rfl (pc0 := 223) (pc' := 230) rfl (hb hby at_223) rfl (by decide) (by decide) (by decide) k) ?_
                      refine GoW.sg (mkF m 231 (Sh12 q1 q2 1 0 b10 b14 b18 b21 0 1 0) [(.int 0)]) (fun t k => XS.iconst X428.here hx rfl (hb hby at_230) k) ?_
                      refine GoW.sg (mkF m 233 (Sh13 q1 q2 1 0 b10 b14 b18 b21 0 1 0 0) []) (fun t k => XS.istore X428.here hx rfl (hb hby at_231) rfl (l' := (Sh13 q1 q2 1 0 b10 b14 b18 b21 0 1 0 0)) rfl k) ?_
                      refine GoW.sg (mkF m 253 (Sh13 q1 q2 1 0 b10 b14 b18 b21 0 1 0 0) []) (fun t k => XS.goto X428.here hx rfl (pc0 := 233) (pc' := 253) rfl (hb hby at_233) (by decide) (by decide) k) ?_
                      refine GoW.sg (mkF m 255 (Sh13 q1 q2 1 0 b10 b14 b18 b21 0 1 0 0) [(.long 0)]) (fun t k => XS.lload X428.here hx rfl (hb hby at_253) rfl k) ?_
                      refine GoW.sg (mkF m 257 (Sh13 q1 q2 1 0 b10 b14 b18 b21 0 1 0 0) [(.int 0), (.long 0)]) (fun t k => XS.iload X428.here hx rfl (hb hby at_255) rfl k) ?_
                      refine GoW.sg (mkF m 266 (Sh13 q1 q2 1 0 b10 b14 b18 b21 0 1 0 0) [(.long 0)]) (fun t k => XS.ifYes X428.here hx rfl (pc0 := 257) (pc' := 266) rfl (hb hby at_257) rfl (by decide) (by decide) (by decide) k) ?_
                      refine GoW.sg (mkF m 267 (Sh13 q1 q2 1 0 b10 b14 b18 b21 0 1 0 0) [(.long 0), (.long 0)]) (fun t k => XS.lconst X428.here hx rfl (hb hby at_266) k) ?_
                      refine GoW.sg (mkF m 268 (Sh13 q1 q2 1 0 b10 b14 b18 b21 0 1 0 0) [(.int (lcmpW (0 : Int64) (0 : Int64)))]) (fun t k => XS.lcmp X428.here hx rfl (hb hby at_267) rfl k) ?_
                      refine GoW.sg (mkF m 271 (Sh13 q1 q2 1 0 b10 b14 b18 b21 0 1 0 0) []) (fun t k => XS.ifNo X428.here hx rfl (hb hby at_268) rfl (by decide) k) ?_
                      refine GoW.sg (mkF m 272 (Sh13 q1 q2 1 0 b10 b14 b18 b21 0 1 0 0) [(.int 1)]) (fun t k => XS.iconst X428.here hx rfl (hb hby at_271) k) ?_
                      refine GoW.sg (mkF m 276 (Sh13 q1 q2 1 0 b10 b14 b18 b21 0 1 0 0) [(.int 1)]) (fun t k => XS.goto X428.here hx rfl (pc0 := 272) (pc' := 276) rfl (hb hby at_272) (by decide) (by decide) k) ?_
                      refine GoW.retN X428 hx (t := .boolean) Bd.returns (by simp) (hb hby at_276) Bd.notSynchronized ?_ (by decide) (by decide)
                      exact ⟨rfl, N428⟩
                    · subst cc
                      show GoW p e below s (ValQ (.int (1 : Int32)) n0) room_1.cells room_1.slots (T338.setTop (mkF m 136 (Sh6 q1 q2 1 1 b10 b14 b18 b21) []))
                      refine GoW.sg (mkF m 138 (Sh6 q1 q2 1 1 b10 b14 b18 b21) [(.ref b21)]) (fun t k => XS.aload X338.here hx rfl (hb hby at_136) rfl rfl k) ?_
                      refine GoW.sg (mkF m 139 (Sh6 q1 q2 1 1 b10 b14 b18 b21) [(.int 1), (.ref b21)]) (fun t k => XS.iloadN X338.here hx rfl (hb hby at_138) rfl k) ?_
                      refine GoW.sg (mkF m 141 (Sh6 q1 q2 1 1 b10 b14 b18 b21) [(.int 1), (.int 1), (.ref b21)]) (fun t k => XS.iload X338.here hx rfl (hb hby at_139) rfl k) ?_
                      refine GoW.sg (mkF m 143 (Sh6 q1 q2 1 1 b10 b14 b18 b21) [(.long b18), (.int 1), (.int 1), (.ref b21)]) (fun t k => XS.lload X338.here hx rfl (hb hby at_141) rfl k) ?_
                      obtain ⟨cq437, kq437, q437a, q437b, q437c⟩ := isOf hZ rfl p338_0
                      obtain ⟨_, _, ⟨T437, L437, k437, n437⟩, -, X437, ⟨Lc437, hQ437, l437, y437, z437⟩, st437⟩ := X338.virtualBack hx (y := (⟨"com/example/spindle/spindle/SpinRule", "countWait", "(ZZJ)V"⟩ : MethodName)) (z := (⟨"com/example/spindle/spindle/SpinRule", "countWait", "(ZZJ)V"⟩ : MethodName)) hown (mvT hZ (ww hw 35 rfl)) (mvT hZ (ww hw 36 rfl)) (notFace_of_selects (args := #[]) (mvT hZ (ww hw 38 rfl))) (mvT hZ (ww hw 38 rfl)) (mvT hZ (ww hw 37 rfl)) (by decide) (backOf (W := 0) (rm6_49 l Z a0 hw [] b21 b18  T338.heap n0  p338_0 p338_1 p338_2 p338_3 g_b21  c339 ) hZ (ww hw 39 rfl) (ww hw 4 rfl) (by decide) (by decide)) q437a q437c (g := (mkF m 143 (Sh6 q1 q2 1 1 b10 b14 b18 b21) [(.long b18), (.int 1), (.int 1), (.ref b21)])) rfl (by rw [hml]; rfl) (Steps.refl _) (argsL := [(.int (1 : Int32)), (.int (1 : Int32)), (.long b18)]) (rest := []) (lenOf pd_28ZZJ29V rfl) rfl (by show 2 * 0 + _ ≤ _; exact Nat.le_of_eq rfl) (hb hby at_143) (fun _ _ => ⟨rfl, rfl, (by decide : 1 + 0 ≤ _), (by decide : 3 + 0 ≤ _)⟩)
                      dsimp only [Pt.U, Pt.locs, Pt.cells, Pt.slots] at X437 l437 y437 z437 st437 hQ437
                      subst l437 y437 z437
                      obtain ⟨rfl, N437q, K437, p437_0, p437_1, p437_2, p437_3⟩ := hQ437
                      have N437 := Fr.app N338 N437q
                      have Zs_437 : n0 ≤ T437.heap.size := Nat.le_trans Zs_338 K437.1
                      refine GoW.sg (mkF m 146 (Sh6 q1 q2 1 1 b10 b14 b18 b21) []) (fun t k => st437.trans k) ?_
                      refine GoW.sg (mkF m 148 (Sh6 q1 q2 1 1 b10 b14 b18 b21) [(.ref b21)]) (fun t k => XS.aload X437.here hx rfl (hb hby at_146) rfl rfl k) ?_
                      obtain ⟨cq438, kq438, q438a, q438b, q438c⟩ := isOf hZ rfl p437_0
                      obtain ⟨_, _, ⟨T438, L438, k438, n438⟩, -, X438, ⟨Lc438, hQ438, l438, y438, z438⟩, st438⟩ := X437.virtualBack hx (y := (⟨"com/example/spindle/spindle/SpinRule", "handedOn", "()V"⟩ : MethodName)) (z := (⟨"com/example/spindle/spindle/SpinRule", "handedOn", "()V"⟩ : MethodName)) hown (mvT hZ (ww hw 13 rfl)) (mvT hZ (ww hw 14 rfl)) (notFace_of_selects (args := #[]) (mvT hZ (ww hw 16 rfl))) (mvT hZ (ww hw 16 rfl)) (mvT hZ (ww hw 15 rfl)) (by decide) (backOf (W := 0) (rm3_41 l Z a0 hw [] b21  T437.heap n0  p437_0 p437_1 p437_2 p437_3 g_b21   ) hZ (ww hw 17 rfl) (ww hw 4 rfl) (by decide) (by decide)) q438a q438c (g := (mkF m 148 (Sh6 q1 q2 1 1 b10 b14 b18 b21) [(.ref b21)])) rfl (by rw [hml]; rfl) (Steps.refl _) (argsL := []) (rest := []) (lenOf pd_2829V rfl) rfl (by show 2 * 0 + _ ≤ _; exact Nat.le_of_eq rfl) (hb hby at_148) (fun _ _ => ⟨rfl, rfl, (by decide : 1 + 0 ≤ _), (by decide : 3 + 0 ≤ _)⟩)
                      dsimp only [Pt.U, Pt.locs, Pt.cells, Pt.slots] at X438 l438 y438 z438 st438 hQ438
                      subst l438 y438 z438
                      obtain ⟨rfl, N438q, K438, p438_0, p438_1, p438_2, p438_3⟩ := hQ438
                      have N438 := Fr.app N437 N438q
                      have Zs_438 : n0 ≤ T438.heap.size := Nat.le_trans Zs_437 K438.1
                      refine GoW.sg (mkF m 151 (Sh6 q1 q2 1 1 b10 b14 b18 b21) []) (fun t k => st438.trans k) ?_
                      refine GoW.sg (mkF m 153 (Sh6 q1 q2 1 1 b10 b14 b18 b21) [(.ref b21)]) (fun t k => XS.aload X438.here hx rfl (hb hby at_151) rfl rfl k) ?_
                      refine GoW.sg (mkF m 156 (Sh6 q1 q2 1 1 b10 b14 b18 b21) [(.long 9223372036854775807), (.ref b21)]) (fun t k => X438.ldc2Long hx hown (mvT hZ (ww hw 20 rfl)) (g := (mkF m 153 (Sh6 q1 q2 1 1 b10 b14 b18 b21) [(.ref b21)])) rfl (hb hby at_153) t k) ?_
                      obtain ⟨cq439, kq439, q439a, q439b, q439c⟩ := isOf hZ rfl p438_0
                      obtain ⟨_, _, ⟨T439, L439, k439, n439⟩, -, X439, ⟨Lc439, hQ439, l439, y439, z439⟩, st439⟩ := X438.virtualBack hx (y := (⟨"com/example/spindle/spindle/SpinRule", "spinNanos", "(J)J"⟩ : MethodName)) (z := (⟨"com/example/spindle/spindle/SpinRule", "spinNanos", "(J)J"⟩ : MethodName)) hown (mvT hZ (ww hw 21 rfl)) (mvT hZ (ww hw 22 rfl)) (notFace_of_selects (args := #[]) (mvT hZ (ww hw 24 rfl))) (mvT hZ (ww hw 24 rfl)) (mvT hZ (ww hw 23 rfl)) (by decide) (backOf (W := 0) (rm4_42 l Z a0 hw [] b21  T438.heap n0  p438_0 p438_1 p438_2 p438_3 g_b21   ) hZ (ww hw 25 rfl) (ww hw 4 rfl) (by decide) (by decide)) q439a q439c (g := (mkF m 156 (Sh6 q1 q2 1 1 b10 b14 b18 b21) [(.long 9223372036854775807), (.ref b21)])) rfl (by rw [hml]; rfl) (Steps.refl _) (argsL := [(.long (9223372036854775807 : Int64))]) (rest := []) (lenOf pd_28J29J rfl) rfl (by show 2 * 0 + _ ≤ _; exact Nat.le_of_eq rfl) (hb hby at_156) (fun _ _ => ⟨rfl, rfl, (by decide : 1 + 0 ≤ _), (by decide : 3 + 0 ≤ _)⟩)
                      dsimp only [Pt.U, Pt.locs, Pt.cells, Pt.slots] at X439 l439 y439 z439 st439 hQ439
                      subst l439 y439 z439
                      obtain ⟨rfl, N439q, K439, p439_0, p439_1, p439_2, p439_3⟩ := hQ439
                      have N439 := Fr.app N438 N439q
                      have Zs_439 : n0 ≤ T439.heap.size := Nat.le_trans Zs_438 K439.1
                      refine GoW.sg (mkF m 159 (Sh6 q1 q2 1 1 b10 b14 b18 b21) [(.long 0)]) (fun t k => st439.trans k) ?_
                      refine GoW.sg (mkF m 161 (Sh10 q1 q2 1 1 b10 b14 b18 b21 0) []) (fun t k => XS.lstore X439.here hx rfl (hb hby at_159) rfl (l' := (Sh10 q1 q2 1 1 b10 b14 b18 b21 0)) rfl k) ?_
                      refine GoW.sg (mkF m 163 (Sh10 q1 q2 1 1 b10 b14 b18 b21 0) [(.int b10)]) (fun t k => XS.iload X439.here hx rfl (hb hby at_161) rfl k) ?_
                      refine GoW.sg (mkF m 166 (Sh10 q1 q2 1 1 b10 b14 b18 b21 0) []) (fun t k => XS.ifNo X439.here hx rfl (hb hby at_163) rfl ((if0 _ _).trans (feq c302).1) k) ?_
                      refine GoW.sg (mkF m 167 (Sh10 q1 q2 1 1 b10 b14 b18 b21 0) [(.int 1)]) (fun t k => XS.iloadN X439.here hx rfl (hb hby at_166) rfl k) ?_
                      refine GoW.sg (mkF m 179 (Sh10 q1 q2 1 1 b10 b14 b18 b21 0) []) (fun t k => XS.ifYes X439.here hx rfl (pc0 := 167) (pc' := 179) rfl (hb hby at_167) rfl (by decide) (by decide) (by decide) k) ?_
                      refine GoW.sg (mkF m 180 (Sh10 q1 q2 1 1 b10 b14 b18 b21 0) [(.int 1)]) (fun t k => XS.iconst X439.here hx rfl (hb hby at_179) k) ?_
                      refine GoW.sg (mkF m 184 (Sh10 q1 q2 1 1 b10 b14 b18 b21 0) [(.int 1)]) (fun t k => XS.goto X439.here hx rfl (pc0 := 180) (pc' := 184) rfl (hb hby at_180) (by decide) (by decide) k) ?_
                      refine GoW.sg (mkF m 186 (Sh11 q1 q2 1 1 b10 b14 b18 b21 0 1) []) (fun t k => XS.istore X439.here hx rfl (hb hby at_184) rfl (l' := (Sh11 q1 q2 1 1 b10 b14 b18 b21 0 1)) rfl k) ?_
                      refine GoW.sg (mkF m 187 (Sh11 q1 q2 1 1 b10 b14 b18 b21 0 1) [(.int 1)]) (fun t k => XS.iloadN X439.here hx rfl (hb hby at_186) rfl k) ?_
                      refine GoW.sg (mkF m 190 (Sh11 q1 q2 1 1 b10 b14 b18 b21 0 1) []) (fun t k => XS.ifNo X439.here hx rfl (hb hby at_187) rfl (by decide) k) ?_
                      refine GoW.sg (mkF m 192 (Sh11 q1 q2 1 1 b10 b14 b18 b21 0 1) [(.int 1)]) (fun t k => XS.iload X439.here hx rfl (hb hby at_190) rfl k) ?_
                      refine GoW.sg (mkF m 195 (Sh11 q1 q2 1 1 b10 b14 b18 b21 0 1) []) (fun t k => XS.ifNo X439.here hx rfl (hb hby at_192) rfl (by decide) k) ?_
                      refine GoW.sg (mkF m 197 (Sh11 q1 q2 1 1 b10 b14 b18 b21 0 1) [(.long b18)]) (fun t k => XS.lload X439.here hx rfl (hb hby at_195) rfl k) ?_
                      refine GoW.sg (mkF m 200 (Sh11 q1 q2 1 1 b10 b14 b18 b21 0 1) [(.long 20000), (.long b18)]) (fun t k => X439.ldc2Long hx hown (mvT hZ (ww hw 34 rfl)) (g := (mkF m 197 (Sh11 q1 q2 1 1 b10 b14 b18 b21 0 1) [(.long b18)])) rfl (hb hby at_197) t k) ?_
                      refine GoW.sg (mkF m 201 (Sh11 q1 q2 1 1 b10 b14 b18 b21 0 1) [(.int (lcmpW b18 (20000 : Int64)))]) (fun t k => XS.lcmp X439.here hx rfl (hb hby at_200) rfl k) ?_
                      refine GoW.sg (mkF m 208 (Sh11 q1 q2 1 1 b10 b14 b18 b21 0 1) []) (fun t k => XS.ifYes X439.here hx rfl (pc0 := 201) (pc' := 208) rfl (hb hby at_201) rfl ((if0 _ _).trans (flt (mt (lw_lt _ _).mp c339)).2.1) (by decide) (by decide) k) ?_
                      refine GoW.sg (mkF m 209 (Sh11 q1 q2 1 1 b10 b14 b18 b21 0 1) [(.int 0)]) (fun t k => XS.iconst X439.here hx rfl (hb hby at_208) k) ?_
                      refine GoW.sg (mkF m 211 (Sh12 q1 q2 1 1 b10 b14 b18 b21 0 1 0) []) (fun t k => XS.istore X439.here hx rfl (hb hby at_209) rfl (l' := (Sh12 q1 q2 1 1 b10 b14 b18 b21 0 1 0)) rfl k) ?_
                      refine GoW.sg (mkF m 213 (Sh12 q1 q2 1 1 b10 b14 b18 b21 0 1 0) [(.int b14)]) (fun t k => XS.iload X439.here hx rfl (hb hby at_211) rfl k) ?_
                      refine GoW.sg (mkF m 216 (Sh12 q1 q2 1 1 b10 b14 b18 b21 0 1 0) []) (fun t k => XS.ifNo X439.here hx rfl (hb hby at_213) rfl ((if0 _ _).trans (feq c142).1) k) ?_
                      refine GoW.sg (mkF m 218 (Sh12 q1 q2 1 1 b10 b14 b18 b21 0 1 0) [(.int 1)]) (fun t k => XS.iload X439.here hx rfl (hb hby at_216) rfl k) ?_
                      refine GoW.sg (mkF m 221 (Sh12 q1 q2 1 1 b10 b14 b18 b21 0 1 0) []) (fun t k => XS.ifNo X439.here hx rfl (hb hby at_218) rfl (by decide) k) ?_
                      refine GoW.sg (mkF m 223 (Sh12 q1 q2 1 1 b10 b14 b18 b21 0 1 0) [(.int 0)]) (fun t k => XS.iload X439.here hx rfl (hb hby at_221) rfl k) ?_
                      refine GoW.sg (mkF m 230 (Sh12 q1 q2 1 1 b10 b14 b18 b21 0 1 0) []) (fun t k => XS.ifYes X439.here hx rfl (pc0 := 223) (pc' := 230) rfl (hb hby at_223) rfl (by decide) (by decide) (by decide) k) ?_
                      refine GoW.sg (mkF m 231 (Sh12 q1 q2 1 1 b10 b14 b18 b21 0 1 0) [(.int 0)]) (fun t k => XS.iconst X439.here hx rfl (hb hby at_230) k) ?_
                      refine GoW.sg (mkF m 233 (Sh13 q1 q2 1 1 b10 b14 b18 b21 0 1 0 0) []) (fun t k => XS.istore X439.here hx rfl (hb hby at_231) rfl (l' := (Sh13 q1 q2 1 1 b10 b14 b18 b21 0 1 0 0)) rfl k) ?_
                      refine GoW.sg (mkF m 253 (Sh13 q1 q2 1 1 b10 b14 b18 b21 0 1 0 0) []) (fun t k => XS.goto X439.here hx rfl (pc0 := 233) (pc' := 253) rfl (hb hby at_233) (by decide) (by decide) k) ?_
                      refine GoW.sg (mkF m 255 (Sh13 q1 q2 1 1 b10 b14 b18 b21 0 1 0 0) [(.long 0)]) (fun t k => XS.lload X439.here hx rfl (hb hby at_253) rfl k) ?_
                      refine GoW.sg (mkF m 257 (Sh13 q1 q2 1 1 b10 b14 b18 b21 0 1 0 0) [(.int 0), (.long 0)]) (fun t k => XS.iload X439.here hx rfl (hb hby at_255) rfl k) ?_
                      refine GoW.sg (mkF m 266 (Sh13 q1 q2 1 1 b10 b14 b18 b21 0 1 0 0) [(.long 0)]) (fun t k => XS.ifYes X439.here hx rfl (pc0 := 257) (pc' := 266) rfl (hb hby at_257) rfl (by decide) (by decide) (by decide) k) ?_
                      refine GoW.sg (mkF m 267 (Sh13 q1 q2 1 1 b10 b14 b18 b21 0 1 0 0) [(.long 0), (.long 0)]) (fun t k => XS.lconst X439.here hx rfl (hb hby at_266) k) ?_
                      refine GoW.sg (mkF m 268 (Sh13 q1 q2 1 1 b10 b14 b18 b21 0 1 0 0) [(.int (lcmpW (0 : Int64) (0 : Int64)))]) (fun t k => XS.lcmp X439.here hx rfl (hb hby at_267) rfl k) ?_
                      refine GoW.sg (mkF m 271 (Sh13 q1 q2 1 1 b10 b14 b18 b21 0 1 0 0) []) (fun t k => XS.ifNo X439.here hx rfl (hb hby at_268) rfl (by decide) k) ?_
                      refine GoW.sg (mkF m 272 (Sh13 q1 q2 1 1 b10 b14 b18 b21 0 1 0 0) [(.int 1)]) (fun t k => XS.iconst X439.here hx rfl (hb hby at_271) k) ?_
                      refine GoW.sg (mkF m 276 (Sh13 q1 q2 1 1 b10 b14 b18 b21 0 1 0 0) [(.int 1)]) (fun t k => XS.goto X439.here hx rfl (pc0 := 272) (pc' := 276) rfl (hb hby at_272) (by decide) (by decide) k) ?_
                      refine GoW.retN X439 hx (t := .boolean) Bd.returns (by simp) (hb hby at_276) Bd.notSynchronized ?_ (by decide) (by decide)
                      exact ⟨rfl, N439⟩
          by_cases c20 : (q1 &&& (16 : Int32)) = (0 : Int32)
          · refine GoW.sg (mkF m 63 (Sh4 q1 q2 b2 b6 b10 b14) []) (fun t k => XS.ifYes X0.here hx rfl (pc0 := 56) (pc' := 63) rfl (hb hby at_56) rfl ((if0 _ _).trans (teq c20).1) (by decide) (by decide) k) ?_
            refine GoW.sg (mkF m 66 (Sh4 q1 q2 b2 b6 b10 b14) [(.long 19998)]) (fun t k => X0.ldc2Long hx hown (mvT hZ (ww hw 0 rfl)) (g := (mkF m 63 (Sh4 q1 q2 b2 b6 b10 b14) [])) rfl (hb hby at_63) t k) ?_
            refine GoW.sg (mkF m 67 (Sh4 q1 q2 b2 b6 b10 b14) [(.long q2), (.long 19998)]) (fun t k => XS.lloadN X0.here hx rfl (hb hby at_66) rfl k) ?_
            refine GoW.sg (mkF m 70 (Sh4 q1 q2 b2 b6 b10 b14) [(.long 3), (.long q2), (.long 19998)]) (fun t k => X0.ldc2Long hx hown (mvT hZ (ww hw 1 rfl)) (g := (mkF m 67 (Sh4 q1 q2 b2 b6 b10 b14) [(.long q2), (.long 19998)])) rfl (hb hby at_67) t k) ?_
            refine GoW.sg (mkF m 71 (Sh4 q1 q2 b2 b6 b10 b14) [(.long (q2 &&& (3 : Int64))), (.long 19998)]) (fun t k => XS.land X0.here hx rfl (hb hby at_70) rfl k) ?_
            refine GoW.sg (mkF m 72 (Sh4 q1 q2 b2 b6 b10 b14) [(.long ((19998 : Int64) + (q2 &&& (3 : Int64))))]) (fun t k => XS.ladd X0.here hx rfl (hb hby at_71) rfl k) ?_
            exact J72_19 _ (by rw [if_pos c20])
          · refine GoW.sg (mkF m 59 (Sh4 q1 q2 b2 b6 b10 b14) []) (fun t k => XS.ifNo X0.here hx rfl (hb hby at_56) rfl ((if0 _ _).trans (feq c20).1) k) ?_
            refine GoW.sg (mkF m 60 (Sh4 q1 q2 b2 b6 b10 b14) [(.long q2)]) (fun t k => XS.lloadN X0.here hx rfl (hb hby at_59) rfl k) ?_
            refine GoW.sg (mkF m 72 (Sh4 q1 q2 b2 b6 b10 b14) [(.long q2)]) (fun t k => XS.goto X0.here hx rfl (pc0 := 60) (pc' := 72) rfl (hb hby at_60) (by decide) (by decide) k) ?_
            exact J72_19 _ (by rw [if_neg c20])
        by_cases c16 : (q1 &&& (8 : Int32)) = (0 : Int32)
        · refine GoW.sg (mkF m 49 (Sh3 q1 q2 b2 b6 b10) []) (fun t k => XS.ifYes X0.here hx rfl (pc0 := 42) (pc' := 49) rfl (hb hby at_42) rfl ((if0 _ _).trans (teq c16).1) (by decide) (by decide) k) ?_
          refine GoW.sg (mkF m 50 (Sh3 q1 q2 b2 b6 b10) [(.int 0)]) (fun t k => XS.iconst X0.here hx rfl (hb hby at_49) k) ?_
          exact J50_15 _ (by rw [if_pos c16])
        · refine GoW.sg (mkF m 45 (Sh3 q1 q2 b2 b6 b10) []) (fun t k => XS.ifNo X0.here hx rfl (hb hby at_42) rfl ((if0 _ _).trans (feq c16).1) k) ?_
          refine GoW.sg (mkF m 46 (Sh3 q1 q2 b2 b6 b10) [(.int 1)]) (fun t k => XS.iconst X0.here hx rfl (hb hby at_45) k) ?_
          refine GoW.sg (mkF m 50 (Sh3 q1 q2 b2 b6 b10) [(.int 1)]) (fun t k => XS.goto X0.here hx rfl (pc0 := 46) (pc' := 50) rfl (hb hby at_46) (by decide) (by decide) k) ?_
          exact J50_15 _ (by rw [if_neg c16])
      by_cases c12 : (q1 &&& (4 : Int32)) = (0 : Int32)
      · refine GoW.sg (mkF m 35 (Sh2 q1 q2 b2 b6) []) (fun t k => XS.ifYes X0.here hx rfl (pc0 := 28) (pc' := 35) rfl (hb hby at_28) rfl ((if0 _ _).trans (teq c12).1) (by decide) (by decide) k) ?_
        refine GoW.sg (mkF m 36 (Sh2 q1 q2 b2 b6) [(.int 0)]) (fun t k => XS.iconst X0.here hx rfl (hb hby at_35) k) ?_
        exact J36_11 _ (by rw [if_pos c12])
      · refine GoW.sg (mkF m 31 (Sh2 q1 q2 b2 b6) []) (fun t k => XS.ifNo X0.here hx rfl (hb hby at_28) rfl ((if0 _ _).trans (feq c12).1) k) ?_
        refine GoW.sg (mkF m 32 (Sh2 q1 q2 b2 b6) [(.int 1)]) (fun t k => XS.iconst X0.here hx rfl (hb hby at_31) k) ?_
        refine GoW.sg (mkF m 36 (Sh2 q1 q2 b2 b6) [(.int 1)]) (fun t k => XS.goto X0.here hx rfl (pc0 := 32) (pc' := 36) rfl (hb hby at_32) (by decide) (by decide) k) ?_
        exact J36_11 _ (by rw [if_neg c12])
    by_cases c8 : (q1 &&& (2 : Int32)) = (0 : Int32)
    · refine GoW.sg (mkF m 22 (Sh1 q1 q2 b2) []) (fun t k => XS.ifYes X0.here hx rfl (pc0 := 15) (pc' := 22) rfl (hb hby at_15) rfl ((if0 _ _).trans (teq c8).1) (by decide) (by decide) k) ?_
      refine GoW.sg (mkF m 23 (Sh1 q1 q2 b2) [(.int 0)]) (fun t k => XS.iconst X0.here hx rfl (hb hby at_22) k) ?_
      exact J23_7 _ (by rw [if_pos c8])
    · refine GoW.sg (mkF m 18 (Sh1 q1 q2 b2) []) (fun t k => XS.ifNo X0.here hx rfl (hb hby at_15) rfl ((if0 _ _).trans (feq c8).1) k) ?_
      refine GoW.sg (mkF m 19 (Sh1 q1 q2 b2) [(.int 1)]) (fun t k => XS.iconst X0.here hx rfl (hb hby at_18) k) ?_
      refine GoW.sg (mkF m 23 (Sh1 q1 q2 b2) [(.int 1)]) (fun t k => XS.goto X0.here hx rfl (pc0 := 19) (pc' := 23) rfl (hb hby at_19) (by decide) (by decide) k) ?_
      exact J23_7 _ (by rw [if_neg c8])
  by_cases c4 : (q1 &&& (1 : Int32)) = (0 : Int32)
  · refine GoW.sg (mkF m 10 (Sh0 q1 q2) []) (fun t k => XS.ifYes X0.here hx rfl (pc0 := 3) (pc' := 10) rfl (hb hby at_3) rfl ((if0 _ _).trans (teq c4).1) (by decide) (by decide) k) ?_
    refine GoW.sg (mkF m 11 (Sh0 q1 q2) [(.int 0)]) (fun t k => XS.iconst X0.here hx rfl (hb hby at_10) k) ?_
    exact J11_3 _ (by rw [if_pos c4])
  · refine GoW.sg (mkF m 6 (Sh0 q1 q2) []) (fun t k => XS.ifNo X0.here hx rfl (hb hby at_3) rfl ((if0 _ _).trans (feq c4).1) k) ?_
    refine GoW.sg (mkF m 7 (Sh0 q1 q2) [(.int 1)]) (fun t k => XS.iconst X0.here hx rfl (hb hby at_6) k) ?_
    refine GoW.sg (mkF m 11 (Sh0 q1 q2) [(.int 1)]) (fun t k => XS.goto X0.here hx rfl (pc0 := 7) (pc' := 11) rfl (hb hby at_7) (by decide) (by decide) k) ?_
    exact J11_3 _ (by rw [if_neg c4])

set_option maxRecDepth 65536 in
set_option maxHeartbeats 40000000 in
theorem comes_1 {Post : Tables → Env → Array Value → State → Outcome → State → Prop} (hpost : ∀ tb e args s v u, (limb_1_1.after args s (.returned v) u = true ∧ limb_1_2.after args s (.returned v) u = true ∧ True) → FrameEnd s (.returned v) u (Jvm.fieldLocs frame_1_writes args s ++ Jvm.arrayLocs frame_1_arrays args s ++ Jvm.staticLocs frame_1_statics s) 16 128 → Post tb e args s (.returned v) u) :
    ArmFor flags0 classFile x code maxLocals ret World_1 tables_1 room_1 Calls_1 rest_1 Pre_1 Post := by
  intro l hfl _ _ p e ha hc hk s m args below hf hA hF happ hP
  obtain ⟨hcalls, hrest, hpre⟩ := hP
  obtain ⟨-, -, -, hnamed, -, -, -, hat⟩ := (Spec.applies_iff hf).mp happ
  obtain ⟨hg, hn⟩ := and_e (Cond.before_iff.mp (show (Jvm.Cond.and given_1 narrow_1).before args s = true from hpre))
  obtain ⟨ga0, gb0⟩ := and_e hg
  obtain ⟨ga1, gb1⟩ := and_e gb0
  obtain ⟨w0, w1, rfl⟩ : ∃ w0 w1 : Value, args = #[w0, w1] := by
    have hs : args.size = 2 := by simpa [Cond.value, given_1] using ga0
    obtain ⟨L⟩ := args
    match L, hs with
    | [w0, w1], _ => exact ⟨w0, w1, rfl⟩
  have hw := fun d (hd : d ∈ tables_1) => atoms_spec (ws := Jvm.Cond.code x code maxLocals ret :: tables_1) hat d (List.mem_cons_of_mem _ hd)
  have hfit : Fit s := fun {y c} hc i hi => by
    obtain ⟨ha, rfl⟩ := Array.getElem?_eq_some_iff.mp hc
    have q := List.all_eq_true.mp ((Array.all_eq_true_iff_forall_mem.mp hF) _ (Array.getElem_mem ha)) i (List.mem_range.mpr hi)
    simpa [Array.getElem?_eq_getElem hi] using q
  obtain ⟨i0, ei0⟩ := is_v ga1
  obtain rfl : w0 = (.int i0) := Option.some.inj ei0
  obtain ⟨i1, ei1⟩ := isL_v gb1
  obtain rfl : w1 = (.long i1) := Option.some.inj ei1
  obtain ⟨n, o, h1, h2, h3, v, L, rfl, ⟨hv, N⟩, hq⟩ := rm0 l s _ hw tables_1 i0 i1  s.heap s.heap.size (Nat.le_refl _)  p e ha hc hk s m _ below hf ((Spec.applies_iff_loose hf).mp happ).1 ⟨rfl, State.Warmed39.refl s, rfl⟩ trivial
  subst hv
  refine ⟨n, _, h1, h2, h3, hpost _ _ _ _ _ _ ⟨Cond.after_iff.mpr rfl, Cond.after_iff.mpr (eq_i res_at (Term.int_eval (1)) rfl), trivial⟩ ⟨hq.1, hq.2.1, (hq.2.2.sift fun y hy => Or.inr (N y hy)).mono (by decide) (by decide)⟩⟩
theorem main_1_1 : Claimed_1_1 := comes_1 fun _ _ _ _ _ _ h hF => ⟨h.1, hF⟩
theorem main_1_2 : Claimed_1_2 := comes_1 fun _ _ _ _ _ _ h hF => ⟨h.2.1, hF⟩
end Jvm.Pilot.@@N@@
namespace Jvm.Pilot.@@N@@
open Jvm Jvm.ClassFile Sem Op Lib Jvm.Free Jvm.Stand Jvm.Pilot.@@N@@.Jvm.D
/-! MADE BY PROGRAM (witnessworld.py) out of the Statement's table words and the real class files: 9 classes; the members and pool entries that the words name. The judged class is class 1, her method 1. -/
namespace start1
open Jvm.ClassFile
def u (s : String) : CpInfo := .utf8 (stringToUtf16 s)
/-- a pool by its gaps: so many unusable entries, then the entry; so many at the end -/
def gap : Nat → List CpInfo → List CpInfo
  | 0, r => r
  | n + 1, r => .unusable :: gap n r
def poolList (es : List (Nat × CpInfo)) (last : Nat) : List CpInfo := es.foldr (fun e r => gap e.1 (e.2 :: r)) (gap last [])
def pool (es : List (Nat × CpInfo)) (last : Nat) : Array CpInfo := ⟨poolList es last⟩
def fileOf (pool : Array CpInfo) (this : Nat) (attrs : Array Attribute := #[]) (ms : Array MethodInfo := #[]) (fl : Nat := 33) (sup : Nat := 0) (ifs : Array Nat := #[]) (fds : Array FieldInfo := #[]) : ClassFile where
  minorVersion := 0
  majorVersion := 65
  constantPool := pool
  accessFlags := fl
  thisClass := this
  superClass := sup
  interfaces := ifs
  fields := fds
  methods := ms
  attributes := attrs
def plain (name : String) (sup : Option ClassId) : Class where
  name := name
  kind := .ordinary
  loader := none
  accessFlags := 33
  super := sup
  interfaces := #[]
  cf := none
  fields := #[]
  methods := #[]
  instanceTypes := #[]
  staticTypes := #[]
  resolved := #[]
  callSites := []
  init := .initialized
  statics := none
  mirror := none

def pool0 : Array CpInfo := pool [(5, u "<init>"), (0, u "()V"), (1, .class_ 10), (1, u "java/lang/Object")] 113

def k0c0 : Code := { maxStack := 0, maxLocals := 1, code := object_method_1_code, exceptionTable := #[], attributes := #[] }
def k0m0 : Method := { name := "<init>", desc := "()V", sig := { parameters := [], returnType := none }, accessFlags := 1, code := some k0c0 }
/-- java/lang/Object -/
def k0 : Class := { plain "java/lang/Object" none with
  accessFlags := 33
  interfaces := #[]
  cf := some (fileOf pool0 8 #[] #[{ accessFlags := 1, nameIndex := 5, descriptorIndex := 6, attributes := #[] }] 33 0 #[] #[])
  fields := #[]
  methods := #[k0m0]
  instanceTypes := #[]
  staticTypes := #[]
  resolved := Array.replicate 124 none
  statics := none }

def pool1 : Array CpInfo := pool [(2, .class_ 4), (0, .nameAndType 5 6), (0, u "java/lang/Object"), (0, u "<init>"), (0, u "()V"), (0, .long 19998), (1, .long 3), (1, .class_ 12), (0, u "com/example/spindle/spindle/SpinRule"), (0, .methodref 11 3), (0, .methodref 11 15), (0, .nameAndType 16 6), (0, u "handedOn"), (2, .long 9223372036854775807), (1, .methodref 11 22), (0, .nameAndType 23 24), (0, u "spinNanos"), (0, u "(J)J"), (0, .methodref 26 27), (0, .class_ 28), (0, .nameAndType 29 30), (0, u "com/example/spindle/spindle/SpinRuleCountWaitPinLaw"), (0, u "decayTen"), (0, u "(Lcom/example/spindle/spindle/SpinRule;)V"), (0, .long 20000), (1, .methodref 11 34), (0, .nameAndType 35 36), (0, u "countWait"), (0, u "(ZZJ)V"), (2, u "law"), (0, u "(IJ)Z")] 3

def k1m0 : Method := { name := "<init>", desc := "()V", sig := { parameters := [], returnType := none }, accessFlags := 1, code := none }
def k1c1 : Code := { maxStack := 6, maxLocals := 15, code := code, exceptionTable := #[], attributes := #[] }
def k1m1 : Method := { name := "law", desc := "(IJ)Z", sig := { parameters := [.int, .long], returnType := some .boolean }, accessFlags := 9, code := some k1c1 }
def k1c2 : Code := { maxStack := 5, maxLocals := 1, code := method_3_code, exceptionTable := #[], attributes := #[] }
def k1m2 : Method := { name := "decayTen", desc := "(Lcom/example/spindle/spindle/SpinRule;)V", sig := { parameters := [(.object "com/example/spindle/spindle/SpinRule")], returnType := none }, accessFlags := 10, code := some k1c2 }
/-- com/example/spindle/spindle/SpinRuleCountWaitPinLaw -/
def k1 : Class := { plain "com/example/spindle/spindle/SpinRuleCountWaitPinLaw" (some 0) with
  accessFlags := 49
  interfaces := #[]
  cf := some (fileOf pool1 26 #[] #[{ accessFlags := 1, nameIndex := 5, descriptorIndex := 6, attributes := #[] }, { accessFlags := 9, nameIndex := 39, descriptorIndex := 40, attributes := #[] }, { accessFlags := 10, nameIndex := 29, descriptorIndex := 30, attributes := #[] }] 49 2 #[] #[])
  fields := #[]
  methods := #[k1m0, k1m1, k1m2]
  instanceTypes := #[]
  staticTypes := #[]
  resolved := Array.replicate 44 none
  statics := none }

def pool2 : Array CpInfo := pool [(1, .methodref 2 3), (0, .class_ 4), (0, .nameAndType 5 6), (0, u "java/lang/Object"), (0, u "<init>"), (0, u "()V"), (0, .fieldref 8 9), (0, .class_ 10), (0, .nameAndType 11 12), (0, u "com/example/spindle/spindle/SpinRule"), (0, u "answeredShare"), (0, u "D"), (0, .fieldref 8 14), (0, .nameAndType 15 16), (0, u "handedOn"), (0, u "Z"), (0, .fieldref 8 18), (0, .nameAndType 19 16), (0, u "awaitsAnswer"), (0, .long 20000), (1, .double 4598175219545276416), (1, .double 4593671619917905920), (1, u "SPIN_NANOS"), (0, u "J"), (1, u "LATEST_WAIT_WEIGHT"), (0, u "ANSWERED_SHARE_TO_SPIN"), (2, u "spinNanos"), (0, u "(J)J"), (3, u "countWait"), (0, u "(ZZJ)V")] 2

def k2c0 : Code := { maxStack := 3, maxLocals := 1, code := prog_40_method_1_code, exceptionTable := #[], attributes := #[] }
def k2m0 : Method := { name := "<init>", desc := "()V", sig := { parameters := [], returnType := none }, accessFlags := 0, code := some k2c0 }
def k2c1 : Code := { maxStack := 2, maxLocals := 1, code := prog_40_method_2_code, exceptionTable := #[], attributes := #[] }
def k2m1 : Method := { name := "handedOn", desc := "()V", sig := { parameters := [], returnType := none }, accessFlags := 0, code := some k2c1 }
def k2c2 : Code := { maxStack := 4, maxLocals := 3, code := prog_40_method_3_code, exceptionTable := #[], attributes := #[] }
def k2m2 : Method := { name := "spinNanos", desc := "(J)J", sig := { parameters := [.long], returnType := some .long }, accessFlags := 0, code := some k2c2 }
def k2c3 : Code := { maxStack := 7, maxLocals := 6, code := prog_40_method_5_code, exceptionTable := #[], attributes := #[] }
def k2m3 : Method := { name := "countWait", desc := "(ZZJ)V", sig := { parameters := [.boolean, .boolean, .long], returnType := none }, accessFlags := 0, code := some k2c3 }
/-- com/example/spindle/spindle/SpinRule -/
def k2 : Class := { plain "com/example/spindle/spindle/SpinRule" (some 0) with
  accessFlags := 48
  interfaces := #[]
  cf := some (fileOf pool2 8 #[] #[{ accessFlags := 0, nameIndex := 5, descriptorIndex := 6, attributes := #[] }, { accessFlags := 0, nameIndex := 15, descriptorIndex := 6, attributes := #[] }, { accessFlags := 0, nameIndex := 33, descriptorIndex := 34, attributes := #[] }, { accessFlags := 0, nameIndex := 38, descriptorIndex := 39, attributes := #[] }] 48 2 #[] #[{ accessFlags := 26, nameIndex := 26, descriptorIndex := 27, attributes := #[] }, { accessFlags := 26, nameIndex := 29, descriptorIndex := 12, attributes := #[] }, { accessFlags := 26, nameIndex := 30, descriptorIndex := 12, attributes := #[] }, { accessFlags := 2, nameIndex := 15, descriptorIndex := 16, attributes := #[] }, { accessFlags := 2, nameIndex := 19, descriptorIndex := 16, attributes := #[] }, { accessFlags := 2, nameIndex := 11, descriptorIndex := 12, attributes := #[] }])
  fields := #[{ name := "SPIN_NANOS", type := .long, accessFlags := 26, slot := 0, constantValue := 0 }, { name := "LATEST_WAIT_WEIGHT", type := .double, accessFlags := 26, slot := 1, constantValue := 0 }, { name := "ANSWERED_SHARE_TO_SPIN", type := .double, accessFlags := 26, slot := 2, constantValue := 0 }, { name := "handedOn", type := .boolean, accessFlags := 2, slot := 0, constantValue := 0 }, { name := "awaitsAnswer", type := .boolean, accessFlags := 2, slot := 1, constantValue := 0 }, { name := "answeredShare", type := .double, accessFlags := 2, slot := 2, constantValue := 0 }]
  methods := #[k2m0, k2m1, k2m2, k2m3]
  instanceTypes := #[.boolean, .boolean, .double]
  staticTypes := #[.long, .double, .double]
  resolved := Array.replicate 42 none
  statics := none }

def pool3 : Array CpInfo := pool [(1, u "java/lang/Cloneable"), (0, .class_ 1), (0, u "java/lang/Object"), (0, .class_ 3)] 3

/-- java/lang/Cloneable -/
def k3 : Class := { plain "java/lang/Cloneable" (some 0) with
  accessFlags := 1537
  interfaces := #[]
  cf := some (fileOf pool3 2 #[] #[] 1537 4 #[] #[])
  fields := #[]
  methods := #[]
  instanceTypes := #[]
  staticTypes := #[]
  resolved := Array.replicate 8 none
  statics := none }

def pool4 : Array CpInfo := pool [(1, u "java/io/Serializable"), (0, .class_ 1), (0, u "java/lang/Object"), (0, .class_ 3)] 3

/-- java/io/Serializable -/
def k4 : Class := { plain "java/io/Serializable" (some 0) with
  accessFlags := 1537
  interfaces := #[]
  cf := some (fileOf pool4 2 #[] #[] 1537 4 #[] #[])
  fields := #[]
  methods := #[]
  instanceTypes := #[]
  staticTypes := #[]
  resolved := Array.replicate 8 none
  statics := none }

/-- the primitive byte -/
def k5 : Class := { plain "byte" none with kind := .primitive 'B', accessFlags := 0x411 }
/-- [B -/
def k6 : Class := { plain "[B" (some 0) with kind := .array 5 .byte, interfaces := #[3, 4], accessFlags := 1041 }

/-- the primitive int -/
def k7 : Class := { plain "int" none with kind := .primitive 'I', accessFlags := 0x411 }
/-- [I -/
def k8 : Class := { plain "[I" (some 0) with kind := .array 7 .int, interfaces := #[3, 4], accessFlags := 1041 }

def heap : Heap := #[]
def classes : Array Class := #[k0, k1, k2, k3, k4, k5, k6, k7, k8]
def interned : List (Array UInt16 × Addr) := []
def slotsUsed : Nat := 0
def theMethod : MethodId := ⟨1, 1⟩
def args0 : Array Value := #[.int 5, .long 77]
def aboutOver (below : List Frame) : State where
  vm := { classes := classes, interned := interned.toArray }
  heap := heap
  slotsUsed := slotsUsed
  threads := #[{ frames := .invoking theMethod args0 :: below }]
def below0 : List Frame := [.native { method := ⟨0, 0⟩, args := #[] }]
def about1 : State := aboutOver below0
def p0 : Program := .bare "" "" ""
def e0 : Env := launch0.env 0 0 0
theorem w_frames : about1.frames = Frame.invoking theMethod args0 :: below0 := rfl
set_option maxRecDepth 65536 in
theorem w_args : argsFit about1.vm theMethod args0 = true := by decide +kernel
set_option maxRecDepth 65536 in
theorem w_heap : heapFits about1 = true := by decide +kernel
set_option maxRecDepth 65536 in
theorem w_runnable : about1.curStatus? = some .runnable := by decide +kernel
set_option maxRecDepth 65536 in
theorem w_alone : about1.alone = true := by decide +kernel
set_option maxRecDepth 65536 in
theorem w_named : about1.methodNamed? x = some theMethod := by decide +kernel
set_option maxRecDepth 65536 in
theorem w_hears : about1.hears theMethod below0 = true := by decide +kernel
set_option maxRecDepth 65536 in
theorem w_ripe : about1.ripe theMethod args0 below0 = true := by decide +kernel
theorem w_running : about1.status = .running := rfl
set_option maxRecDepth 65536 in
theorem w_room : about1.hasRoom e0.platform room_1 = true :=
  launch0.hasRoom_least _ room_1 (by decide +kernel) (by decide +kernel) (by decide +kernel) (by decide +kernel) (by decide +kernel) (by decide +kernel)
theorem allAtoms_all (ts : List Jvm.Cond) (a : Array Jvm.Value) (st : Jvm.State) : (allAtoms ts).before a st = ts.all (fun c => c.before a st) := by
  induction ts with
  | nil => rfl
  | cons c t ih =>
    show (Jvm.Cond.and c (allAtoms t)).before a st = _
    rw [Jvm.Cond.before_and, ih, List.all_cons]
def words1 : List Jvm.Cond := Jvm.Cond.code x code maxLocals ret :: tables_1
/-- a 'code' word, met by the world's own term for the bytes: nothing is compared byte by byte -/
theorem code_word {y : MethodName} {bytes : ByteArray} {mx : Nat} {rt : Option FieldType} {a : Array Value} {s : State} {m : MethodId} {meth : Method} {c : Code} (h1 : s.methodNamed? y = some m) (h2 : s.vm.method? m = some meth) (h3 : meth.code = some c) (h4 : c.code = bytes)
    (h5 : (c.maxLocals == mx && c.exceptionTable.isEmpty && decide (c.maxStack ≤ mostOperands) && decide (meth.sig.returnType = rt) && !meth.locks && decide (parseMethodDescriptor y.desc = some meth.sig)) = true) : (Jvm.Cond.code y bytes mx rt).before a s = true := by
  simp only [Bool.and_eq_true, beq_iff_eq, Bool.not_eq_true', decide_eq_true_eq] at h5
  obtain ⟨⟨⟨⟨⟨g1, g2⟩, g3⟩, g4⟩, g5⟩, g6⟩ := h5
  simp [Cond.before, Cond.holds, Cond.value, h1, h2, h3, h4, g1, g2, g3, g4, g5, g6]
def isCode : Jvm.Cond → Bool
  | .code _ _ _ _ => true
  | _ => false
theorem all_split {L : List Jvm.Cond} {P : Jvm.Cond → Bool} (h1 : L.all (fun c => isCode c || P c) = true) (h2 : ∀ c ∈ L.filter isCode, P c = true) : L.all P = true := by
  refine List.all_eq_true.mpr fun c hc => ?_
  have h := List.all_eq_true.mp h1 c hc
  rcases Bool.eq_false_or_eq_true (isCode c) with hi | hi
  · exact h2 c (List.mem_filter.mpr ⟨hc, hi⟩)
  · simpa [hi] using h
set_option maxRecDepth 65536 in
theorem w_c0 : (Jvm.Cond.code x code maxLocals ret).before args0 about1 = true := code_word (m := ⟨1, 1⟩) (meth := k1m1) (c := k1c1) (by decide +kernel) rfl rfl rfl (by decide +kernel)
set_option maxRecDepth 65536 in
theorem w_c1 : (Jvm.Cond.code ({ cls := "com/example/spindle/spindle/SpinRule", name := "<init>", desc := "()V" } : Jvm.MethodName) prog_40_method_1_code (1 : Nat) (Option.none : Option Jvm.ClassFile.FieldType)).before args0 about1 = true := code_word (m := ⟨2, 0⟩) (meth := k2m0) (c := k2c0) (by decide +kernel) rfl rfl rfl (by decide +kernel)
set_option maxRecDepth 65536 in
theorem w_c2 : (Jvm.Cond.code ({ cls := "java/lang/Object", name := "<init>", desc := "()V" } : Jvm.MethodName) object_method_1_code (1 : Nat) (Option.none : Option Jvm.ClassFile.FieldType)).before args0 about1 = true := code_word (m := ⟨0, 0⟩) (meth := k0m0) (c := k0c0) (by decide +kernel) rfl rfl rfl (by decide +kernel)
set_option maxRecDepth 65536 in
theorem w_c3 : (Jvm.Cond.code ({ cls := "com/example/spindle/spindle/SpinRule", name := "handedOn", desc := "()V" } : Jvm.MethodName) prog_40_method_2_code (1 : Nat) (Option.none : Option Jvm.ClassFile.FieldType)).before args0 about1 = true := code_word (m := ⟨2, 1⟩) (meth := k2m1) (c := k2c1) (by decide +kernel) rfl rfl rfl (by decide +kernel)
set_option maxRecDepth 65536 in
theorem w_c4 : (Jvm.Cond.code ({ cls := "com/example/spindle/spindle/SpinRule", name := "spinNanos", desc := "(J)J" } : Jvm.MethodName) prog_40_method_3_code (3 : Nat) (Option.some Jvm.ClassFile.FieldType.long)).before args0 about1 = true := code_word (m := ⟨2, 2⟩) (meth := k2m2) (c := k2c2) (by decide +kernel) rfl rfl rfl (by decide +kernel)
set_option maxRecDepth 65536 in
theorem w_c5 : (Jvm.Cond.code ({ cls := "com/example/spindle/spindle/SpinRuleCountWaitPinLaw", name := "decayTen", desc := "(Lcom/example/spindle/spindle/SpinRule;)V" } : Jvm.MethodName) method_3_code (1 : Nat) (Option.none : Option Jvm.ClassFile.FieldType)).before args0 about1 = true := code_word (m := ⟨1, 2⟩) (meth := k1m2) (c := k1c2) (by decide +kernel) rfl rfl rfl (by decide +kernel)
set_option maxRecDepth 65536 in
theorem w_c6 : (Jvm.Cond.code ({ cls := "com/example/spindle/spindle/SpinRule", name := "countWait", desc := "(ZZJ)V" } : Jvm.MethodName) prog_40_method_5_code (6 : Nat) (Option.none : Option Jvm.ClassFile.FieldType)).before args0 about1 = true := code_word (m := ⟨2, 3⟩) (meth := k2m3) (c := k2c3) (by decide +kernel) rfl rfl rfl (by decide +kernel)
def codes1 : List Jvm.Cond := [Jvm.Cond.code x code maxLocals ret, Jvm.Cond.code ({ cls := "com/example/spindle/spindle/SpinRule", name := "<init>", desc := "()V" } : Jvm.MethodName) prog_40_method_1_code (1 : Nat) (Option.none : Option Jvm.ClassFile.FieldType), Jvm.Cond.code ({ cls := "java/lang/Object", name := "<init>", desc := "()V" } : Jvm.MethodName) object_method_1_code (1 : Nat) (Option.none : Option Jvm.ClassFile.FieldType), Jvm.Cond.code ({ cls := "com/example/spindle/spindle/SpinRule", name := "handedOn", desc := "()V" } : Jvm.MethodName) prog_40_method_2_code (1 : Nat) (Option.none : Option Jvm.ClassFile.FieldType), Jvm.Cond.code ({ cls := "com/example/spindle/spindle/SpinRule", name := "spinNanos", desc := "(J)J" } : Jvm.MethodName) prog_40_method_3_code (3 : Nat) (Option.some Jvm.ClassFile.FieldType.long), Jvm.Cond.code ({ cls := "com/example/spindle/spindle/SpinRuleCountWaitPinLaw", name := "decayTen", desc := "(Lcom/example/spindle/spindle/SpinRule;)V" } : Jvm.MethodName) method_3_code (1 : Nat) (Option.none : Option Jvm.ClassFile.FieldType), Jvm.Cond.code ({ cls := "com/example/spindle/spindle/SpinRule", name := "countWait", desc := "(ZZJ)V" } : Jvm.MethodName) prog_40_method_5_code (6 : Nat) (Option.none : Option Jvm.ClassFile.FieldType)]
set_option maxRecDepth 65536 in
theorem codes_eq : words1.filter isCode = codes1 := rfl
theorem w_codes : ∀ c ∈ words1.filter isCode, c.before args0 about1 = true := by
  rw [codes_eq]
  intro c hc
  simp only [codes1, List.mem_cons, List.not_mem_nil, or_false] at hc
  rcases hc with rfl | rfl | rfl | rfl | rfl | rfl | rfl
  · exact w_c0
  · exact w_c1
  · exact w_c2
  · exact w_c3
  · exact w_c4
  · exact w_c5
  · exact w_c6
set_option maxRecDepth 65536 in
theorem w_t1 : (words1.take 24).all (fun c => isCode c || c.before args0 about1) = true := by decide +kernel
set_option maxRecDepth 65536 in
theorem w_t2 : (words1.drop 24).all (fun c => isCode c || c.before args0 about1) = true := by decide +kernel
theorem w_tables : (allAtoms (Jvm.Cond.code x code maxLocals ret :: tables_1)).before args0 about1 = true := by
  rw [allAtoms_all]
  show words1.all (fun c => c.before args0 about1) = true
  refine all_split ?_ w_codes
  rw [← List.take_append_drop 24 words1, List.all_append, w_t1, w_t2]
  rfl
set_option maxRecDepth 65536 in
theorem w_case : (Jvm.Cond.and given_1 narrow_1).before args0 about1 = true := by decide +kernel
theorem w_applies : (headSpec (Jvm.Cond.code x code maxLocals ret :: tables_1) room_1).applies x e0.platform about1 = true :=
  (Spec.applies_iff w_frames).mpr ⟨w_running, w_runnable, w_alone, w_named, w_hears, w_ripe, w_room, w_tables⟩
theorem atStart : AtStart classFile x code maxLocals ret World_1 tables_1 room_1 Calls_1 rest_1 Pre_1 launch0 p0 e0 about1 theMethod args0 below0 :=
  ⟨lists_1, trivial, launch0.admits_env _ _ _, launch0.least_env, fairChoices_fair.cas, fairChoices_fair.clock, w_frames, w_args, w_heap, w_applies, trivial, trivial, w_case⟩
end start1
theorem witness_1 : WitnessClaimed_1 := ⟨start1.p0, start1.e0, start1.about1, start1.theMethod, start1.args0, start1.below0, start1.atStart⟩
end Jvm.Pilot.@@N@@
