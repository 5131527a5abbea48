import JvmDerived
import JvmDerived.Pilot.@@N@@Statement
import JvmDerived.Pilot.@@N@@Code
set_option linter.unusedVariables false
set_option linter.unusedSimpArgs false
namespace Jvm.RoadKit
open Sem ClassFile Op Lib Jvm.Stand Jvm.Free Jvm.LawKit
def GoW (p : Program) (e : Env) (below : List Frame) (s : State) (Q : Option Value → Heap → List Loc → Prop) (k n : Nat) (u : State) : Prop :=
  ∃ s₂ o, Steps p.tables e below u s₂ ∧ s₂.status = .running ∧ Ended s₂ below o ∧ ∃ v L, o = .returned v ∧ Q v s₂.heap L ∧ FrameEnd s o s₂ L k n
def PureQ (r : Value) (h0 : Heap) (n0 : Nat) (v : Option Value) (h : Heap) (L : List Loc) : Prop := v = some r ∧ Fr n0 L ∧ h = h0
def ValQ (r : Value) (n0 : Nat) (v : Option Value) (h : Heap) (L : List Loc) : Prop := v = some r ∧ Fr n0 L
section New
variable {p : Program} {l : Launch} {e : Env} {R : Room} {s : State} {m : MethodId} {args : Array Value} {below : List Frame} {meth : Method} {c : Code} {T : State} {locs : List Loc} {cells slots : Nat} {Q : Option Value → Heap → List Loc → Prop} {k n : Nat} {u v : State}
theorem GoW.mk (h : GoW p e below s Q k n u) : ∃ s₂ o, Steps p.tables e below u s₂ ∧ s₂.status = .running ∧ Ended s₂ below o ∧ ∃ v L, o = .returned v ∧ Q v s₂.heap L ∧ FrameEnd s o s₂ L k n := h
theorem GoW.st (h : ∀ t, Steps p.tables e below u t → Steps p.tables e below v t) (q : GoW p e below s Q k n u) : GoW p e below s Q k n v := by
  obtain ⟨s₂, o, h1, h2⟩ := q; exact ⟨s₂, o, h _ h1, h2⟩
theorem GoW.sg {T' : State} (g' : JFrame) (h : ∀ t, Steps p.tables e below (T'.setTop g') t → Steps p.tables e below v t) (q : GoW p e below s Q k n (T'.setTop g')) : GoW p e below s Q k n v := GoW.st h q
theorem retI (X : Stand p l e R s m args below meth c T locs cells slots) (hx : p.tables.exec = Jvm.exec) {pc : Nat} {Ls : Array Slot} {z : Int32} {rest : List Value} (hret : meth.sig.returnType = some .int) (hd : decode c.code pc = .ok (.ireturn, 1)) {fs : List Frame}
    (hl : ∀ (f : JFrame) (acts : List Action), f.method = m → f.locked = none → f.entered = [] → (doReturn e (T.setTop f) acts (some (.int z))).1 = T.setFrames fs) : Steps p.tables e below (T.setTop (mkF m pc Ls (.int z :: rest))) (T.setFrames fs) := by
  have hm' : T.vm.method? m = some meth := X.method'
  have hn : narrow .int (.int z) = .int z := rfl
  show Steps p.tables e below (T.setTop { method := m, pc := pc, locals := Ls, stack := _ :: rest, locked := none }) _
  jvm_step X.here [X.here.top, hx, hd, hm', hret, hn]
  first | (intro acts; rw [hl _ acts rfl rfl rfl]) | rw [hl _ _ rfl rfl rfl]
  exact Steps.refl _
theorem GoW.retN (X : Stand p l e R s m args below meth c T locs cells slots) (hx : p.tables.exec = Jvm.exec) {pc : Nat} {Ls : Array Slot} {z : Int32} {t : FieldType} {rest : List Value} (hret : meth.sig.returnType = some t) (ht : t = .boolean ∨ t = .byte ∨ t = .char ∨ t = .short)
    (hd : decode c.code pc = .ok (.ireturn, 1)) (hlk : meth.locks = false) (hq : Q (some (.int (nar t z))) T.heap locs) (hk : cells ≤ k) (hn : slots ≤ n) : GoW p e below s Q k n (T.setTop (mkF m pc Ls (.int z :: rest))) := by
  obtain ⟨fs, hr, hrun, hended, hW, hsame⟩ := X.leave (v := some (.int (nar t z))) (fun h => by rw [hret] at h; cases h) hlk
  exact ⟨_, _, Jvm.RoadKit.retN X hx hret ht hd hr, hrun, hended, _, _, rfl, hq, ⟨_, rfl⟩, hW, hsame.mono hk hn⟩
theorem GoW.retI (X : Stand p l e R s m args below meth c T locs cells slots) (hx : p.tables.exec = Jvm.exec) {pc : Nat} {Ls : Array Slot} {z : Int32} {rest : List Value} (hret : meth.sig.returnType = some .int)
    (hd : decode c.code pc = .ok (.ireturn, 1)) (hlk : meth.locks = false) (hq : Q (some (.int z)) T.heap locs) (hk : cells ≤ k) (hn : slots ≤ n) : GoW p e below s Q k n (T.setTop (mkF m pc Ls (.int z :: rest))) := by
  obtain ⟨fs, hr, hrun, hended, hW, hsame⟩ := X.leave (v := some (.int z)) (fun h => by rw [hret] at h; cases h) hlk
  exact ⟨_, _, Jvm.RoadKit.retI X hx hret hd hr, hrun, hended, _, _, rfl, hq, ⟨_, rfl⟩, hW, hsame.mono hk hn⟩
theorem GoW.retL (X : Stand p l e R s m args below meth c T locs cells slots) (hx : p.tables.exec = Jvm.exec) {pc : Nat} {Ls : Array Slot} {z : Int64} {rest : List Value} (hret : meth.sig.returnType = some .long)
    (hd : decode c.code pc = .ok (.lreturn, 1)) (hlk : meth.locks = false) (hq : Q (some (.long z)) T.heap locs) (hk : cells ≤ k) (hn : slots ≤ n) : GoW p e below s Q k n (T.setTop (mkF m pc Ls (.long z :: rest))) := by
  obtain ⟨fs, hr, hrun, hended, hW, hsame⟩ := X.leave (v := some (.long z)) (fun h => by rw [hret] at h; cases h) hlk
  exact ⟨_, _, retOut X hx hret rfl (Or.inr (Or.inl ⟨rfl, rfl, z, rfl⟩)) hd hr, hrun, hended, _, _, rfl, hq, ⟨_, rfl⟩, hW, hsame.mono hk hn⟩
theorem GoW.retA (X : Stand p l e R s m args below meth c T locs cells slots) (hx : p.tables.exec = Jvm.exec) {pc : Nat} {Ls : Array Slot} {w : Value} {t : FieldType} {rest : List Value} (hret : meth.sig.returnType = some t) (hw : w.isRef = true) (ht : t.isReference = true)
    (hn' : narrow t w = w) (hd : decode c.code pc = .ok (.areturn, 1)) (hlk : meth.locks = false) (hq : Q (some w) T.heap locs) (hk : cells ≤ k) (hn : slots ≤ n) : GoW p e below s Q k n (T.setTop (mkF m pc Ls (w :: rest))) := by
  obtain ⟨fs, hr, hrun, hended, hW, hsame⟩ := X.leave (v := some w) (fun h => by rw [hret] at h; cases h) hlk
  exact ⟨_, _, retOut X hx hret hn' (Or.inr (Or.inr (Or.inr (Or.inr ⟨rfl, ht, hw⟩)))) hd hr, hrun, hended, _, _, rfl, hq, ⟨_, rfl⟩, hW, hsame.mono hk hn⟩
theorem GoW.retV (X : Stand p l e R s m args below meth c T locs cells slots) (hx : p.tables.exec = Jvm.exec) {pc : Nat} {Ls : Array Slot} (hret : meth.sig.returnType = none)
    (hd : decode c.code pc = .ok (.return_, 1)) (hlk : meth.locks = false) (hq : Q none T.heap locs) (hk : cells ≤ k) (hn : slots ≤ n) : GoW p e below s Q k n (T.setTop (mkF m pc Ls [])) := by
  obtain ⟨fs, hr, hrun, hended, hW, hsame⟩ := X.leave (v := none) (fun _ => rfl) hlk
  exact ⟨_, _, X.returnOut hx hret hd hr, hrun, hended, _, _, rfl, hq, ⟨_, rfl⟩, hW, hsame.mono hk hn⟩
theorem own_eqI {args : Array Value} {first s : State} {o : Option Outcome} {idx : List Nat} {t : Term} {i : Int32} (h : (Jvm.Cond.eq t (.int i)).value args first o s idx = some true) : t.eval args first o idx s = some (.int i) := by
  obtain ⟨x, y, hx, hy, k1, k2⟩ := cmp_v (Or.inl h)
  rw [Term.int_eval] at hy
  cases hy
  obtain ⟨z, rfl⟩ := k2
  have q := gotT (Cond.eq_ints hx (Term.int_eval i)) h
  rw [hx, q]
theorem own_ne {args : Array Value} {first s : State} {o : Option Outcome} {idx : List Nat} {t u : Term} {C n d : String} {i j : Int32} {a b : Addr} (h1 : (Jvm.Cond.eq (.field t C n d) (.int i)).value args first o s idx = some true) (h2 : (Jvm.Cond.eq (.field u C n d) (.int j)).value args first o s idx = some true)
    (ha : t.eval args first o idx s = some (.ref a)) (hb : u.eval args first o idx s = some (.ref b)) (hij : i ≠ j) : a ≠ b := fun e => by
  subst e
  have q1 := own_eqI h1
  have q2 := own_eqI h2
  rw [fld_at ha] at q1
  rw [fld_at hb, q1] at q2
  exact hij (by cases q2; rfl)
theorem own_staK0 {Z : State} {h h' : Heap} {C n d : String} {v : Value} (F : Sta Z h C n d v) (K : Keep h h' []) : Sta Z h' C n d v := by
  obtain ⟨cf, i, k, f, st, cell, h1, h2, h3, h4, h5, r⟩ := F; exact ⟨cf, i, k, f, st, cell, h1, h2, h3, h4, K.2.1 _ _ h5 nin0, r⟩
theorem own_staK1 {Z : State} {h h' : Heap} {C n d K0 : String} {v : Value} {a : Addr} (F : Sta Z h C n d v) (K : Keep h h' [a]) (E : Exa Z h a K0) : Sta Z h' C n d v := by
  obtain ⟨cf, i, k, f, st, cell, h1, h2, h3, h4, h5, h6, r⟩ := F
  refine ⟨cf, i, k, f, st, cell, h1, h2, h3, h4, K.2.1 _ _ h5 (ninS (fun q => ?_) nin0), h6, r⟩
  subst q
  obtain ⟨cell2, k2, g1, -, -, g2, -⟩ := E
  cases h5.symm.trans g1
  rw [h6] at g2; cases g2
theorem GoW.retD (X : Stand p l e R s m args below meth c T locs cells slots) (hx : p.tables.exec = Jvm.exec) {pc : Nat} {Ls : Array Slot} {z : UInt64} {rest : List Value} (hret : meth.sig.returnType = some .double)
    (hd : decode c.code pc = .ok (.dreturn, 1)) (hlk : meth.locks = false) (hq : Q (some (.double z)) T.heap locs) (hk : cells ≤ k) (hn : slots ≤ n) : GoW p e below s Q k n (T.setTop (mkF m pc Ls (.double z :: rest))) := by
  obtain ⟨fs, hr, hrun, hended, hW, hsame⟩ := X.leave (v := some (.double z)) (fun h => by rw [hret] at h; cases h) hlk
  exact ⟨_, _, retOut X hx hret rfl (Or.inr (Or.inr (Or.inl ⟨rfl, rfl, z, rfl⟩))) hd hr, hrun, hended, _, _, rfl, hq, ⟨_, rfl⟩, hW, hsame.mono hk hn⟩
theorem own_pop2L {tb : Tables} [Ours tb] {e : Env} {below : List Frame} {T target : State} {m : MethodId} {c : Code} {g : JFrame} (h : At T m c below) (hx : tb.exec = Jvm.exec) (hg : g.method = m) {x : Int64} {rest : List Value} (hd : decode c.code g.pc = .ok (.pop2, 1)) (hs : g.stack = .long x :: rest)
    (hr : Steps tb e below (T.setTop { g with pc := g.pc + 1, stack := rest }) target) : Steps tb e below (T.setTop g) target := by
  subst hg
  jvm_step h [h.top, hx, hd, hs, Value.category]
  exact hr
end New
end Jvm.RoadKit
namespace Jvm.Pilot.@@N@@
open Jvm Jvm.ClassFile Sem Op Lib Jvm.Free Jvm.Stand Jvm.LawKit Jvm.RoadKit Bundle Jvm.Pilot.@@N@@.Jvm.D
theorem ww {Z : State} {a0 : Array Value} (hw : ∀ d ∈ tables_1, d.before a0 Z = true) (i : Nat) {d : Jvm.Cond} (h : tables_1[i]? = some d) : d.before a0 Z = true := hw _ (List.mem_of_getElem? h)
theorem pn_com_example_abacus_abacus_engine_WorkBudget : plainName "com/example/abacus/abacus/engine/WorkBudget" = true := by first | (simp [plainName, overriddenIn]; done) | decide +kernel
abbrev K0 (p0 : Addr) (p1 : Int64) : Array Slot := #[.val (.ref p0), .val (.long p1), .second]
theorem d1_0 : decode prog_69_method_1_code 0 = .ok (.aload_n 0, 1) := by decide +kernel
theorem d1_1 : decode prog_69_method_1_code 1 = .ok (.invokespecial 1, 3) := by decide +kernel
theorem d1_4 : decode prog_69_method_1_code 4 = .ok (.aload_n 0, 1) := by decide +kernel
theorem d1_5 : decode prog_69_method_1_code 5 = .ok (.lload_n 1, 1) := by decide +kernel
theorem d1_6 : decode prog_69_method_1_code 6 = .ok (.putfield 7, 3) := by decide +kernel
theorem d1_9 : decode prog_69_method_1_code 9 = .ok (.return_, 1) := by decide +kernel
theorem d3_0 : decode prog_69_method_3_code 0 = .ok (.aload_n 0, 1) := by decide +kernel
theorem d3_1 : decode prog_69_method_3_code 1 = .ok (.dup, 1) := by decide +kernel
theorem d3_2 : decode prog_69_method_3_code 2 = .ok (.getfield 7, 3) := by decide +kernel
theorem d3_5 : decode prog_69_method_3_code 5 = .ok (.lload_n 1, 1) := by decide +kernel
theorem d3_6 : decode prog_69_method_3_code 6 = .ok (.lsub, 1) := by decide +kernel
theorem d3_7 : decode prog_69_method_3_code 7 = .ok (.putfield 7, 3) := by decide +kernel
theorem d3_10 : decode prog_69_method_3_code 10 = .ok (.aload_n 0, 1) := by decide +kernel
theorem d3_11 : decode prog_69_method_3_code 11 = .ok (.getfield 7, 3) := by decide +kernel
theorem d3_14 : decode prog_69_method_3_code 14 = .ok (.lconst 0, 1) := by decide +kernel
theorem d3_15 : decode prog_69_method_3_code 15 = .ok (.lcmp, 1) := by decide +kernel
theorem d3_16 : decode prog_69_method_3_code 16 = .ok (.ifCond .lt 7, 3) := by decide +kernel
theorem d3_23 : decode prog_69_method_3_code 23 = .ok (.iconst 0, 1) := by decide +kernel
theorem d3_24 : decode prog_69_method_3_code 24 = .ok (.ireturn, 1) := by decide +kernel
theorem d3_19 : decode prog_69_method_3_code 19 = .ok (.iconst 1, 1) := by decide +kernel
theorem d3_20 : decode prog_69_method_3_code 20 = .ok (.goto 4, 3) := by decide +kernel
theorem d4_0 : decode prog_69_method_2_code 0 = .ok (.aload_n 0, 1) := by decide +kernel
theorem d4_1 : decode prog_69_method_2_code 1 = .ok (.lconst 1, 1) := by decide +kernel
theorem pd_28J29Z : parseMethodDescriptor "(J)Z" = some ⟨[.long], some .boolean⟩ := by decide +kernel
theorem d4_2 : decode prog_69_method_2_code 2 = .ok (.invokevirtual 13, 3) := by decide +kernel
theorem d4_5 : decode prog_69_method_2_code 5 = .ok (.ireturn, 1) := by decide +kernel
theorem pn_com_example_abacus_abacus_engine_WorkBudgetTakePinLaw : plainName "com/example/abacus/abacus/engine/WorkBudgetTakePinLaw" = true := by first | (simp [plainName, overriddenIn]; done) | decide +kernel
abbrev K1 (p0 : Int64) (p1 : Int64) (p2 : Int64) : Array Slot := #[.val (.long p0), .second, .val (.long p1), .second, .val (.long p2), .second, .unset, .unset, .unset, .unset, .unset, .unset, .unset, .unset, .unset, .unset, .unset, .unset, .unset]
abbrev K2 (p0 : Int64) (p1 : Int64) (p2 : Int64) (p3 : Int64) : Array Slot := #[.val (.long p0), .second, .val (.long p1), .second, .val (.long p2), .second, .val (.long p3), .second, .unset, .unset, .unset, .unset, .unset, .unset, .unset, .unset, .unset, .unset, .unset]
abbrev K3 (p0 : Int64) (p1 : Int64) (p2 : Int64) (p3 : Int64) (p4 : Int64) : Array Slot := #[.val (.long p0), .second, .val (.long p1), .second, .val (.long p2), .second, .val (.long p3), .second, .val (.long p4), .second, .unset, .unset, .unset, .unset, .unset, .unset, .unset, .unset, .unset]
abbrev K4 (p0 : Int64) (p1 : Int64) (p2 : Int64) (p3 : Int64) (p4 : Int64) (p5 : Int64) : Array Slot := #[.val (.long p0), .second, .val (.long p1), .second, .val (.long p2), .second, .val (.long p3), .second, .val (.long p4), .second, .val (.long p5), .second, .unset, .unset, .unset, .unset, .unset, .unset, .unset]
theorem pd_28J29V : parseMethodDescriptor "(J)V" = some ⟨[.long], none⟩ := by decide +kernel
abbrev K5 (p0 : Int64) (p1 : Int64) (p2 : Int64) (p3 : Int64) (p4 : Int64) (p5 : Int64) (p6 : Addr) : Array Slot := #[.val (.long p0), .second, .val (.long p1), .second, .val (.long p2), .second, .val (.long p3), .second, .val (.long p4), .second, .val (.long p5), .second, .val (.ref p6), .unset, .unset, .unset, .unset, .unset, .unset]
abbrev K6 (p0 : Int64) (p1 : Int64) (p2 : Int64) (p3 : Int64) (p4 : Int64) (p5 : Int64) (p6 : Addr) (p7 : Int32) : Array Slot := #[.val (.long p0), .second, .val (.long p1), .second, .val (.long p2), .second, .val (.long p3), .second, .val (.long p4), .second, .val (.long p5), .second, .val (.ref p6), .val (.int p7), .unset, .unset, .unset, .unset, .unset]
abbrev K7 (p0 : Int64) (p1 : Int64) (p2 : Int64) (p3 : Int64) (p4 : Int64) (p5 : Int64) (p6 : Addr) (p7 : Int32) (p8 : Int32) : Array Slot := #[.val (.long p0), .second, .val (.long p1), .second, .val (.long p2), .second, .val (.long p3), .second, .val (.long p4), .second, .val (.long p5), .second, .val (.ref p6), .val (.int p7), .val (.int p8), .unset, .unset, .unset, .unset]
theorem pd_2829Z : parseMethodDescriptor "()Z" = some ⟨[], some .boolean⟩ := by decide +kernel
abbrev K8 (p0 : Int64) (p1 : Int64) (p2 : Int64) (p3 : Int64) (p4 : Int64) (p5 : Int64) (p6 : Addr) (p7 : Int32) (p8 : Int32) (p9 : Int32) : Array Slot := #[.val (.long p0), .second, .val (.long p1), .second, .val (.long p2), .second, .val (.long p3), .second, .val (.long p4), .second, .val (.long p5), .second, .val (.ref p6), .val (.int p7), .val (.int p8), .val (.int p9), .unset, .unset, .unset]
abbrev K9 (p0 : Int64) (p1 : Int64) (p2 : Int64) (p3 : Int64) (p4 : Int64) (p5 : Int64) (p6 : Addr) (p7 : Int32) (p8 : Int32) (p9 : Int32) (p10 : Int32) : Array Slot := #[.val (.long p0), .second, .val (.long p1), .second, .val (.long p2), .second, .val (.long p3), .second, .val (.long p4), .second, .val (.long p5), .second, .val (.ref p6), .val (.int p7), .val (.int p8), .val (.int p9), .val (.int p10), .unset, .unset]
abbrev K10 (p0 : Int64) (p1 : Int64) (p2 : Int64) (p3 : Int64) (p4 : Int64) (p5 : Int64) (p6 : Addr) (p7 : Int32) (p8 : Int32) (p9 : Int32) (p10 : Int32) (p11 : Int32) : Array Slot := #[.val (.long p0), .second, .val (.long p1), .second, .val (.long p2), .second, .val (.long p3), .second, .val (.long p4), .second, .val (.long p5), .second, .val (.ref p6), .val (.int p7), .val (.int p8), .val (.int p9), .val (.int p10), .val (.int p11), .unset]
abbrev K11 (p0 : Int64) (p1 : Int64) (p2 : Int64) (p3 : Int64) (p4 : Int64) (p5 : Int64) (p6 : Addr) (p7 : Int32) (p8 : Int32) (p9 : Int32) (p10 : Int32) (p11 : Int32) (p12 : Int32) : Array Slot := #[.val (.long p0), .second, .val (.long p1), .second, .val (.long p2), .second, .val (.long p3), .second, .val (.long p4), .second, .val (.long p5), .second, .val (.ref p6), .val (.int p7), .val (.int p8), .val (.int p9), .val (.int p10), .val (.int p11), .val (.int p12)]
def Q1 (Z : State) (a1 : Addr) (q1 : Int64) (h0 : Heap) (n0 : Nat) (v : Option Value) (h : Heap) (L : List Loc) : Prop := v = none ∧ Fr n0 L ∧ (Keep h0 h [a1]) ∧ (Exa Z h a1 "com/example/abacus/abacus/engine/WorkBudget") ∧ (Fld Z h a1 "com/example/abacus/abacus/engine/WorkBudget" "left" "J" (.long q1))
theorem ef1_rm1 (m : MethodId) (a1 : Addr) (q1 : Int64) : entryFrame m #[(.ref a1), (.long q1)] 3 = (mkF m 0 #[.val (.ref a1), .val (.long q1), .second] []) := by first | (simp [entryFrame, mkF, argsToLocals, Value.category, maxLocals]; done) | rfl
set_option maxRecDepth 65536 in
set_option maxHeartbeats 40000000 in
theorem rm1 (l : Launch) (Z : State) (a0 : Array Value) (hw : ∀ d ∈ tables_1, d.before a0 Z = true) (ws : List Jvm.Cond) (a1 : Addr) (q1 : Int64)  (h0 : Heap) (n0 : Nat) (P0 : Exa Z h0 a1 "com/example/abacus/abacus/engine/WorkBudget") (P1 : Fld Z h0 a1 "com/example/abacus/abacus/engine/WorkBudget" "left" "J" (.long (0 : Int64))) (g_a1 : n0 ≤ a1)   :
    MetFree l (⟨"com/example/abacus/abacus/engine/WorkBudget", "<init>", "(J)V"⟩ : MethodName) (head1 (Jvm.Cond.code (⟨"com/example/abacus/abacus/engine/WorkBudget", "<init>", "(J)V"⟩ : MethodName) prog_69_method_1_code 3 none :: ws) ({ frames := 1, cells := 0, slots := 0, locals := 12 } : Room)) (fun a U => a = #[(.ref a1), (.long q1)] ∧ Z.Warmed39 U.vm ∧ U.heap = h0) (fun _ _ _ _ _ => True) (fun _ U o U' => ∃ v L, o = .returned v ∧ (Q1 Z a1 q1 h0 n0) v U'.heap L ∧ FrameEnd U o U' L 0 0) := by
  refine MetFree.of_bodySF (plainFor_of_name pn_com_example_abacus_abacus_engine_WorkBudget) hisR ?_
  intro p e s m args below meth c s₁ Bd hml0 hP hK
  obtain ⟨rfl, hZ, hh⟩ := hP
  have hx := Bd.exec
  have hby := Bd.bytes
  have hml : c.maxLocals = 3 := hml0
  have hown : s.vm.findClass "com/example/abacus/abacus/engine/WorkBudget" = some m.cls := findClass_of_methodNamed Bd.named
  have hnm := (name_of_methodNamed Bd.named Bd.method).1
  have X0 : Stand p l e ({ frames := 1, cells := 0, slots := 0, locals := 12 } : Room) s m #[(.ref a1), (.long q1)] below meth c s₁ [] 0 0 := Stand.of_body Bd
  have e0 : s₁.heap = h0 := by rw [← hh, Bd.state]; rfl
  have N0 := Fr.nil n0
  refine GoW.mk ?_
  refine GoW.st (fun t k => castTop (ef1_rm1 m a1 q1) k) ?_
  show GoW p e below s (Q1 Z a1 q1 h0 n0) 0 0 (s₁.setTop (mkF m 0 (K0 a1 q1) []))
  refine GoW.sg (mkF m 1 (K0 a1 q1) [(.ref a1)]) (fun t k => XS.aloadN X0.here hx rfl (hb hby d1_0) rfl rfl k) ?_
  obtain ⟨T1, X1, e1, st1⟩ := initO X0 hx hZ hown (ww hw 7 rfl) (ww hw 8 rfl) (ww hw 9 rfl) e0 (g := (mkF m 1 (K0 a1 q1) [(.ref a1)])) rfl (by rw [hml]; rfl) rfl (hb hby d1_1) (by decide) (W := 0) (by show 2 * 0 + _ ≤ _; exact Nat.le_of_eq rfl) (by decide)
  refine GoW.sg (mkF m 4 (K0 a1 q1) []) (fun t k => st1 t k) ?_
  refine GoW.sg (mkF m 5 (K0 a1 q1) [(.ref a1)]) (fun t k => XS.aloadN X1.here hx rfl (hb hby d1_4) rfl rfl k) ?_
  refine GoW.sg (mkF m 6 (K0 a1 q1) [(.long q1), (.ref a1)]) (fun t k => XS.lloadN X1.here hx rfl (hb hby d1_5) rfl k) ?_
  obtain ⟨T2, h2, X2, e2, W2, st2⟩ := putF X1 hx hZ hown (host := "") (Or.inl (ww hw 10 rfl)) Via.refl e1 P1 P0 (Or.inl (ww hw 11 rfl)) (ww hw 2 rfl) (ty := .long) (by decide) rfl rfl (g := (mkF m 6 (K0 a1 q1) [(.long q1), (.ref a1)])) rfl rfl (hb hby d1_6)
  have N2 := Fr.snoc X2 N0 g_a1
  have Exa_a1_2 : Exa Z h2 a1 "com/example/abacus/abacus/engine/WorkBudget" := P0.wr W2
  have Keep_2 : Keep h0 h2 [a1] := (Keep.refl h0 [a1]).wr W2 (Or.inl (List.mem_of_getElem? (i := 0) rfl))
  have Fld_a1_left_2 : Fld Z h2 a1 "com/example/abacus/abacus/engine/WorkBudget" "left" "J" (.long q1) := P1.same W2
  refine GoW.sg (mkF m 9 (K0 a1 q1) []) (fun t k => st2 t k) ?_
  refine GoW.retV X2 hx Bd.returns (hb hby d1_9) Bd.notSynchronized ?_ (by decide) (by decide)
  rw [e2]
  exact ⟨rfl, N2, Keep_2, Exa_a1_2, Fld_a1_left_2⟩
def F3 (q1 : Int64) (w : Int64) : Int32 := (if (w - q1) < (0 : Int64) then (0 : Int32) else (1 : Int32))
def Q3 (Z : State) (a1 : Addr) (q1 : Int64) (w : Int64) (h0 : Heap) (n0 : Nat) (v : Option Value) (h : Heap) (L : List Loc) : Prop := v = some (.int (F3 q1 w)) ∧ Fr n0 L ∧ (Keep h0 h [a1]) ∧ (Exa Z h a1 "com/example/abacus/abacus/engine/WorkBudget") ∧ (Fld Z h a1 "com/example/abacus/abacus/engine/WorkBudget" "left" "J" (.long (w - q1)))
theorem ef3_rm3 (m : MethodId) (a1 : Addr) (q1 : Int64) : entryFrame m #[(.ref a1), (.long q1)] 3 = (mkF m 0 #[.val (.ref a1), .val (.long q1), .second] []) := by first | (simp [entryFrame, mkF, argsToLocals, Value.category, maxLocals]; done) | rfl
set_option maxRecDepth 65536 in
set_option maxHeartbeats 40000000 in
theorem rm3 (l : Launch) (Z : State) (a0 : Array Value) (hw : ∀ d ∈ tables_1, d.before a0 Z = true) (ws : List Jvm.Cond) (a1 : Addr) (q1 : Int64) (w : Int64) (h0 : Heap) (n0 : Nat) (P0 : Exa Z h0 a1 "com/example/abacus/abacus/engine/WorkBudget") (P1 : Fld Z h0 a1 "com/example/abacus/abacus/engine/WorkBudget" "left" "J" (.long w)) (g_a1 : n0 ≤ a1)   :
    MetFree l (⟨"com/example/abacus/abacus/engine/WorkBudget", "take", "(J)Z"⟩ : MethodName) (head1 (Jvm.Cond.code (⟨"com/example/abacus/abacus/engine/WorkBudget", "take", "(J)Z"⟩ : MethodName) prog_69_method_3_code 3 (some .boolean) :: ws) ({ frames := 0, cells := 0, slots := 0, locals := 0 } : Room)) (fun a U => a = #[(.ref a1), (.long q1)] ∧ Z.Warmed39 U.vm ∧ U.heap = h0) (fun _ _ _ _ _ => True) (fun _ U o U' => ∃ v L, o = .returned v ∧ (Q3 Z a1 q1 w h0 n0) v U'.heap L ∧ FrameEnd U o U' L 0 0) := by
  refine MetFree.of_bodySF (plainFor_of_name pn_com_example_abacus_abacus_engine_WorkBudget) hisR ?_
  intro p e s m args below meth c s₁ Bd hml0 hP hK
  obtain ⟨rfl, hZ, hh⟩ := hP
  have hx := Bd.exec
  have hby := Bd.bytes
  have hml : c.maxLocals = 3 := hml0
  have hown : s.vm.findClass "com/example/abacus/abacus/engine/WorkBudget" = some m.cls := findClass_of_methodNamed Bd.named
  have hnm := (name_of_methodNamed Bd.named Bd.method).1
  have X0 : Stand p l e ({ frames := 0, cells := 0, slots := 0, locals := 0 } : Room) s m #[(.ref a1), (.long q1)] below meth c s₁ [] 0 0 := Stand.of_body Bd
  have e0 : s₁.heap = h0 := by rw [← hh, Bd.state]; rfl
  have N0 := Fr.nil n0
  refine GoW.mk ?_
  refine GoW.st (fun t k => castTop (ef3_rm3 m a1 q1) k) ?_
  show GoW p e below s (Q3 Z a1 q1 w h0 n0) 0 0 (s₁.setTop (mkF m 0 (K0 a1 q1) []))
  refine GoW.sg (mkF m 1 (K0 a1 q1) [(.ref a1)]) (fun t k => XS.aloadN X0.here hx rfl (hb hby d3_0) rfl rfl k) ?_
  refine GoW.sg (mkF m 2 (K0 a1 q1) [(.ref a1), (.ref a1)]) (fun t k => XS.dup X0.here hx rfl (hb hby d3_1) rfl rfl k) ?_
  obtain ⟨T3, X3, e3, st3⟩ := getF X0 hx hZ hown (host := "") (Or.inl (ww hw 10 rfl)) Via.refl e0 P1 (g := (mkF m 2 (K0 a1 q1) [(.ref a1), (.ref a1)])) rfl rfl (hb hby d3_2)
  refine GoW.sg (mkF m 5 (K0 a1 q1) [(.long w), (.ref a1)]) (fun t k => st3 t k) ?_
  refine GoW.sg (mkF m 6 (K0 a1 q1) [(.long q1), (.long w), (.ref a1)]) (fun t k => XS.lloadN X3.here hx rfl (hb hby d3_5) rfl k) ?_
  refine GoW.sg (mkF m 7 (K0 a1 q1) [(.long (w - q1)), (.ref a1)]) (fun t k => XS.lsub X3.here hx rfl (hb hby d3_6) rfl k) ?_
  obtain ⟨T4, h4, X4, e4, W4, st4⟩ := putF X3 hx hZ hown (host := "") (Or.inl (ww hw 10 rfl)) Via.refl e3 P1 P0 (Or.inl (ww hw 11 rfl)) (ww hw 2 rfl) (ty := .long) (by decide) rfl rfl (g := (mkF m 7 (K0 a1 q1) [(.long (w - q1)), (.ref a1)])) rfl rfl (hb hby d3_7)
  have N4 := Fr.snoc X4 N0 g_a1
  have Exa_a1_4 : Exa Z h4 a1 "com/example/abacus/abacus/engine/WorkBudget" := P0.wr W4
  have Keep_4 : Keep h0 h4 [a1] := (Keep.refl h0 [a1]).wr W4 (Or.inl (List.mem_of_getElem? (i := 0) rfl))
  have Fld_a1_left_4 : Fld Z h4 a1 "com/example/abacus/abacus/engine/WorkBudget" "left" "J" (.long (w - q1)) := P1.same W4
  refine GoW.sg (mkF m 10 (K0 a1 q1) []) (fun t k => st4 t k) ?_
  refine GoW.sg (mkF m 11 (K0 a1 q1) [(.ref a1)]) (fun t k => XS.aloadN X4.here hx rfl (hb hby d3_10) rfl rfl k) ?_
  obtain ⟨T5, X5, e5, st5⟩ := getF X4 hx hZ hown (host := "") (Or.inl (ww hw 10 rfl)) Via.refl e4 Fld_a1_left_4 (g := (mkF m 11 (K0 a1 q1) [(.ref a1)])) rfl rfl (hb hby d3_11)
  refine GoW.sg (mkF m 14 (K0 a1 q1) [(.long (w - q1))]) (fun t k => st5 t k) ?_
  refine GoW.sg (mkF m 15 (K0 a1 q1) [(.long 0), (.long (w - q1))]) (fun t k => XS.lconst X5.here hx rfl (hb hby d3_14) k) ?_
  refine GoW.sg (mkF m 16 (K0 a1 q1) [(.int (lcmpW (w - q1) (0 : Int64)))]) (fun t k => XS.lcmp X5.here hx rfl (hb hby d3_15) rfl k) ?_
  by_cases c6 : (w - q1) < (0 : Int64)
  · refine GoW.sg (mkF m 23 (K0 a1 q1) []) (fun t k => XS.ifYes X5.here hx rfl (pc0 := 16) (pc' := 23) rfl (hb hby d3_16) rfl ((if0 _ _).trans (tlt ((lw_lt _ _).mpr c6)).1) (by decide) (by decide) k) ?_
    refine GoW.sg (mkF m 24 (K0 a1 q1) [(.int 0)]) (fun t k => XS.iconst X5.here hx rfl (hb hby d3_23) k) ?_
    refine GoW.retN X5 hx (t := .boolean) Bd.returns (by simp) (hb hby d3_24) Bd.notSynchronized ?_ (by decide) (by decide)
    rw [e5]
    have hq : (F3 q1 w) = (0 : Int32) := by unfold F3; rw [if_pos c6]; try rfl
    exact ⟨by rw [hq] <;> rfl, N4, Keep_4, Exa_a1_4, Fld_a1_left_4⟩
  · refine GoW.sg (mkF m 19 (K0 a1 q1) []) (fun t k => XS.ifNo X5.here hx rfl (hb hby d3_16) rfl ((if0 _ _).trans (flt (mt (lw_lt _ _).mp c6)).1) k) ?_
    refine GoW.sg (mkF m 20 (K0 a1 q1) [(.int 1)]) (fun t k => XS.iconst X5.here hx rfl (hb hby d3_19) k) ?_
    refine GoW.sg (mkF m 24 (K0 a1 q1) [(.int 1)]) (fun t k => XS.goto X5.here hx rfl (pc0 := 20) (pc' := 24) rfl (hb hby d3_20) (by decide) (by decide) k) ?_
    refine GoW.retN X5 hx (t := .boolean) Bd.returns (by simp) (hb hby d3_24) Bd.notSynchronized ?_ (by decide) (by decide)
    rw [e5]
    have hq : (F3 q1 w) = (1 : Int32) := by unfold F3; rw [if_neg c6]; try rfl
    exact ⟨by rw [hq] <;> rfl, N4, Keep_4, Exa_a1_4, Fld_a1_left_4⟩
def F4 (w : Int64) : Int32 := (nar .boolean (F3 (1 : Int64) w))
def Q4 (Z : State) (a1 : Addr) (w : Int64) (h0 : Heap) (n0 : Nat) (v : Option Value) (h : Heap) (L : List Loc) : Prop := v = some (.int (F4 w)) ∧ Fr n0 L ∧ (Keep h0 h [a1]) ∧ (Exa Z h a1 "com/example/abacus/abacus/engine/WorkBudget") ∧ (Fld Z h a1 "com/example/abacus/abacus/engine/WorkBudget" "left" "J" (.long (w - (1 : Int64))))
theorem ef4_rm4 (m : MethodId) (a1 : Addr) : entryFrame m #[(.ref a1)] 1 = (mkF m 0 #[.val (.ref a1)] []) := by first | (simp [entryFrame, mkF, argsToLocals, Value.category, maxLocals]; done) | rfl
set_option maxRecDepth 65536 in
set_option maxHeartbeats 40000000 in
theorem rm4 (l : Launch) (Z : State) (a0 : Array Value) (hw : ∀ d ∈ tables_1, d.before a0 Z = true) (ws : List Jvm.Cond) (a1 : Addr) (w : Int64) (h0 : Heap) (n0 : Nat) (P0 : Exa Z h0 a1 "com/example/abacus/abacus/engine/WorkBudget") (P1 : Fld Z h0 a1 "com/example/abacus/abacus/engine/WorkBudget" "left" "J" (.long w)) (g_a1 : n0 ≤ a1)   :
    MetFree l (⟨"com/example/abacus/abacus/engine/WorkBudget", "take", "()Z"⟩ : MethodName) (head1 (Jvm.Cond.code (⟨"com/example/abacus/abacus/engine/WorkBudget", "take", "()Z"⟩ : MethodName) prog_69_method_2_code 1 (some .boolean) :: ws) ({ frames := 1, cells := 0, slots := 0, locals := 14 } : Room)) (fun a U => a = #[(.ref a1)] ∧ Z.Warmed39 U.vm ∧ U.heap = h0) (fun _ _ _ _ _ => True) (fun _ U o U' => ∃ v L, o = .returned v ∧ (Q4 Z a1 w h0 n0) v U'.heap L ∧ FrameEnd U o U' L 0 0) := by
  refine MetFree.of_bodySF (plainFor_of_name pn_com_example_abacus_abacus_engine_WorkBudget) hisR ?_
  intro p e s m args below meth c s₁ Bd hml0 hP hK
  obtain ⟨rfl, hZ, hh⟩ := hP
  have hx := Bd.exec
  have hby := Bd.bytes
  have hml : c.maxLocals = 1 := hml0
  have hown : s.vm.findClass "com/example/abacus/abacus/engine/WorkBudget" = some m.cls := findClass_of_methodNamed Bd.named
  have hnm := (name_of_methodNamed Bd.named Bd.method).1
  have X0 : Stand p l e ({ frames := 1, cells := 0, slots := 0, locals := 14 } : Room) s m #[(.ref a1)] below meth c s₁ [] 0 0 := Stand.of_body Bd
  have e0 : s₁.heap = h0 := by rw [← hh, Bd.state]; rfl
  have N0 := Fr.nil n0
  refine GoW.mk ?_
  refine GoW.st (fun t k => castTop (ef4_rm4 m a1) k) ?_
  show GoW p e below s (Q4 Z a1 w h0 n0) 0 0 (s₁.setTop (mkF m 0 #[.val (.ref a1)] []))
  refine GoW.sg (mkF m 1 #[.val (.ref a1)] [(.ref a1)]) (fun t k => XS.aloadN X0.here hx rfl (hb hby d4_0) rfl rfl k) ?_
  refine GoW.sg (mkF m 2 #[.val (.ref a1)] [(.long 1), (.ref a1)]) (fun t k => XS.lconst X0.here hx rfl (hb hby d4_1) k) ?_
  obtain ⟨cq7, kq7, q7a, q7b, q7c⟩ := isOf hZ e0 P0
  obtain ⟨_, _, ⟨T7, L7, k7, n7⟩, -, X7, ⟨Lc7, hQ7, l7, y7, z7⟩, st7⟩ := X0.virtualBack hx (y := (⟨"com/example/abacus/abacus/engine/WorkBudget", "take", "(J)Z"⟩ : MethodName)) (z := (⟨"com/example/abacus/abacus/engine/WorkBudget", "take", "(J)Z"⟩ : MethodName)) hown (mvT hZ (ww hw 22 rfl)) (mvT hZ (ww hw 13 rfl)) (notFace_of_selects (args := #[]) (mvT hZ (ww hw 15 rfl))) (mvT hZ (ww hw 15 rfl)) (mvT hZ (ww hw 14 rfl)) (by decide) (backOf (W := 0) (rm3 l Z a0 hw [] a1 (1 : Int64) w h0 n0  P0 P1 g_a1  ) hZ (ww hw 16 rfl) (ww hw 3 rfl) (by decide) (by decide)) q7a q7c (g := (mkF m 2 #[.val (.ref a1)] [(.long 1), (.ref a1)])) rfl (by rw [hml]; rfl) (Steps.refl _) (argsL := [(.long (1 : Int64))]) (rest := []) (lenOf pd_28J29Z rfl) rfl (by show 2 * 0 + _ ≤ _; exact Nat.le_of_eq rfl) (hb hby d4_2) (fun _ _ => ⟨rfl, e0, (by decide : 0 + 0 ≤ _), (by decide : 0 + 0 ≤ _)⟩)
  dsimp only [Pt.U, Pt.locs, Pt.cells, Pt.slots] at X7 l7 y7 z7 st7 hQ7
  subst l7 y7 z7
  obtain ⟨rfl, N7q, K7, p7_0, p7_1⟩ := hQ7
  have N7 := Fr.app N0 N7q
  have Keep_7 : Keep h0 T7.heap [a1] := (Keep.refl h0 [a1]).trans K7 (allS (Or.inl (List.mem_of_getElem? (i := 0) rfl)) all0)
  refine GoW.sg (mkF m 5 #[.val (.ref a1)] [(.int (F3 (1 : Int64) w))]) (fun t k => st7.trans k) ?_
  refine GoW.retN X7 hx (t := .boolean) Bd.returns (by simp) (hb hby d4_5) Bd.notSynchronized ?_ (by decide) (by decide)
  have hq : (F4 w) = (nar .boolean (F3 (1 : Int64) w)) := by unfold F4; try rfl
  exact ⟨by rw [hq] <;> rfl, N7, Keep_7, p7_0, p7_1⟩
def F0_9 (q1 : Int64) (q2 : Int64) (q3 : Int64) (z8 : Int64) (z9 : Int64) (z10 : Int64) (z14 : Int32) (z16 : Int32) (z18 : Int32) (b20 : Int32) (b24 : Int32) (b28 : Int32) : Int32 := (if z14 = b20 then (if z16 = b24 then (if z18 = b28 then (1 : Int32) else (0 : Int32)) else (0 : Int32)) else (0 : Int32))
def F0_8 (q1 : Int64) (q2 : Int64) (q3 : Int64) (z8 : Int64) (z9 : Int64) (z10 : Int64) (z14 : Int32) (z16 : Int32) (z18 : Int32) (b20 : Int32) (b24 : Int32) : Int32 := (F0_9 q1 q2 q3 z8 z9 z10 z14 z16 z18 b20 b24 (if z8 < ((z9 + z10) + (1 : Int64)) then (0 : Int32) else (1 : Int32)))
def F0_7 (q1 : Int64) (q2 : Int64) (q3 : Int64) (z8 : Int64) (z9 : Int64) (z10 : Int64) (z14 : Int32) (z16 : Int32) (z18 : Int32) (b20 : Int32) : Int32 := (F0_8 q1 q2 q3 z8 z9 z10 z14 z16 z18 b20 (if z8 < (z9 + z10) then (0 : Int32) else (1 : Int32)))
def F0_6 (q1 : Int64) (q2 : Int64) (q3 : Int64) (z8 : Int64) (z9 : Int64) (z10 : Int64) (z14 : Int32) (z16 : Int32) (z18 : Int32) : Int32 := (F0_7 q1 q2 q3 z8 z9 z10 z14 z16 z18 (if z8 < z9 then (0 : Int32) else (1 : Int32)))
def F0_5 (q1 : Int64) (q2 : Int64) (q3 : Int64) (z8 : Int64) (z9 : Int64) (z10 : Int64) (z14 : Int32) (z16 : Int32) : Int32 := (F0_6 q1 q2 q3 z8 z9 z10 z14 z16 (F4 ((z8 - z9) - z10)))
def F0_4 (q1 : Int64) (q2 : Int64) (q3 : Int64) (z8 : Int64) (z9 : Int64) (z10 : Int64) (z14 : Int32) : Int32 := (F0_5 q1 q2 q3 z8 z9 z10 z14 (F3 z10 (z8 - z9)))
def F0_3 (q1 : Int64) (q2 : Int64) (q3 : Int64) (z8 : Int64) (z9 : Int64) (z10 : Int64) : Int32 := (F0_4 q1 q2 q3 z8 z9 z10 (F3 z9 z8))
def F0_2 (q1 : Int64) (q2 : Int64) (q3 : Int64) (z8 : Int64) (z9 : Int64) : Int32 := (F0_3 q1 q2 q3 z8 z9 (q3 &&& (2305843009213693951 : Int64)))
def F0_1 (q1 : Int64) (q2 : Int64) (q3 : Int64) (z8 : Int64) : Int32 := (F0_2 q1 q2 q3 z8 (q2 &&& (2305843009213693951 : Int64)))
def F0 (q1 : Int64) (q2 : Int64) (q3 : Int64) : Int32 := (F0_1 q1 q2 q3 (q1 >>> ((2 : Int32) &&& 0x3f).toInt64))
theorem ef0_rm0 (m : MethodId) (q1 : Int64) (q2 : Int64) (q3 : Int64) : entryFrame m #[(.long q1), (.long q2), (.long q3)] maxLocals = (mkF m 0 #[.val (.long q1), .second, .val (.long q2), .second, .val (.long q3), .second, .unset, .unset, .unset, .unset, .unset, .unset, .unset, .unset, .unset, .unset, .unset, .unset, .unset] []) := by first | (simp [entryFrame, mkF, argsToLocals, Value.category, maxLocals]; done) | rfl
set_option maxRecDepth 65536 in
set_option maxHeartbeats 40000000 in
theorem rm0 (l : Launch) (Z : State) (a0 : Array Value) (hw : ∀ d ∈ tables_1, d.before a0 Z = true) (ws : List Jvm.Cond) (q1 : Int64) (q2 : Int64) (q3 : Int64)  (h0 : Heap) (n0 : Nat) (Z0 : n0 ≤ h0.size)    :
    MetFree l x (head1 (Jvm.Cond.code x code maxLocals ret :: ws) room_1) (fun a U => a = #[(.long q1), (.long q2), (.long q3)] ∧ Z.Warmed39 U.vm ∧ U.heap = h0) (fun _ _ _ _ _ => True) (fun _ U o U' => ∃ v L, o = .returned v ∧ (ValQ (.int (F0 q1 q2 q3)) n0) v U'.heap L ∧ FrameEnd U o U' L room_1.cells room_1.slots) := by
  refine MetFree.of_bodySF (plainFor_of_name pn_com_example_abacus_abacus_engine_WorkBudgetTakePinLaw) hisR ?_
  intro p e s m args below meth c s₁ Bd hml0 hP hK
  obtain ⟨rfl, hZ, hh⟩ := hP
  have hx := Bd.exec
  have hby := Bd.bytes
  have hml : c.maxLocals = 19 := hml0
  have hown : s.vm.findClass "com/example/abacus/abacus/engine/WorkBudgetTakePinLaw" = some m.cls := findClass_of_methodNamed Bd.named
  have hnm := (name_of_methodNamed Bd.named Bd.method).1
  have X0 : Stand p l e room_1 s m #[(.long q1), (.long q2), (.long q3)] below meth c s₁ [] 0 0 := Stand.of_body Bd
  have e0 : s₁.heap = h0 := by rw [← hh, Bd.state]; rfl
  have N0 := Fr.nil n0
  refine GoW.mk ?_
  refine GoW.st (fun t k => castTop (ef0_rm0 m q1 q2 q3) k) ?_
  show GoW p e below s (ValQ (.int (F0 q1 q2 q3)) n0) room_1.cells room_1.slots (s₁.setTop (mkF m 0 (K1 q1 q2 q3) []))
  refine GoW.sg (mkF m 1 (K1 q1 q2 q3) [(.long q1)]) (fun t k => XS.lloadN X0.here hx rfl (hb hby at_0) rfl k) ?_
  refine GoW.sg (mkF m 2 (K1 q1 q2 q3) [(.int 2), (.long q1)]) (fun t k => XS.iconst X0.here hx rfl (hb hby at_1) k) ?_
  refine GoW.sg (mkF m 3 (K1 q1 q2 q3) [(.long (q1 >>> ((2 : Int32) &&& 0x3f).toInt64))]) (fun t k => XS.lshr X0.here hx rfl (hb hby at_2) rfl k) ?_
  refine GoW.sg (mkF m 5 (K2 q1 q2 q3 (q1 >>> ((2 : Int32) &&& 0x3f).toInt64)) []) (fun t k => XS.lstore X0.here hx rfl (hb hby at_3) rfl (l' := (K2 q1 q2 q3 (q1 >>> ((2 : Int32) &&& 0x3f).toInt64))) rfl k) ?_
  obtain ⟨z8, hz8⟩ : ∃ z : Int64, z = (q1 >>> ((2 : Int32) &&& 0x3f).toInt64) := ⟨_, rfl⟩
  rw [← hz8]
  have hFz8 : (F0 q1 q2 q3) = (F0_1 q1 q2 q3 z8) := by unfold F0; rw [hz8]
  show GoW p e below s (ValQ (.int (F0 q1 q2 q3)) n0) room_1.cells room_1.slots (s₁.setTop (mkF m 5 (K2 q1 q2 q3 z8) []))
  refine GoW.sg (mkF m 6 (K2 q1 q2 q3 z8) [(.long q2)]) (fun t k => XS.lloadN X0.here hx rfl (hb hby at_5) rfl k) ?_
  refine GoW.sg (mkF m 9 (K2 q1 q2 q3 z8) [(.long 2305843009213693951), (.long q2)]) (fun t k => X0.ldc2Long hx hown (mvT hZ (ww hw 0 rfl)) (g := (mkF m 6 (K2 q1 q2 q3 z8) [(.long q2)])) rfl (hb hby at_6) t k) ?_
  refine GoW.sg (mkF m 10 (K2 q1 q2 q3 z8) [(.long (q2 &&& (2305843009213693951 : Int64)))]) (fun t k => XS.land X0.here hx rfl (hb hby at_9) rfl k) ?_
  refine GoW.sg (mkF m 12 (K3 q1 q2 q3 z8 (q2 &&& (2305843009213693951 : Int64))) []) (fun t k => XS.lstore X0.here hx rfl (hb hby at_10) rfl (l' := (K3 q1 q2 q3 z8 (q2 &&& (2305843009213693951 : Int64)))) rfl k) ?_
  obtain ⟨z9, hz9⟩ : ∃ z : Int64, z = (q2 &&& (2305843009213693951 : Int64)) := ⟨_, rfl⟩
  rw [← hz9]
  have hFz9 : (F0_1 q1 q2 q3 z8) = (F0_2 q1 q2 q3 z8 z9) := by unfold F0_1; rw [hz9]
  show GoW p e below s (ValQ (.int (F0 q1 q2 q3)) n0) room_1.cells room_1.slots (s₁.setTop (mkF m 12 (K3 q1 q2 q3 z8 z9) []))
  refine GoW.sg (mkF m 14 (K3 q1 q2 q3 z8 z9) [(.long q3)]) (fun t k => XS.lload X0.here hx rfl (hb hby at_12) rfl k) ?_
  refine GoW.sg (mkF m 17 (K3 q1 q2 q3 z8 z9) [(.long 2305843009213693951), (.long q3)]) (fun t k => X0.ldc2Long hx hown (mvT hZ (ww hw 0 rfl)) (g := (mkF m 14 (K3 q1 q2 q3 z8 z9) [(.long q3)])) rfl (hb hby at_14) t k) ?_
  refine GoW.sg (mkF m 18 (K3 q1 q2 q3 z8 z9) [(.long (q3 &&& (2305843009213693951 : Int64)))]) (fun t k => XS.land X0.here hx rfl (hb hby at_17) rfl k) ?_
  refine GoW.sg (mkF m 20 (K4 q1 q2 q3 z8 z9 (q3 &&& (2305843009213693951 : Int64))) []) (fun t k => XS.lstore X0.here hx rfl (hb hby at_18) rfl (l' := (K4 q1 q2 q3 z8 z9 (q3 &&& (2305843009213693951 : Int64)))) rfl k) ?_
  obtain ⟨z10, hz10⟩ : ∃ z : Int64, z = (q3 &&& (2305843009213693951 : Int64)) := ⟨_, rfl⟩
  rw [← hz10]
  have hFz10 : (F0_2 q1 q2 q3 z8 z9) = (F0_3 q1 q2 q3 z8 z9 z10) := by unfold F0_2; rw [hz10]
  show GoW p e below s (ValQ (.int (F0 q1 q2 q3)) n0) room_1.cells room_1.slots (s₁.setTop (mkF m 20 (K4 q1 q2 q3 z8 z9 z10) []))
  obtain ⟨T11, h11, X11, e11, E11, A11, D11, -, st11⟩ := newO X0 hx hZ hown (ww hw 1 rfl) (ww hw 2 rfl) (ww hw 3 rfl) e0 (g := (mkF m 20 (K4 q1 q2 q3 z8 z9 z10) [])) rfl (hb hby at_20) (by decide) (by decide)
  obtain ⟨b11, g11⟩ : ∃ z, z = h0.size := ⟨_, rfl⟩
  rw [← g11] at A11 D11 st11
  have g_b11 : n0 ≤ b11 := Nat.le_trans Z0 (Nat.le_of_eq g11.symm)
  have Zs_11 : n0 ≤ h11.size := Nat.le_trans Z0 E11.1
  have Fld_b11_left_11 : Fld Z h11 b11 "com/example/abacus/abacus/engine/WorkBudget" "left" "J" (.long (0 : Int64)) := D11 (Or.inl (ww hw 11 rfl)) (ty := .long) (by decide)
  refine GoW.sg (mkF m 23 (K4 q1 q2 q3 z8 z9 z10) [(.ref b11)]) (fun t k => st11 t k) ?_
  refine GoW.sg (mkF m 24 (K4 q1 q2 q3 z8 z9 z10) [(.ref b11), (.ref b11)]) (fun t k => XS.dup X11.here hx rfl (hb hby at_23) rfl rfl k) ?_
  refine GoW.sg (mkF m 26 (K4 q1 q2 q3 z8 z9 z10) [(.long z8), (.ref b11), (.ref b11)]) (fun t k => XS.lload X11.here hx rfl (hb hby at_24) rfl k) ?_
  obtain ⟨_, _, ⟨T12, L12, k12, n12⟩, -, X12, ⟨Lc12, hQ12, l12, y12, z12⟩, st12⟩ := X11.specialBack hx (y := (⟨"com/example/abacus/abacus/engine/WorkBudget", "<init>", "(J)V"⟩ : MethodName)) rfl hown (mvT hZ (ww hw 4 rfl)) (mvT hZ (ww hw 5 rfl)) (mvT hZ (ww hw 6 rfl)) (by decide) (backOf (W := 1) (rm1 l Z a0 hw [] b11 z8  h11 n0  A11 Fld_b11_left_11 g_b11  ) hZ (ww hw 6 rfl) (ww hw 3 rfl) (by decide) (by decide)) (g := (mkF m 26 (K4 q1 q2 q3 z8 z9 z10) [(.long z8), (.ref b11), (.ref b11)])) rfl (by rw [hml]; rfl) (Steps.refl _) (a := b11) (argsL := [(.long z8)]) (rest := [(.ref b11)]) (lenOf pd_28J29V rfl) rfl (by show 2 * 0 + _ ≤ _; exact Nat.le_of_eq rfl) (hb hby at_26) (fun _ _ => ⟨rfl, e11, (by decide : 1 + 0 ≤ _), (by decide : 1 + 0 ≤ _)⟩)
  dsimp only [Pt.U, Pt.locs, Pt.cells, Pt.slots] at X12 l12 y12 z12 st12 hQ12
  subst l12 y12 z12
  obtain ⟨rfl, N12q, K12, p12_0, p12_1⟩ := hQ12
  have N12 := Fr.app N0 N12q
  have Zs_12 : n0 ≤ T12.heap.size := Nat.le_trans Zs_11 K12.1
  refine GoW.sg (mkF m 29 (K4 q1 q2 q3 z8 z9 z10) [(.ref b11)]) (fun t k => st12.trans k) ?_
  refine GoW.sg (mkF m 31 (K5 q1 q2 q3 z8 z9 z10 b11) []) (fun t k => XS.astore X12.here hx rfl (hb hby at_29) rfl rfl (l' := (K5 q1 q2 q3 z8 z9 z10 b11)) rfl k) ?_
  refine GoW.sg (mkF m 33 (K5 q1 q2 q3 z8 z9 z10 b11) [(.ref b11)]) (fun t k => XS.aload X12.here hx rfl (hb hby at_31) rfl rfl k) ?_
  refine GoW.sg (mkF m 35 (K5 q1 q2 q3 z8 z9 z10 b11) [(.long z9), (.ref b11)]) (fun t k => XS.lload X12.here hx rfl (hb hby at_33) rfl k) ?_
  obtain ⟨cq13, kq13, q13a, q13b, q13c⟩ := isOf hZ rfl p12_0
  obtain ⟨_, _, ⟨T13, L13, k13, n13⟩, -, X13, ⟨Lc13, hQ13, l13, y13, z13⟩, st13⟩ := X12.virtualBack hx (y := (⟨"com/example/abacus/abacus/engine/WorkBudget", "take", "(J)Z"⟩ : MethodName)) (z := (⟨"com/example/abacus/abacus/engine/WorkBudget", "take", "(J)Z"⟩ : MethodName)) hown (mvT hZ (ww hw 12 rfl)) (mvT hZ (ww hw 13 rfl)) (notFace_of_selects (args := #[]) (mvT hZ (ww hw 15 rfl))) (mvT hZ (ww hw 15 rfl)) (mvT hZ (ww hw 14 rfl)) (by decide) (backOf (W := 0) (rm3 l Z a0 hw [] b11 z9 z8 T12.heap n0  p12_0 p12_1 g_b11  ) hZ (ww hw 16 rfl) (ww hw 3 rfl) (by decide) (by decide)) q13a q13c (g := (mkF m 35 (K5 q1 q2 q3 z8 z9 z10 b11) [(.long z9), (.ref b11)])) rfl (by rw [hml]; rfl) (Steps.refl _) (argsL := [(.long z9)]) (rest := []) (lenOf pd_28J29Z rfl) rfl (by show 2 * 0 + _ ≤ _; exact Nat.le_of_eq rfl) (hb hby at_35) (fun _ _ => ⟨rfl, rfl, (by decide : 1 + 0 ≤ _), (by decide : 1 + 0 ≤ _)⟩)
  dsimp only [Pt.U, Pt.locs, Pt.cells, Pt.slots] at X13 l13 y13 z13 st13 hQ13
  subst l13 y13 z13
  obtain ⟨rfl, N13q, K13, p13_0, p13_1⟩ := hQ13
  have N13 := Fr.app N12 N13q
  have Zs_13 : n0 ≤ T13.heap.size := Nat.le_trans Zs_12 K13.1
  refine GoW.sg (mkF m 38 (K5 q1 q2 q3 z8 z9 z10 b11) [(.int (F3 z9 z8))]) (fun t k => st13.trans k) ?_
  refine GoW.sg (mkF m 40 (K6 q1 q2 q3 z8 z9 z10 b11 (F3 z9 z8)) []) (fun t k => XS.istore X13.here hx rfl (hb hby at_38) rfl (l' := (K6 q1 q2 q3 z8 z9 z10 b11 (F3 z9 z8))) rfl k) ?_
  obtain ⟨z14, hz14⟩ : ∃ z : Int32, z = (F3 z9 z8) := ⟨_, rfl⟩
  rw [← hz14]
  have hFz14 : (F0_3 q1 q2 q3 z8 z9 z10) = (F0_4 q1 q2 q3 z8 z9 z10 z14) := by unfold F0_3; rw [hz14]
  show GoW p e below s (ValQ (.int (F0 q1 q2 q3)) n0) room_1.cells room_1.slots (T13.setTop (mkF m 40 (K6 q1 q2 q3 z8 z9 z10 b11 z14) []))
  refine GoW.sg (mkF m 42 (K6 q1 q2 q3 z8 z9 z10 b11 z14) [(.ref b11)]) (fun t k => XS.aload X13.here hx rfl (hb hby at_40) rfl rfl k) ?_
  refine GoW.sg (mkF m 44 (K6 q1 q2 q3 z8 z9 z10 b11 z14) [(.long z10), (.ref b11)]) (fun t k => XS.lload X13.here hx rfl (hb hby at_42) rfl k) ?_
  obtain ⟨cq15, kq15, q15a, q15b, q15c⟩ := isOf hZ rfl p13_0
  obtain ⟨_, _, ⟨T15, L15, k15, n15⟩, -, X15, ⟨Lc15, hQ15, l15, y15, z15⟩, st15⟩ := X13.virtualBack hx (y := (⟨"com/example/abacus/abacus/engine/WorkBudget", "take", "(J)Z"⟩ : MethodName)) (z := (⟨"com/example/abacus/abacus/engine/WorkBudget", "take", "(J)Z"⟩ : MethodName)) hown (mvT hZ (ww hw 12 rfl)) (mvT hZ (ww hw 13 rfl)) (notFace_of_selects (args := #[]) (mvT hZ (ww hw 15 rfl))) (mvT hZ (ww hw 15 rfl)) (mvT hZ (ww hw 14 rfl)) (by decide) (backOf (W := 0) (rm3 l Z a0 hw [] b11 z10 (z8 - z9) T13.heap n0  p13_0 p13_1 g_b11  ) hZ (ww hw 16 rfl) (ww hw 3 rfl) (by decide) (by decide)) q15a q15c (g := (mkF m 44 (K6 q1 q2 q3 z8 z9 z10 b11 z14) [(.long z10), (.ref b11)])) rfl (by rw [hml]; rfl) (Steps.refl _) (argsL := [(.long z10)]) (rest := []) (lenOf pd_28J29Z rfl) rfl (by show 2 * 0 + _ ≤ _; exact Nat.le_of_eq rfl) (hb hby at_44) (fun _ _ => ⟨rfl, rfl, (by decide : 1 + 0 ≤ _), (by decide : 1 + 0 ≤ _)⟩)
  dsimp only [Pt.U, Pt.locs, Pt.cells, Pt.slots] at X15 l15 y15 z15 st15 hQ15
  subst l15 y15 z15
  obtain ⟨rfl, N15q, K15, p15_0, p15_1⟩ := hQ15
  have N15 := Fr.app N13 N15q
  have Zs_15 : n0 ≤ T15.heap.size := Nat.le_trans Zs_13 K15.1
  refine GoW.sg (mkF m 47 (K6 q1 q2 q3 z8 z9 z10 b11 z14) [(.int (F3 z10 (z8 - z9)))]) (fun t k => st15.trans k) ?_
  refine GoW.sg (mkF m 49 (K7 q1 q2 q3 z8 z9 z10 b11 z14 (F3 z10 (z8 - z9))) []) (fun t k => XS.istore X15.here hx rfl (hb hby at_47) rfl (l' := (K7 q1 q2 q3 z8 z9 z10 b11 z14 (F3 z10 (z8 - z9)))) rfl k) ?_
  obtain ⟨z16, hz16⟩ : ∃ z : Int32, z = (F3 z10 (z8 - z9)) := ⟨_, rfl⟩
  rw [← hz16]
  have hFz16 : (F0_4 q1 q2 q3 z8 z9 z10 z14) = (F0_5 q1 q2 q3 z8 z9 z10 z14 z16) := by unfold F0_4; rw [hz16]
  show GoW p e below s (ValQ (.int (F0 q1 q2 q3)) n0) room_1.cells room_1.slots (T15.setTop (mkF m 49 (K7 q1 q2 q3 z8 z9 z10 b11 z14 z16) []))
  refine GoW.sg (mkF m 51 (K7 q1 q2 q3 z8 z9 z10 b11 z14 z16) [(.ref b11)]) (fun t k => XS.aload X15.here hx rfl (hb hby at_49) rfl rfl k) ?_
  obtain ⟨cq17, kq17, q17a, q17b, q17c⟩ := isOf hZ rfl p15_0
  obtain ⟨_, _, ⟨T17, L17, k17, n17⟩, -, X17, ⟨Lc17, hQ17, l17, y17, z17⟩, st17⟩ := X15.virtualBack hx (y := (⟨"com/example/abacus/abacus/engine/WorkBudget", "take", "()Z"⟩ : MethodName)) (z := (⟨"com/example/abacus/abacus/engine/WorkBudget", "take", "()Z"⟩ : MethodName)) hown (mvT hZ (ww hw 17 rfl)) (mvT hZ (ww hw 18 rfl)) (notFace_of_selects (args := #[]) (mvT hZ (ww hw 20 rfl))) (mvT hZ (ww hw 20 rfl)) (mvT hZ (ww hw 19 rfl)) (by decide) (backOf (W := 0) (rm4 l Z a0 hw [] b11 ((z8 - z9) - z10) T15.heap n0  p15_0 p15_1 g_b11  ) hZ (ww hw 21 rfl) (ww hw 3 rfl) (by decide) (by decide)) q17a q17c (g := (mkF m 51 (K7 q1 q2 q3 z8 z9 z10 b11 z14 z16) [(.ref b11)])) rfl (by rw [hml]; rfl) (Steps.refl _) (argsL := []) (rest := []) (lenOf pd_2829Z rfl) rfl (by show 2 * 0 + _ ≤ _; exact Nat.le_of_eq rfl) (hb hby at_51) (fun _ _ => ⟨rfl, rfl, (by decide : 1 + 0 ≤ _), (by decide : 1 + 0 ≤ _)⟩)
  dsimp only [Pt.U, Pt.locs, Pt.cells, Pt.slots] at X17 l17 y17 z17 st17 hQ17
  subst l17 y17 z17
  obtain ⟨rfl, N17q, K17, p17_0, p17_1⟩ := hQ17
  have N17 := Fr.app N15 N17q
  have Zs_17 : n0 ≤ T17.heap.size := Nat.le_trans Zs_15 K17.1
  refine GoW.sg (mkF m 54 (K7 q1 q2 q3 z8 z9 z10 b11 z14 z16) [(.int (F4 ((z8 - z9) - z10)))]) (fun t k => st17.trans k) ?_
  refine GoW.sg (mkF m 56 (K8 q1 q2 q3 z8 z9 z10 b11 z14 z16 (F4 ((z8 - z9) - z10))) []) (fun t k => XS.istore X17.here hx rfl (hb hby at_54) rfl (l' := (K8 q1 q2 q3 z8 z9 z10 b11 z14 z16 (F4 ((z8 - z9) - z10)))) rfl k) ?_
  obtain ⟨z18, hz18⟩ : ∃ z : Int32, z = (F4 ((z8 - z9) - z10)) := ⟨_, rfl⟩
  rw [← hz18]
  have hFz18 : (F0_5 q1 q2 q3 z8 z9 z10 z14 z16) = (F0_6 q1 q2 q3 z8 z9 z10 z14 z16 z18) := by unfold F0_5; rw [hz18]
  show GoW p e below s (ValQ (.int (F0 q1 q2 q3)) n0) room_1.cells room_1.slots (T17.setTop (mkF m 56 (K8 q1 q2 q3 z8 z9 z10 b11 z14 z16 z18) []))
  refine GoW.sg (mkF m 58 (K8 q1 q2 q3 z8 z9 z10 b11 z14 z16 z18) [(.long z9)]) (fun t k => XS.lload X17.here hx rfl (hb hby at_56) rfl k) ?_
  refine GoW.sg (mkF m 60 (K8 q1 q2 q3 z8 z9 z10 b11 z14 z16 z18) [(.long z8), (.long z9)]) (fun t k => XS.lload X17.here hx rfl (hb hby at_58) rfl k) ?_
  refine GoW.sg (mkF m 61 (K8 q1 q2 q3 z8 z9 z10 b11 z14 z16 z18) [(.int (lcmpW z9 z8))]) (fun t k => XS.lcmp X17.here hx rfl (hb hby at_60) rfl k) ?_
  have J69_21 : ∀ b20 : Int32, b20 = (if z8 < z9 then (0 : Int32) else (1 : Int32)) → GoW p e below s (ValQ (.int (F0 q1 q2 q3)) n0) room_1.cells room_1.slots (T17.setTop (mkF m 69 (K8 q1 q2 q3 z8 z9 z10 b11 z14 z16 z18) [(.int b20)])) := by
    intro b20 hb20
    have hFb20 : (F0_6 q1 q2 q3 z8 z9 z10 z14 z16 z18) = (F0_7 q1 q2 q3 z8 z9 z10 z14 z16 z18 b20) := by unfold F0_6; rw [hb20]
    refine GoW.sg (mkF m 71 (K9 q1 q2 q3 z8 z9 z10 b11 z14 z16 z18 b20) []) (fun t k => XS.istore X17.here hx rfl (hb hby at_69) rfl (l' := (K9 q1 q2 q3 z8 z9 z10 b11 z14 z16 z18 b20)) rfl k) ?_
    refine GoW.sg (mkF m 73 (K9 q1 q2 q3 z8 z9 z10 b11 z14 z16 z18 b20) [(.long z9)]) (fun t k => XS.lload X17.here hx rfl (hb hby at_71) rfl k) ?_
    refine GoW.sg (mkF m 75 (K9 q1 q2 q3 z8 z9 z10 b11 z14 z16 z18 b20) [(.long z10), (.long z9)]) (fun t k => XS.lload X17.here hx rfl (hb hby at_73) rfl k) ?_
    refine GoW.sg (mkF m 76 (K9 q1 q2 q3 z8 z9 z10 b11 z14 z16 z18 b20) [(.long (z9 + z10))]) (fun t k => XS.ladd X17.here hx rfl (hb hby at_75) rfl k) ?_
    refine GoW.sg (mkF m 78 (K9 q1 q2 q3 z8 z9 z10 b11 z14 z16 z18 b20) [(.long z8), (.long (z9 + z10))]) (fun t k => XS.lload X17.here hx rfl (hb hby at_76) rfl k) ?_
    refine GoW.sg (mkF m 79 (K9 q1 q2 q3 z8 z9 z10 b11 z14 z16 z18 b20) [(.int (lcmpW (z9 + z10) z8))]) (fun t k => XS.lcmp X17.here hx rfl (hb hby at_78) rfl k) ?_
    have J87_25 : ∀ b24 : Int32, b24 = (if z8 < (z9 + z10) then (0 : Int32) else (1 : Int32)) → GoW p e below s (ValQ (.int (F0 q1 q2 q3)) n0) room_1.cells room_1.slots (T17.setTop (mkF m 87 (K9 q1 q2 q3 z8 z9 z10 b11 z14 z16 z18 b20) [(.int b24)])) := by
      intro b24 hb24
      have hFb24 : (F0_7 q1 q2 q3 z8 z9 z10 z14 z16 z18 b20) = (F0_8 q1 q2 q3 z8 z9 z10 z14 z16 z18 b20 b24) := by unfold F0_7; rw [hb24]
      refine GoW.sg (mkF m 89 (K10 q1 q2 q3 z8 z9 z10 b11 z14 z16 z18 b20 b24) []) (fun t k => XS.istore X17.here hx rfl (hb hby at_87) rfl (l' := (K10 q1 q2 q3 z8 z9 z10 b11 z14 z16 z18 b20 b24)) rfl k) ?_
      refine GoW.sg (mkF m 91 (K10 q1 q2 q3 z8 z9 z10 b11 z14 z16 z18 b20 b24) [(.long z9)]) (fun t k => XS.lload X17.here hx rfl (hb hby at_89) rfl k) ?_
      refine GoW.sg (mkF m 93 (K10 q1 q2 q3 z8 z9 z10 b11 z14 z16 z18 b20 b24) [(.long z10), (.long z9)]) (fun t k => XS.lload X17.here hx rfl (hb hby at_91) rfl k) ?_
      refine GoW.sg (mkF m 94 (K10 q1 q2 q3 z8 z9 z10 b11 z14 z16 z18 b20 b24) [(.long (z9 + z10))]) (fun t k => XS.ladd X17.here hx rfl (hb hby at_93) rfl k) ?_
      refine GoW.sg (mkF m 95 (K10 q1 q2 q3 z8 z9 z10 b11 z14 z16 z18 b20 b24) [(.long 1), (.long (z9 + z10))]) (fun t k => XS.lconst X17.here hx rfl (hb hby at_94) k) ?_
      refine GoW.sg (mkF m 96 (K10 q1 q2 q3 z8 z9 z10 b11 z14 z16 z18 b20 b24) [(.long ((z9 + z10) + (1 : Int64)))]) (fun t k => XS.ladd X17.here hx rfl (hb hby at_95) rfl k) ?_
      refine GoW.sg (mkF m 98 (K10 q1 q2 q3 z8 z9 z10 b11 z14 z16 z18 b20 b24) [(.long z8), (.long ((z9 + z10) + (1 : Int64)))]) (fun t k => XS.lload X17.here hx rfl (hb hby at_96) rfl k) ?_
      refine GoW.sg (mkF m 99 (K10 q1 q2 q3 z8 z9 z10 b11 z14 z16 z18 b20 b24) [(.int (lcmpW ((z9 + z10) + (1 : Int64)) z8))]) (fun t k => XS.lcmp X17.here hx rfl (hb hby at_98) rfl k) ?_
      have J107_29 : ∀ b28 : Int32, b28 = (if z8 < ((z9 + z10) + (1 : Int64)) then (0 : Int32) else (1 : Int32)) → GoW p e below s (ValQ (.int (F0 q1 q2 q3)) n0) room_1.cells room_1.slots (T17.setTop (mkF m 107 (K10 q1 q2 q3 z8 z9 z10 b11 z14 z16 z18 b20 b24) [(.int b28)])) := by
        intro b28 hb28
        have hFb28 : (F0_8 q1 q2 q3 z8 z9 z10 z14 z16 z18 b20 b24) = (F0_9 q1 q2 q3 z8 z9 z10 z14 z16 z18 b20 b24 b28) := by unfold F0_8; rw [hb28]
        refine GoW.sg (mkF m 109 (K11 q1 q2 q3 z8 z9 z10 b11 z14 z16 z18 b20 b24 b28) []) (fun t k => XS.istore X17.here hx rfl (hb hby at_107) rfl (l' := (K11 q1 q2 q3 z8 z9 z10 b11 z14 z16 z18 b20 b24 b28)) rfl k) ?_
        refine GoW.sg (mkF m 111 (K11 q1 q2 q3 z8 z9 z10 b11 z14 z16 z18 b20 b24 b28) [(.int z14)]) (fun t k => XS.iload X17.here hx rfl (hb hby at_109) rfl k) ?_
        refine GoW.sg (mkF m 113 (K11 q1 q2 q3 z8 z9 z10 b11 z14 z16 z18 b20 b24 b28) [(.int b20), (.int z14)]) (fun t k => XS.iload X17.here hx rfl (hb hby at_111) rfl k) ?_
        by_cases c31 : z14 = b20
        · refine GoW.sg (mkF m 116 (K11 q1 q2 q3 z8 z9 z10 b11 z14 z16 z18 b20 b24 b28) []) (fun t k => XS.icmpNo X17.here hx rfl (hb hby at_113) rfl (teq c31).2 k) ?_
          refine GoW.sg (mkF m 118 (K11 q1 q2 q3 z8 z9 z10 b11 z14 z16 z18 b20 b24 b28) [(.int z16)]) (fun t k => XS.iload X17.here hx rfl (hb hby at_116) rfl k) ?_
          refine GoW.sg (mkF m 120 (K11 q1 q2 q3 z8 z9 z10 b11 z14 z16 z18 b20 b24 b28) [(.int b24), (.int z16)]) (fun t k => XS.iload X17.here hx rfl (hb hby at_118) rfl k) ?_
          by_cases c32 : z16 = b24
          · refine GoW.sg (mkF m 123 (K11 q1 q2 q3 z8 z9 z10 b11 z14 z16 z18 b20 b24 b28) []) (fun t k => XS.icmpNo X17.here hx rfl (hb hby at_120) rfl (teq c32).2 k) ?_
            refine GoW.sg (mkF m 125 (K11 q1 q2 q3 z8 z9 z10 b11 z14 z16 z18 b20 b24 b28) [(.int z18)]) (fun t k => XS.iload X17.here hx rfl (hb hby at_123) rfl k) ?_
            refine GoW.sg (mkF m 127 (K11 q1 q2 q3 z8 z9 z10 b11 z14 z16 z18 b20 b24 b28) [(.int b28), (.int z18)]) (fun t k => XS.iload X17.here hx rfl (hb hby at_125) rfl k) ?_
            by_cases c33 : z18 = b28
            · refine GoW.sg (mkF m 130 (K11 q1 q2 q3 z8 z9 z10 b11 z14 z16 z18 b20 b24 b28) []) (fun t k => XS.icmpNo X17.here hx rfl (hb hby at_127) rfl (teq c33).2 k) ?_
              refine GoW.sg (mkF m 131 (K11 q1 q2 q3 z8 z9 z10 b11 z14 z16 z18 b20 b24 b28) [(.int 1)]) (fun t k => XS.iconst X17.here hx rfl (hb hby at_130) k) ?_
              refine GoW.sg (mkF m 135 (K11 q1 q2 q3 z8 z9 z10 b11 z14 z16 z18 b20 b24 b28) [(.int 1)]) (fun t k => XS.goto X17.here hx rfl (pc0 := 131) (pc' := 135) rfl (hb hby at_131) (by decide) (by decide) k) ?_
              refine GoW.retN X17 hx (t := .boolean) Bd.returns (by simp) (hb hby at_135) Bd.notSynchronized ?_ (by decide) (by decide)
              have hq : (F0 q1 q2 q3) = (1 : Int32) := by rw [hFz8, hFz9, hFz10, hFz14, hFz16, hFz18, hFb20, hFb24, hFb28]; unfold F0_9; rw [if_pos c31, if_pos c32, if_pos c33]; try rfl
              exact ⟨by rw [hq] <;> rfl, N17⟩
            · refine GoW.sg (mkF m 134 (K11 q1 q2 q3 z8 z9 z10 b11 z14 z16 z18 b20 b24 b28) []) (fun t k => XS.icmpYes X17.here hx rfl (pc0 := 127) (pc' := 134) rfl (hb hby at_127) rfl (feq c33).2 (by decide) (by decide) k) ?_
              refine GoW.sg (mkF m 135 (K11 q1 q2 q3 z8 z9 z10 b11 z14 z16 z18 b20 b24 b28) [(.int 0)]) (fun t k => XS.iconst X17.here hx rfl (hb hby at_134) k) ?_
              refine GoW.retN X17 hx (t := .boolean) Bd.returns (by simp) (hb hby at_135) Bd.notSynchronized ?_ (by decide) (by decide)
              have hq : (F0 q1 q2 q3) = (0 : Int32) := by rw [hFz8, hFz9, hFz10, hFz14, hFz16, hFz18, hFb20, hFb24, hFb28]; unfold F0_9; rw [if_pos c31, if_pos c32, if_neg c33]; try rfl
              exact ⟨by rw [hq] <;> rfl, N17⟩
          · refine GoW.sg (mkF m 134 (K11 q1 q2 q3 z8 z9 z10 b11 z14 z16 z18 b20 b24 b28) []) (fun t k => XS.icmpYes X17.here hx rfl (pc0 := 120) (pc' := 134) rfl (hb hby at_120) rfl (feq c32).2 (by decide) (by decide) k) ?_
            refine GoW.sg (mkF m 135 (K11 q1 q2 q3 z8 z9 z10 b11 z14 z16 z18 b20 b24 b28) [(.int 0)]) (fun t k => XS.iconst X17.here hx rfl (hb hby at_134) k) ?_
            refine GoW.retN X17 hx (t := .boolean) Bd.returns (by simp) (hb hby at_135) Bd.notSynchronized ?_ (by decide) (by decide)
            have hq : (F0 q1 q2 q3) = (0 : Int32) := by rw [hFz8, hFz9, hFz10, hFz14, hFz16, hFz18, hFb20, hFb24, hFb28]; unfold F0_9; rw [if_pos c31, if_neg c32]; try rfl
            exact ⟨by rw [hq] <;> rfl, N17⟩
        · refine GoW.sg (mkF m 134 (K11 q1 q2 q3 z8 z9 z10 b11 z14 z16 z18 b20 b24 b28) []) (fun t k => XS.icmpYes X17.here hx rfl (pc0 := 113) (pc' := 134) rfl (hb hby at_113) rfl (feq c31).2 (by decide) (by decide) k) ?_
          refine GoW.sg (mkF m 135 (K11 q1 q2 q3 z8 z9 z10 b11 z14 z16 z18 b20 b24 b28) [(.int 0)]) (fun t k => XS.iconst X17.here hx rfl (hb hby at_134) k) ?_
          refine GoW.retN X17 hx (t := .boolean) Bd.returns (by simp) (hb hby at_135) Bd.notSynchronized ?_ (by decide) (by decide)
          have hq : (F0 q1 q2 q3) = (0 : Int32) := by rw [hFz8, hFz9, hFz10, hFz14, hFz16, hFz18, hFb20, hFb24, hFb28]; unfold F0_9; rw [if_neg c31]; try rfl
          exact ⟨by rw [hq] <;> rfl, N17⟩
      by_cases c30 : z8 < ((z9 + z10) + (1 : Int64))
      · refine GoW.sg (mkF m 106 (K10 q1 q2 q3 z8 z9 z10 b11 z14 z16 z18 b20 b24) []) (fun t k => XS.ifYes X17.here hx rfl (pc0 := 99) (pc' := 106) rfl (hb hby at_99) rfl ((if0 _ _).trans (tlt ((lw_gt _ _).mpr c30)).2.2.1) (by decide) (by decide) k) ?_
        refine GoW.sg (mkF m 107 (K10 q1 q2 q3 z8 z9 z10 b11 z14 z16 z18 b20 b24) [(.int 0)]) (fun t k => XS.iconst X17.here hx rfl (hb hby at_106) k) ?_
        exact J107_29 _ (by rw [if_pos c30])
      · refine GoW.sg (mkF m 102 (K10 q1 q2 q3 z8 z9 z10 b11 z14 z16 z18 b20 b24) []) (fun t k => XS.ifNo X17.here hx rfl (hb hby at_99) rfl ((if0 _ _).trans (flt (mt (lw_gt _ _).mp c30)).2.2.1) k) ?_
        refine GoW.sg (mkF m 103 (K10 q1 q2 q3 z8 z9 z10 b11 z14 z16 z18 b20 b24) [(.int 1)]) (fun t k => XS.iconst X17.here hx rfl (hb hby at_102) k) ?_
        refine GoW.sg (mkF m 107 (K10 q1 q2 q3 z8 z9 z10 b11 z14 z16 z18 b20 b24) [(.int 1)]) (fun t k => XS.goto X17.here hx rfl (pc0 := 103) (pc' := 107) rfl (hb hby at_103) (by decide) (by decide) k) ?_
        exact J107_29 _ (by rw [if_neg c30])
    by_cases c26 : z8 < (z9 + z10)
    · refine GoW.sg (mkF m 86 (K9 q1 q2 q3 z8 z9 z10 b11 z14 z16 z18 b20) []) (fun t k => XS.ifYes X17.here hx rfl (pc0 := 79) (pc' := 86) rfl (hb hby at_79) rfl ((if0 _ _).trans (tlt ((lw_gt _ _).mpr c26)).2.2.1) (by decide) (by decide) k) ?_
      refine GoW.sg (mkF m 87 (K9 q1 q2 q3 z8 z9 z10 b11 z14 z16 z18 b20) [(.int 0)]) (fun t k => XS.iconst X17.here hx rfl (hb hby at_86) k) ?_
      exact J87_25 _ (by rw [if_pos c26])
    · refine GoW.sg (mkF m 82 (K9 q1 q2 q3 z8 z9 z10 b11 z14 z16 z18 b20) []) (fun t k => XS.ifNo X17.here hx rfl (hb hby at_79) rfl ((if0 _ _).trans (flt (mt (lw_gt _ _).mp c26)).2.2.1) k) ?_
      refine GoW.sg (mkF m 83 (K9 q1 q2 q3 z8 z9 z10 b11 z14 z16 z18 b20) [(.int 1)]) (fun t k => XS.iconst X17.here hx rfl (hb hby at_82) k) ?_
      refine GoW.sg (mkF m 87 (K9 q1 q2 q3 z8 z9 z10 b11 z14 z16 z18 b20) [(.int 1)]) (fun t k => XS.goto X17.here hx rfl (pc0 := 83) (pc' := 87) rfl (hb hby at_83) (by decide) (by decide) k) ?_
      exact J87_25 _ (by rw [if_neg c26])
  by_cases c22 : z8 < z9
  · refine GoW.sg (mkF m 68 (K8 q1 q2 q3 z8 z9 z10 b11 z14 z16 z18) []) (fun t k => XS.ifYes X17.here hx rfl (pc0 := 61) (pc' := 68) rfl (hb hby at_61) rfl ((if0 _ _).trans (tlt ((lw_gt _ _).mpr c22)).2.2.1) (by decide) (by decide) k) ?_
    refine GoW.sg (mkF m 69 (K8 q1 q2 q3 z8 z9 z10 b11 z14 z16 z18) [(.int 0)]) (fun t k => XS.iconst X17.here hx rfl (hb hby at_68) k) ?_
    exact J69_21 _ (by rw [if_pos c22])
  · refine GoW.sg (mkF m 64 (K8 q1 q2 q3 z8 z9 z10 b11 z14 z16 z18) []) (fun t k => XS.ifNo X17.here hx rfl (hb hby at_61) rfl ((if0 _ _).trans (flt (mt (lw_gt _ _).mp c22)).2.2.1) k) ?_
    refine GoW.sg (mkF m 65 (K8 q1 q2 q3 z8 z9 z10 b11 z14 z16 z18) [(.int 1)]) (fun t k => XS.iconst X17.here hx rfl (hb hby at_64) k) ?_
    refine GoW.sg (mkF m 69 (K8 q1 q2 q3 z8 z9 z10 b11 z14 z16 z18) [(.int 1)]) (fun t k => XS.goto X17.here hx rfl (pc0 := 65) (pc' := 69) rfl (hb hby at_65) (by decide) (by decide) k) ?_
    exact J69_21 _ (by rw [if_neg c22])
theorem own_plain (q1 q2 q3 b s t : Int64) (hb : -2305843009213693952 ≤ b.toInt ∧ b.toInt < 2305843009213693952) (hs : 0 ≤ s.toInt ∧ s.toInt < 2305843009213693952) (ht : 0 ≤ t.toInt ∧ t.toInt < 2305843009213693952) : F0_3 q1 q2 q3 b s t = 1 := by
  have d1 := c_lsub b s
  have d2 := c_lsub (b - s) t
  have d3 := c_lsub (b - s - t) 1
  have d4 := c_ladd s t
  have d5 := c_ladd (s + t) 1
  have r1 := rng64 (b - s)
  have r2 := rng64 (b - s - t)
  have r3 := rng64 (b - s - t - 1)
  have r4 := rng64 (s + t)
  have r5 := rng64 (s + t + 1)
  have e0 : (0 : Int64).toInt = 0 := by decide
  have e1 : (1 : Int64).toInt = 1 := by decide
  rw [e1] at d3 d5
  have k1 : (b - s < 0) = (b < s) := propext (by rw [Int64.lt_iff_toInt_lt, Int64.lt_iff_toInt_lt, e0]; omega)
  have k2 : (b - s - t < 0) = (b < s + t) := propext (by rw [Int64.lt_iff_toInt_lt, Int64.lt_iff_toInt_lt, e0]; omega)
  have k3 : (b - s - t - 1 < 0) = (b < s + t + 1) := propext (by rw [Int64.lt_iff_toInt_lt, Int64.lt_iff_toInt_lt, e0]; omega)
  unfold F0_3 F0_4 F0_5 F0_6 F0_7 F0_8 F0_9 F4 F3
  simp only [k1, k2, k3, if_true]
  by_cases c3 : b < s + t + 1
  · rw [if_pos c3]; rfl
  · rw [if_neg c3]; rfl
theorem own_law (q1 q2 q3 : Int64) : F0 q1 q2 q3 = 1 := by
  have hb := c_lshr q1 2 2 (by decide)
  have h1 := c_maskL q2 2305843009213693951 61 (by decide) (by decide)
  have h2 := c_maskL q3 2305843009213693951 61 (by decide) (by decide)
  have r := rng64 q1
  unfold F0 F0_1 F0_2
  refine own_plain _ _ _ _ _ _ ?_ ?_ ?_
  · rw [hb]; omega
  · rw [h1]; omega
  · rw [h2]; omega

set_option maxRecDepth 65536 in
set_option maxHeartbeats 40000000 in
theorem comes_1 {Post : Tables → Env → Array Value → State → Outcome → State → Prop} (hpost : ∀ tb e args s v u, (limb_1_1.after args s (.returned v) u = true ∧ limb_1_2.after args s (.returned v) u = true ∧ True) → FrameEnd s (.returned v) u (Jvm.fieldLocs frame_1_writes args s ++ Jvm.arrayLocs frame_1_arrays args s ++ Jvm.staticLocs frame_1_statics s) 16 128 → Post tb e args s (.returned v) u) :
    ArmFor flags0 classFile x code maxLocals ret World_1 tables_1 room_1 Calls_1 rest_1 Pre_1 Post := by
  intro l hfl _ _ p e ha hc hk s m args below hf hA hF happ hP
  obtain ⟨hcalls, hrest, hpre⟩ := hP
  obtain ⟨-, -, -, hnamed, -, -, -, hat⟩ := (Spec.applies_iff hf).mp happ
  obtain ⟨hg, hn⟩ := and_e (Cond.before_iff.mp (show (Jvm.Cond.and given_1 narrow_1).before args s = true from hpre))
  obtain ⟨ga0, gb0⟩ := and_e hg
  obtain ⟨ga1, gb1⟩ := and_e gb0
  obtain ⟨ga2, gb2⟩ := and_e gb1
  obtain ⟨w0, w1, w2, rfl⟩ : ∃ w0 w1 w2 : Value, args = #[w0, w1, w2] := by
    have hs : args.size = 3 := by simpa [Cond.value, given_1] using ga0
    obtain ⟨L⟩ := args
    match L, hs with
    | [w0, w1, w2], _ => exact ⟨w0, w1, w2, rfl⟩
  have hw := fun d (hd : d ∈ tables_1) => atoms_spec (ws := Jvm.Cond.code x code maxLocals ret :: tables_1) hat d (List.mem_cons_of_mem _ hd)
  have hfit : Fit s := fun {y c} hc i hi => by
    obtain ⟨ha, rfl⟩ := Array.getElem?_eq_some_iff.mp hc
    have q := List.all_eq_true.mp ((Array.all_eq_true_iff_forall_mem.mp hF) _ (Array.getElem_mem ha)) i (List.mem_range.mpr hi)
    simpa [Array.getElem?_eq_getElem hi] using q
  obtain ⟨i0, ei0⟩ := isL_v ga1
  obtain rfl : w0 = (.long i0) := Option.some.inj ei0
  obtain ⟨i1, ei1⟩ := isL_v ga2
  obtain rfl : w1 = (.long i1) := Option.some.inj ei1
  obtain ⟨i2, ei2⟩ := isL_v gb2
  obtain rfl : w2 = (.long i2) := Option.some.inj ei2
  obtain ⟨n, o, h1, h2, h3, v, L, rfl, ⟨hv, N⟩, hq⟩ := rm0 l s _ hw tables_1 i0 i1 i2  s.heap s.heap.size (Nat.le_refl _)  p e ha hc hk s m _ below hf ((Spec.applies_iff_loose hf).mp happ).1 ⟨rfl, State.Warmed39.refl s, rfl⟩ trivial
  rw [own_law i0 i1 i2] at hv
  subst hv
  refine ⟨n, _, h1, h2, h3, hpost _ _ _ _ _ _ ⟨Cond.after_iff.mpr rfl, Cond.after_iff.mpr (eq_i res_at (Term.int_eval (1)) rfl), trivial⟩ ⟨hq.1, hq.2.1, (hq.2.2.sift fun y hy => Or.inr (N y hy)).mono (by decide) (by decide)⟩⟩
theorem main_1_1 : Claimed_1_1 := comes_1 fun _ _ _ _ _ _ h hF => ⟨h.1, hF⟩
theorem main_1_2 : Claimed_1_2 := comes_1 fun _ _ _ _ _ _ h hF => ⟨h.2.1, hF⟩
end Jvm.Pilot.@@N@@
namespace Jvm.Pilot.@@N@@
open Jvm Jvm.ClassFile Sem Op Lib Jvm.Free Jvm.Stand Jvm.Pilot.@@N@@.Jvm.D
/-! MADE BY PROGRAM (witnessworld.py) out of the Statement's table words and the real class files: 9 classes; the members and pool entries that the words name. The judged class is class 1, her method 1. -/
namespace start1
open Jvm.ClassFile
def u (s : String) : CpInfo := .utf8 (stringToUtf16 s)
/-- a pool by its gaps: so many unusable entries, then the entry; so many at the end -/
def gap : Nat → List CpInfo → List CpInfo
  | 0, r => r
  | n + 1, r => .unusable :: gap n r
def poolList (es : List (Nat × CpInfo)) (last : Nat) : List CpInfo := es.foldr (fun e r => gap e.1 (e.2 :: r)) (gap last [])
def pool (es : List (Nat × CpInfo)) (last : Nat) : Array CpInfo := ⟨poolList es last⟩
def fileOf (pool : Array CpInfo) (this : Nat) (attrs : Array Attribute := #[]) (ms : Array MethodInfo := #[]) (fl : Nat := 33) (sup : Nat := 0) (ifs : Array Nat := #[]) (fds : Array FieldInfo := #[]) : ClassFile where
  minorVersion := 0
  majorVersion := 65
  constantPool := pool
  accessFlags := fl
  thisClass := this
  superClass := sup
  interfaces := ifs
  fields := fds
  methods := ms
  attributes := attrs
def plain (name : String) (sup : Option ClassId) : Class where
  name := name
  kind := .ordinary
  loader := none
  accessFlags := 33
  super := sup
  interfaces := #[]
  cf := none
  fields := #[]
  methods := #[]
  instanceTypes := #[]
  staticTypes := #[]
  resolved := #[]
  callSites := []
  init := .initialized
  statics := none
  mirror := none

def pool0 : Array CpInfo := pool [(5, u "<init>"), (0, u "()V"), (1, .class_ 10), (1, u "java/lang/Object")] 113

def k0c0 : Code := { maxStack := 0, maxLocals := 1, code := object_method_1_code, exceptionTable := #[], attributes := #[] }
def k0m0 : Method := { name := "<init>", desc := "()V", sig := { parameters := [], returnType := none }, accessFlags := 1, code := some k0c0 }
/-- java/lang/Object -/
def k0 : Class := { plain "java/lang/Object" none with
  accessFlags := 33
  interfaces := #[]
  cf := some (fileOf pool0 8 #[] #[{ accessFlags := 1, nameIndex := 5, descriptorIndex := 6, attributes := #[] }] 33 0 #[] #[])
  fields := #[]
  methods := #[k0m0]
  instanceTypes := #[]
  staticTypes := #[]
  resolved := Array.replicate 124 none
  statics := none }

def pool1 : Array CpInfo := pool [(2, .class_ 4), (1, u "java/lang/Object"), (0, u "<init>"), (0, u "()V"), (0, .long 2305843009213693951), (1, .class_ 10), (0, u "com/example/abacus/abacus/engine/WorkBudget"), (0, .methodref 9 12), (0, .nameAndType 5 13), (0, u "(J)V"), (0, .methodref 9 15), (0, .nameAndType 16 17), (0, u "take"), (0, u "(J)Z"), (0, .methodref 9 19), (0, .nameAndType 16 20), (0, u "()Z"), (0, .class_ 22), (0, u "com/example/abacus/abacus/engine/WorkBudgetTakePinLaw"), (2, u "law"), (0, u "(JJJ)Z")] 3

def k1m0 : Method := { name := "<init>", desc := "()V", sig := { parameters := [], returnType := none }, accessFlags := 1, code := none }
def k1c1 : Code := { maxStack := 4, maxLocals := 19, code := code, exceptionTable := #[], attributes := #[] }
def k1m1 : Method := { name := "law", desc := "(JJJ)Z", sig := { parameters := [.long, .long, .long], returnType := some .boolean }, accessFlags := 9, code := some k1c1 }
/-- com/example/abacus/abacus/engine/WorkBudgetTakePinLaw -/
def k1 : Class := { plain "com/example/abacus/abacus/engine/WorkBudgetTakePinLaw" (some 0) with
  accessFlags := 49
  interfaces := #[]
  cf := some (fileOf pool1 21 #[] #[{ accessFlags := 1, nameIndex := 5, descriptorIndex := 6, attributes := #[] }, { accessFlags := 9, nameIndex := 25, descriptorIndex := 26, attributes := #[] }] 49 2 #[] #[])
  fields := #[]
  methods := #[k1m0, k1m1]
  instanceTypes := #[]
  staticTypes := #[]
  resolved := Array.replicate 30 none
  statics := none }

def pool2 : Array CpInfo := pool [(1, .methodref 2 3), (0, .class_ 4), (0, .nameAndType 5 6), (0, u "java/lang/Object"), (0, u "<init>"), (0, u "()V"), (0, .fieldref 8 9), (0, .class_ 10), (0, .nameAndType 11 12), (0, u "com/example/abacus/abacus/engine/WorkBudget"), (0, u "left"), (0, u "J"), (0, .methodref 8 14), (0, .nameAndType 15 16), (0, u "take"), (0, u "(J)Z"), (0, u "FOR_ONE_REQUEST"), (3, u "(J)V"), (2, u "()Z")] 3

def k2c0 : Code := { maxStack := 3, maxLocals := 3, code := prog_69_method_1_code, exceptionTable := #[], attributes := #[] }
def k2m0 : Method := { name := "<init>", desc := "(J)V", sig := { parameters := [.long], returnType := none }, accessFlags := 0, code := some k2c0 }
def k2c1 : Code := { maxStack := 3, maxLocals := 1, code := prog_69_method_2_code, exceptionTable := #[], attributes := #[] }
def k2m1 : Method := { name := "take", desc := "()Z", sig := { parameters := [], returnType := some .boolean }, accessFlags := 0, code := some k2c1 }
def k2c2 : Code := { maxStack := 5, maxLocals := 3, code := prog_69_method_3_code, exceptionTable := #[], attributes := #[] }
def k2m2 : Method := { name := "take", desc := "(J)Z", sig := { parameters := [.long], returnType := some .boolean }, accessFlags := 0, code := some k2c2 }
/-- com/example/abacus/abacus/engine/WorkBudget -/
def k2 : Class := { plain "com/example/abacus/abacus/engine/WorkBudget" (some 0) with
  accessFlags := 32
  interfaces := #[]
  cf := some (fileOf pool2 8 #[] #[{ accessFlags := 0, nameIndex := 5, descriptorIndex := 21, attributes := #[] }, { accessFlags := 0, nameIndex := 15, descriptorIndex := 24, attributes := #[] }, { accessFlags := 0, nameIndex := 15, descriptorIndex := 16, attributes := #[] }] 32 2 #[] #[{ accessFlags := 24, nameIndex := 17, descriptorIndex := 12, attributes := #[] }, { accessFlags := 2, nameIndex := 11, descriptorIndex := 12, attributes := #[] }])
  fields := #[{ name := "FOR_ONE_REQUEST", type := .long, accessFlags := 24, slot := 0, constantValue := 0 }, { name := "left", type := .long, accessFlags := 2, slot := 0, constantValue := 0 }]
  methods := #[k2m0, k2m1, k2m2]
  instanceTypes := #[.long]
  staticTypes := #[.long]
  resolved := Array.replicate 28 none
  statics := none }

def pool3 : Array CpInfo := pool [(1, u "java/lang/Cloneable"), (0, .class_ 1), (0, u "java/lang/Object"), (0, .class_ 3)] 3

/-- java/lang/Cloneable -/
def k3 : Class := { plain "java/lang/Cloneable" (some 0) with
  accessFlags := 1537
  interfaces := #[]
  cf := some (fileOf pool3 2 #[] #[] 1537 4 #[] #[])
  fields := #[]
  methods := #[]
  instanceTypes := #[]
  staticTypes := #[]
  resolved := Array.replicate 8 none
  statics := none }

def pool4 : Array CpInfo := pool [(1, u "java/io/Serializable"), (0, .class_ 1), (0, u "java/lang/Object"), (0, .class_ 3)] 3

/-- java/io/Serializable -/
def k4 : Class := { plain "java/io/Serializable" (some 0) with
  accessFlags := 1537
  interfaces := #[]
  cf := some (fileOf pool4 2 #[] #[] 1537 4 #[] #[])
  fields := #[]
  methods := #[]
  instanceTypes := #[]
  staticTypes := #[]
  resolved := Array.replicate 8 none
  statics := none }

/-- the primitive byte -/
def k5 : Class := { plain "byte" none with kind := .primitive 'B', accessFlags := 0x411 }
/-- [B -/
def k6 : Class := { plain "[B" (some 0) with kind := .array 5 .byte, interfaces := #[3, 4], accessFlags := 1041 }

/-- the primitive int -/
def k7 : Class := { plain "int" none with kind := .primitive 'I', accessFlags := 0x411 }
/-- [I -/
def k8 : Class := { plain "[I" (some 0) with kind := .array 7 .int, interfaces := #[3, 4], accessFlags := 1041 }

def heap : Heap := #[]
def classes : Array Class := #[k0, k1, k2, k3, k4, k5, k6, k7, k8]
def interned : List (Array UInt16 × Addr) := []
def slotsUsed : Nat := 0
def theMethod : MethodId := ⟨1, 1⟩
def args0 : Array Value := #[.long 65, .long 3, .long 4]
def aboutOver (below : List Frame) : State where
  vm := { classes := classes, interned := interned.toArray }
  heap := heap
  slotsUsed := slotsUsed
  threads := #[{ frames := .invoking theMethod args0 :: below }]
def below0 : List Frame := [.native { method := ⟨0, 0⟩, args := #[] }]
def about1 : State := aboutOver below0
def p0 : Program := .bare "" "" ""
def e0 : Env := launch0.env 0 0 0
theorem w_frames : about1.frames = Frame.invoking theMethod args0 :: below0 := rfl
set_option maxRecDepth 65536 in
theorem w_args : argsFit about1.vm theMethod args0 = true := by decide +kernel
set_option maxRecDepth 65536 in
theorem w_heap : heapFits about1 = true := by decide +kernel
set_option maxRecDepth 65536 in
theorem w_runnable : about1.curStatus? = some .runnable := by decide +kernel
set_option maxRecDepth 65536 in
theorem w_alone : about1.alone = true := by decide +kernel
set_option maxRecDepth 65536 in
theorem w_named : about1.methodNamed? x = some theMethod := by decide +kernel
set_option maxRecDepth 65536 in
theorem w_hears : about1.hears theMethod below0 = true := by decide +kernel
set_option maxRecDepth 65536 in
theorem w_ripe : about1.ripe theMethod args0 below0 = true := by decide +kernel
theorem w_running : about1.status = .running := rfl
set_option maxRecDepth 65536 in
theorem w_room : about1.hasRoom e0.platform room_1 = true :=
  launch0.hasRoom_least _ room_1 (by decide +kernel) (by decide +kernel) (by decide +kernel) (by decide +kernel) (by decide +kernel) (by decide +kernel)
theorem allAtoms_all (ts : List Jvm.Cond) (a : Array Jvm.Value) (st : Jvm.State) : (allAtoms ts).before a st = ts.all (fun c => c.before a st) := by
  induction ts with
  | nil => rfl
  | cons c t ih =>
    show (Jvm.Cond.and c (allAtoms t)).before a st = _
    rw [Jvm.Cond.before_and, ih, List.all_cons]
def words1 : List Jvm.Cond := Jvm.Cond.code x code maxLocals ret :: tables_1
/-- a 'code' word, met by the world's own term for the bytes: nothing is compared byte by byte -/
theorem code_word {y : MethodName} {bytes : ByteArray} {mx : Nat} {rt : Option FieldType} {a : Array Value} {s : State} {m : MethodId} {meth : Method} {c : Code} (h1 : s.methodNamed? y = some m) (h2 : s.vm.method? m = some meth) (h3 : meth.code = some c) (h4 : c.code = bytes)
    (h5 : (c.maxLocals == mx && c.exceptionTable.isEmpty && decide (c.maxStack ≤ mostOperands) && decide (meth.sig.returnType = rt) && !meth.locks && decide (parseMethodDescriptor y.desc = some meth.sig)) = true) : (Jvm.Cond.code y bytes mx rt).before a s = true := by
  simp only [Bool.and_eq_true, beq_iff_eq, Bool.not_eq_true', decide_eq_true_eq] at h5
  obtain ⟨⟨⟨⟨⟨g1, g2⟩, g3⟩, g4⟩, g5⟩, g6⟩ := h5
  simp [Cond.before, Cond.holds, Cond.value, h1, h2, h3, h4, g1, g2, g3, g4, g5, g6]
def isCode : Jvm.Cond → Bool
  | .code _ _ _ _ => true
  | _ => false
theorem all_split {L : List Jvm.Cond} {P : Jvm.Cond → Bool} (h1 : L.all (fun c => isCode c || P c) = true) (h2 : ∀ c ∈ L.filter isCode, P c = true) : L.all P = true := by
  refine List.all_eq_true.mpr fun c hc => ?_
  have h := List.all_eq_true.mp h1 c hc
  rcases Bool.eq_false_or_eq_true (isCode c) with hi | hi
  · exact h2 c (List.mem_filter.mpr ⟨hc, hi⟩)
  · simpa [hi] using h
set_option maxRecDepth 65536 in
theorem w_c0 : (Jvm.Cond.code x code maxLocals ret).before args0 about1 = true := code_word (m := ⟨1, 1⟩) (meth := k1m1) (c := k1c1) (by decide +kernel) rfl rfl rfl (by decide +kernel)
set_option maxRecDepth 65536 in
theorem w_c1 : (Jvm.Cond.code ({ cls := "com/example/abacus/abacus/engine/WorkBudget", name := "<init>", desc := "(J)V" } : Jvm.MethodName) prog_69_method_1_code (3 : Nat) (Option.none : Option Jvm.ClassFile.FieldType)).before args0 about1 = true := code_word (m := ⟨2, 0⟩) (meth := k2m0) (c := k2c0) (by decide +kernel) rfl rfl rfl (by decide +kernel)
set_option maxRecDepth 65536 in
theorem w_c2 : (Jvm.Cond.code ({ cls := "java/lang/Object", name := "<init>", desc := "()V" } : Jvm.MethodName) object_method_1_code (1 : Nat) (Option.none : Option Jvm.ClassFile.FieldType)).before args0 about1 = true := code_word (m := ⟨0, 0⟩) (meth := k0m0) (c := k0c0) (by decide +kernel) rfl rfl rfl (by decide +kernel)
set_option maxRecDepth 65536 in
theorem w_c3 : (Jvm.Cond.code ({ cls := "com/example/abacus/abacus/engine/WorkBudget", name := "take", desc := "(J)Z" } : Jvm.MethodName) prog_69_method_3_code (3 : Nat) (Option.some Jvm.ClassFile.FieldType.boolean)).before args0 about1 = true := code_word (m := ⟨2, 2⟩) (meth := k2m2) (c := k2c2) (by decide +kernel) rfl rfl rfl (by decide +kernel)
set_option maxRecDepth 65536 in
theorem w_c4 : (Jvm.Cond.code ({ cls := "com/example/abacus/abacus/engine/WorkBudget", name := "take", desc := "()Z" } : Jvm.MethodName) prog_69_method_2_code (1 : Nat) (Option.some Jvm.ClassFile.FieldType.boolean)).before args0 about1 = true := code_word (m := ⟨2, 1⟩) (meth := k2m1) (c := k2c1) (by decide +kernel) rfl rfl rfl (by decide +kernel)
def codes1 : List Jvm.Cond := [Jvm.Cond.code x code maxLocals ret, Jvm.Cond.code ({ cls := "com/example/abacus/abacus/engine/WorkBudget", name := "<init>", desc := "(J)V" } : Jvm.MethodName) prog_69_method_1_code (3 : Nat) (Option.none : Option Jvm.ClassFile.FieldType), Jvm.Cond.code ({ cls := "java/lang/Object", name := "<init>", desc := "()V" } : Jvm.MethodName) object_method_1_code (1 : Nat) (Option.none : Option Jvm.ClassFile.FieldType), Jvm.Cond.code ({ cls := "com/example/abacus/abacus/engine/WorkBudget", name := "take", desc := "(J)Z" } : Jvm.MethodName) prog_69_method_3_code (3 : Nat) (Option.some Jvm.ClassFile.FieldType.boolean), Jvm.Cond.code ({ cls := "com/example/abacus/abacus/engine/WorkBudget", name := "take", desc := "()Z" } : Jvm.MethodName) prog_69_method_2_code (1 : Nat) (Option.some Jvm.ClassFile.FieldType.boolean)]
set_option maxRecDepth 65536 in
theorem codes_eq : words1.filter isCode = codes1 := rfl
theorem w_codes : ∀ c ∈ words1.filter isCode, c.before args0 about1 = true := by
  rw [codes_eq]
  intro c hc
  simp only [codes1, List.mem_cons, List.not_mem_nil, or_false] at hc
  rcases hc with rfl | rfl | rfl | rfl | rfl
  · exact w_c0
  · exact w_c1
  · exact w_c2
  · exact w_c3
  · exact w_c4
set_option maxRecDepth 65536 in
theorem w_t1 : words1.all (fun c => isCode c || c.before args0 about1) = true := by decide +kernel
theorem w_tables : (allAtoms (Jvm.Cond.code x code maxLocals ret :: tables_1)).before args0 about1 = true := by
  rw [allAtoms_all]
  show words1.all (fun c => c.before args0 about1) = true
  refine all_split ?_ w_codes
  rw [w_t1]
set_option maxRecDepth 65536 in
theorem w_case : (Jvm.Cond.and given_1 narrow_1).before args0 about1 = true := by decide +kernel
theorem w_applies : (headSpec (Jvm.Cond.code x code maxLocals ret :: tables_1) room_1).applies x e0.platform about1 = true :=
  (Spec.applies_iff w_frames).mpr ⟨w_running, w_runnable, w_alone, w_named, w_hears, w_ripe, w_room, w_tables⟩
theorem atStart : AtStart classFile x code maxLocals ret World_1 tables_1 room_1 Calls_1 rest_1 Pre_1 launch0 p0 e0 about1 theMethod args0 below0 :=
  ⟨lists_1, trivial, launch0.admits_env _ _ _, launch0.least_env, fairChoices_fair.cas, fairChoices_fair.clock, w_frames, w_args, w_heap, w_applies, trivial, trivial, w_case⟩
end start1
theorem witness_1 : WitnessClaimed_1 := ⟨start1.p0, start1.e0, start1.about1, start1.theMethod, start1.args0, start1.below0, start1.atStart⟩
end Jvm.Pilot.@@N@@
