import JvmDerived
import JvmDerived.Pilot.@@N@@Statement
import JvmDerived.Pilot.@@N@@Code
set_option linter.unusedVariables false
set_option linter.unusedSimpArgs false
namespace Jvm.RoadKit
open Sem ClassFile Op Lib Jvm.Stand Jvm.Free Jvm.LawKit
def GoW (p : Program) (e : Env) (below : List Frame) (s : State) (Q : Option Value → Heap → List Loc → Prop) (k n : Nat) (u : State) : Prop :=
  ∃ s₂ o, Steps p.tables e below u s₂ ∧ s₂.status = .running ∧ Ended s₂ below o ∧ ∃ v L, o = .returned v ∧ Q v s₂.heap L ∧ FrameEnd s o s₂ L k n
def PureQ (r : Value) (h0 : Heap) (n0 : Nat) (v : Option Value) (h : Heap) (L : List Loc) : Prop := v = some r ∧ Fr n0 L ∧ h = h0
def ValQ (r : Value) (n0 : Nat) (v : Option Value) (h : Heap) (L : List Loc) : Prop := v = some r ∧ Fr n0 L
section New
variable {p : Program} {l : Launch} {e : Env} {R : Room} {s : State} {m : MethodId} {args : Array Value} {below : List Frame} {meth : Method} {c : Code} {T : State} {locs : List Loc} {cells slots : Nat} {Q : Option Value → Heap → List Loc → Prop} {k n : Nat} {u v : State}
theorem GoW.mk (h : GoW p e below s Q k n u) : ∃ s₂ o, Steps p.tables e below u s₂ ∧ s₂.status = .running ∧ Ended s₂ below o ∧ ∃ v L, o = .returned v ∧ Q v s₂.heap L ∧ FrameEnd s o s₂ L k n := h
theorem GoW.st (h : ∀ t, Steps p.tables e below u t → Steps p.tables e below v t) (q : GoW p e below s Q k n u) : GoW p e below s Q k n v := by
  obtain ⟨s₂, o, h1, h2⟩ := q; exact ⟨s₂, o, h _ h1, h2⟩
theorem GoW.sg {T' : State} (g' : JFrame) (h : ∀ t, Steps p.tables e below (T'.setTop g') t → Steps p.tables e below v t) (q : GoW p e below s Q k n (T'.setTop g')) : GoW p e below s Q k n v := GoW.st h q
theorem retI (X : Stand p l e R s m args below meth c T locs cells slots) (hx : p.tables.exec = Jvm.exec) {pc : Nat} {Ls : Array Slot} {z : Int32} {rest : List Value} (hret : meth.sig.returnType = some .int) (hd : decode c.code pc = .ok (.ireturn, 1)) {fs : List Frame}
    (hl : ∀ (f : JFrame) (acts : List Action), f.method = m → f.locked = none → f.entered = [] → (doReturn e (T.setTop f) acts (some (.int z))).1 = T.setFrames fs) : Steps p.tables e below (T.setTop (mkF m pc Ls (.int z :: rest))) (T.setFrames fs) := by
  have hm' : T.vm.method? m = some meth := X.method'
  have hn : narrow .int (.int z) = .int z := rfl
  show Steps p.tables e below (T.setTop { method := m, pc := pc, locals := Ls, stack := _ :: rest, locked := none }) _
  jvm_step X.here [X.here.top, hx, hd, hm', hret, hn]
  first | (intro acts; rw [hl _ acts rfl rfl rfl]) | rw [hl _ _ rfl rfl rfl]
  exact Steps.refl _
theorem GoW.retN (X : Stand p l e R s m args below meth c T locs cells slots) (hx : p.tables.exec = Jvm.exec) {pc : Nat} {Ls : Array Slot} {z : Int32} {t : FieldType} {rest : List Value} (hret : meth.sig.returnType = some t) (ht : t = .boolean ∨ t = .byte ∨ t = .char ∨ t = .short)
    (hd : decode c.code pc = .ok (.ireturn, 1)) (hlk : meth.locks = false) (hq : Q (some (.int (nar t z))) T.heap locs) (hk : cells ≤ k) (hn : slots ≤ n) : GoW p e below s Q k n (T.setTop (mkF m pc Ls (.int z :: rest))) := by
  obtain ⟨fs, hr, hrun, hended, hW, hsame⟩ := X.leave (v := some (.int (nar t z))) (fun h => by rw [hret] at h; cases h) hlk
  exact ⟨_, _, Jvm.RoadKit.retN X hx hret ht hd hr, hrun, hended, _, _, rfl, hq, ⟨_, rfl⟩, hW, hsame.mono hk hn⟩
theorem GoW.retI (X : Stand p l e R s m args below meth c T locs cells slots) (hx : p.tables.exec = Jvm.exec) {pc : Nat} {Ls : Array Slot} {z : Int32} {rest : List Value} (hret : meth.sig.returnType = some .int)
    (hd : decode c.code pc = .ok (.ireturn, 1)) (hlk : meth.locks = false) (hq : Q (some (.int z)) T.heap locs) (hk : cells ≤ k) (hn : slots ≤ n) : GoW p e below s Q k n (T.setTop (mkF m pc Ls (.int z :: rest))) := by
  obtain ⟨fs, hr, hrun, hended, hW, hsame⟩ := X.leave (v := some (.int z)) (fun h => by rw [hret] at h; cases h) hlk
  exact ⟨_, _, Jvm.RoadKit.retI X hx hret hd hr, hrun, hended, _, _, rfl, hq, ⟨_, rfl⟩, hW, hsame.mono hk hn⟩
theorem GoW.retL (X : Stand p l e R s m args below meth c T locs cells slots) (hx : p.tables.exec = Jvm.exec) {pc : Nat} {Ls : Array Slot} {z : Int64} {rest : List Value} (hret : meth.sig.returnType = some .long)
    (hd : decode c.code pc = .ok (.lreturn, 1)) (hlk : meth.locks = false) (hq : Q (some (.long z)) T.heap locs) (hk : cells ≤ k) (hn : slots ≤ n) : GoW p e below s Q k n (T.setTop (mkF m pc Ls (.long z :: rest))) := by
  obtain ⟨fs, hr, hrun, hended, hW, hsame⟩ := X.leave (v := some (.long z)) (fun h => by rw [hret] at h; cases h) hlk
  exact ⟨_, _, retOut X hx hret rfl (Or.inr (Or.inl ⟨rfl, rfl, z, rfl⟩)) hd hr, hrun, hended, _, _, rfl, hq, ⟨_, rfl⟩, hW, hsame.mono hk hn⟩
theorem GoW.retA (X : Stand p l e R s m args below meth c T locs cells slots) (hx : p.tables.exec = Jvm.exec) {pc : Nat} {Ls : Array Slot} {w : Value} {t : FieldType} {rest : List Value} (hret : meth.sig.returnType = some t) (hw : w.isRef = true) (ht : t.isReference = true)
    (hn' : narrow t w = w) (hd : decode c.code pc = .ok (.areturn, 1)) (hlk : meth.locks = false) (hq : Q (some w) T.heap locs) (hk : cells ≤ k) (hn : slots ≤ n) : GoW p e below s Q k n (T.setTop (mkF m pc Ls (w :: rest))) := by
  obtain ⟨fs, hr, hrun, hended, hW, hsame⟩ := X.leave (v := some w) (fun h => by rw [hret] at h; cases h) hlk
  exact ⟨_, _, retOut X hx hret hn' (Or.inr (Or.inr (Or.inr (Or.inr ⟨rfl, ht, hw⟩)))) hd hr, hrun, hended, _, _, rfl, hq, ⟨_, rfl⟩, hW, hsame.mono hk hn⟩
theorem GoW.retV (X : Stand p l e R s m args below meth c T locs cells slots) (hx : p.tables.exec = Jvm.exec) {pc : Nat} {Ls : Array Slot} (hret : meth.sig.returnType = none)
    (hd : decode c.code pc = .ok (.return_, 1)) (hlk : meth.locks = false) (hq : Q none T.heap locs) (hk : cells ≤ k) (hn : slots ≤ n) : GoW p e below s Q k n (T.setTop (mkF m pc Ls [])) := by
  obtain ⟨fs, hr, hrun, hended, hW, hsame⟩ := X.leave (v := none) (fun _ => rfl) hlk
  exact ⟨_, _, X.returnOut hx hret hd hr, hrun, hended, _, _, rfl, hq, ⟨_, rfl⟩, hW, hsame.mono hk hn⟩
theorem own_eqI {args : Array Value} {first s : State} {o : Option Outcome} {idx : List Nat} {t : Term} {i : Int32} (h : (Jvm.Cond.eq t (.int i)).value args first o s idx = some true) : t.eval args first o idx s = some (.int i) := by
  obtain ⟨x, y, hx, hy, k1, k2⟩ := cmp_v (Or.inl h)
  rw [Term.int_eval] at hy
  cases hy
  obtain ⟨z, rfl⟩ := k2
  have q := gotT (Cond.eq_ints hx (Term.int_eval i)) h
  rw [hx, q]
theorem own_ne {args : Array Value} {first s : State} {o : Option Outcome} {idx : List Nat} {t u : Term} {C n d : String} {i j : Int32} {a b : Addr} (h1 : (Jvm.Cond.eq (.field t C n d) (.int i)).value args first o s idx = some true) (h2 : (Jvm.Cond.eq (.field u C n d) (.int j)).value args first o s idx = some true)
    (ha : t.eval args first o idx s = some (.ref a)) (hb : u.eval args first o idx s = some (.ref b)) (hij : i ≠ j) : a ≠ b := fun e => by
  subst e
  have q1 := own_eqI h1
  have q2 := own_eqI h2
  rw [fld_at ha] at q1
  rw [fld_at hb, q1] at q2
  exact hij (by cases q2; rfl)
theorem own_staK0 {Z : State} {h h' : Heap} {C n d : String} {v : Value} (F : Sta Z h C n d v) (K : Keep h h' []) : Sta Z h' C n d v := by
  obtain ⟨cf, i, k, f, st, cell, h1, h2, h3, h4, h5, r⟩ := F; exact ⟨cf, i, k, f, st, cell, h1, h2, h3, h4, K.2.1 _ _ h5 nin0, r⟩
theorem own_staK1 {Z : State} {h h' : Heap} {C n d K0 : String} {v : Value} {a : Addr} (F : Sta Z h C n d v) (K : Keep h h' [a]) (E : Exa Z h a K0) : Sta Z h' C n d v := by
  obtain ⟨cf, i, k, f, st, cell, h1, h2, h3, h4, h5, h6, r⟩ := F
  refine ⟨cf, i, k, f, st, cell, h1, h2, h3, h4, K.2.1 _ _ h5 (ninS (fun q => ?_) nin0), h6, r⟩
  subst q
  obtain ⟨cell2, k2, g1, -, -, g2, -⟩ := E
  cases h5.symm.trans g1
  rw [h6] at g2; cases g2
theorem GoW.retD (X : Stand p l e R s m args below meth c T locs cells slots) (hx : p.tables.exec = Jvm.exec) {pc : Nat} {Ls : Array Slot} {z : UInt64} {rest : List Value} (hret : meth.sig.returnType = some .double)
    (hd : decode c.code pc = .ok (.dreturn, 1)) (hlk : meth.locks = false) (hq : Q (some (.double z)) T.heap locs) (hk : cells ≤ k) (hn : slots ≤ n) : GoW p e below s Q k n (T.setTop (mkF m pc Ls (.double z :: rest))) := by
  obtain ⟨fs, hr, hrun, hended, hW, hsame⟩ := X.leave (v := some (.double z)) (fun h => by rw [hret] at h; cases h) hlk
  exact ⟨_, _, retOut X hx hret rfl (Or.inr (Or.inr (Or.inl ⟨rfl, rfl, z, rfl⟩))) hd hr, hrun, hended, _, _, rfl, hq, ⟨_, rfl⟩, hW, hsame.mono hk hn⟩
theorem own_pop2L {tb : Tables} [Ours tb] {e : Env} {below : List Frame} {T target : State} {m : MethodId} {c : Code} {g : JFrame} (h : At T m c below) (hx : tb.exec = Jvm.exec) (hg : g.method = m) {x : Int64} {rest : List Value} (hd : decode c.code g.pc = .ok (.pop2, 1)) (hs : g.stack = .long x :: rest)
    (hr : Steps tb e below (T.setTop { g with pc := g.pc + 1, stack := rest }) target) : Steps tb e below (T.setTop g) target := by
  subst hg
  jvm_step h [h.top, hx, hd, hs, Value.category]
  exact hr
end New
end Jvm.RoadKit
namespace Jvm.Pilot.@@N@@
open Jvm Jvm.ClassFile Sem Op Lib Jvm.Free Jvm.Stand Jvm.LawKit Jvm.RoadKit Bundle Jvm.Pilot.@@N@@.Jvm.D
theorem ww {Z : State} {a0 : Array Value} (hw : ∀ d ∈ tables_1, d.before a0 Z = true) (i : Nat) {d : Jvm.Cond} (h : tables_1[i]? = some d) : d.before a0 Z = true := hw _ (List.mem_of_getElem? h)
theorem pn_com_example_spindle_spindle_ExactTimeHeldDifferencePinLaw : plainName "com/example/spindle/spindle/ExactTimeHeldDifferencePinLaw" = true := by first | (simp [plainName, overriddenIn]; done) | decide +kernel
abbrev K0 (p0 : Int64) (p1 : Int32) : Array Slot := #[.val (.long p0), .second, .val (.int p1)]
theorem d1_0 : decode method_2_code 0 = .ok (.iload_n 2, 1) := by decide +kernel
theorem d1_1 : decode method_2_code 1 = .ok (.ifCond .ne 5, 3) := by decide +kernel
theorem d1_4 : decode method_2_code 4 = .ok (.lload_n 0, 1) := by decide +kernel
theorem d1_5 : decode method_2_code 5 = .ok (.lreturn, 1) := by decide +kernel
theorem d1_6 : decode method_2_code 6 = .ok (.iload_n 2, 1) := by decide +kernel
theorem d1_7 : decode method_2_code 7 = .ok (.iconst 1, 1) := by decide +kernel
theorem d1_8 : decode method_2_code 8 = .ok (.if_icmp .ne 13, 3) := by decide +kernel
theorem d1_11 : decode method_2_code 11 = .ok (.ldc2_w 9, 3) := by decide +kernel
theorem d1_14 : decode method_2_code 14 = .ok (.lload_n 0, 1) := by decide +kernel
theorem d1_15 : decode method_2_code 15 = .ok (.ldc2_w 11, 3) := by decide +kernel
theorem d1_18 : decode method_2_code 18 = .ok (.land, 1) := by decide +kernel
theorem d1_19 : decode method_2_code 19 = .ok (.lsub, 1) := by decide +kernel
theorem d1_20 : decode method_2_code 20 = .ok (.lreturn, 1) := by decide +kernel
theorem d1_21 : decode method_2_code 21 = .ok (.iload_n 2, 1) := by decide +kernel
theorem d1_22 : decode method_2_code 22 = .ok (.iconst 2, 1) := by decide +kernel
theorem d1_23 : decode method_2_code 23 = .ok (.if_icmp .ne 13, 3) := by decide +kernel
theorem d1_26 : decode method_2_code 26 = .ok (.ldc2_w 13, 3) := by decide +kernel
theorem d1_29 : decode method_2_code 29 = .ok (.lload_n 0, 1) := by decide +kernel
theorem d1_30 : decode method_2_code 30 = .ok (.ldc2_w 11, 3) := by decide +kernel
theorem d1_33 : decode method_2_code 33 = .ok (.land, 1) := by decide +kernel
theorem d1_34 : decode method_2_code 34 = .ok (.ladd, 1) := by decide +kernel
theorem d1_35 : decode method_2_code 35 = .ok (.lreturn, 1) := by decide +kernel
theorem d1_36 : decode method_2_code 36 = .ok (.lload_n 0, 1) := by decide +kernel
theorem d1_37 : decode method_2_code 37 = .ok (.ldc2_w 15, 3) := by decide +kernel
theorem d1_40 : decode method_2_code 40 = .ok (.land, 1) := by decide +kernel
theorem d1_41 : decode method_2_code 41 = .ok (.ldc2_w 17, 3) := by decide +kernel
theorem d1_44 : decode method_2_code 44 = .ok (.lsub, 1) := by decide +kernel
theorem d1_45 : decode method_2_code 45 = .ok (.lreturn, 1) := by decide +kernel
theorem pn_com_example_spindle_spindle_ExactTime : plainName "com/example/spindle/spindle/ExactTime" = true := by first | (simp [plainName, overriddenIn]; done) | decide +kernel
abbrev K1 (p0 : Int64) (p1 : Int64) : Array Slot := #[.val (.long p0), .second, .val (.long p1), .second, .unset, .unset]
theorem d2_0 : decode prog_3_method_4_code 0 = .ok (.lload_n 0, 1) := by decide +kernel
theorem d2_1 : decode prog_3_method_4_code 1 = .ok (.lload_n 2, 1) := by decide +kernel
theorem d2_2 : decode prog_3_method_4_code 2 = .ok (.lsub, 1) := by decide +kernel
theorem d2_3 : decode prog_3_method_4_code 3 = .ok (.lstore 4, 2) := by decide +kernel
abbrev K2 (p0 : Int64) (p1 : Int64) (p2 : Int64) : Array Slot := #[.val (.long p0), .second, .val (.long p1), .second, .val (.long p2), .second]
theorem d2_5 : decode prog_3_method_4_code 5 = .ok (.lload_n 0, 1) := by decide +kernel
theorem d2_6 : decode prog_3_method_4_code 6 = .ok (.lload_n 2, 1) := by decide +kernel
theorem d2_7 : decode prog_3_method_4_code 7 = .ok (.lxor, 1) := by decide +kernel
theorem d2_8 : decode prog_3_method_4_code 8 = .ok (.lconst 0, 1) := by decide +kernel
theorem d2_9 : decode prog_3_method_4_code 9 = .ok (.lcmp, 1) := by decide +kernel
theorem d2_10 : decode prog_3_method_4_code 10 = .ok (.ifCond .ge 28, 3) := by decide +kernel
theorem d2_13 : decode prog_3_method_4_code 13 = .ok (.lload_n 0, 1) := by decide +kernel
theorem d2_14 : decode prog_3_method_4_code 14 = .ok (.lload 4, 2) := by decide +kernel
theorem d2_16 : decode prog_3_method_4_code 16 = .ok (.lxor, 1) := by decide +kernel
theorem d2_17 : decode prog_3_method_4_code 17 = .ok (.lconst 0, 1) := by decide +kernel
theorem d2_18 : decode prog_3_method_4_code 18 = .ok (.lcmp, 1) := by decide +kernel
theorem d2_19 : decode prog_3_method_4_code 19 = .ok (.ifCond .ge 19, 3) := by decide +kernel
theorem d2_22 : decode prog_3_method_4_code 22 = .ok (.lload_n 0, 1) := by decide +kernel
theorem d2_23 : decode prog_3_method_4_code 23 = .ok (.lconst 0, 1) := by decide +kernel
theorem d2_24 : decode prog_3_method_4_code 24 = .ok (.lcmp, 1) := by decide +kernel
theorem d2_25 : decode prog_3_method_4_code 25 = .ok (.ifCond .ge 9, 3) := by decide +kernel
theorem d2_28 : decode prog_3_method_4_code 28 = .ok (.ldc2_w 26, 3) := by decide +kernel
theorem d2_31 : decode prog_3_method_4_code 31 = .ok (.goto 6, 3) := by decide +kernel
theorem d2_37 : decode prog_3_method_4_code 37 = .ok (.lreturn, 1) := by decide +kernel
theorem d2_34 : decode prog_3_method_4_code 34 = .ok (.ldc2_w 24, 3) := by decide +kernel
theorem d2_38 : decode prog_3_method_4_code 38 = .ok (.lload 4, 2) := by decide +kernel
theorem d2_40 : decode prog_3_method_4_code 40 = .ok (.lreturn, 1) := by decide +kernel
abbrev K3 (p0 : Int64) (p1 : Int64) (p2 : Int32) : Array Slot := #[.val (.long p0), .second, .val (.long p1), .second, .val (.int p2), .unset, .unset, .unset, .unset, .unset, .unset, .unset, .unset]
theorem pd_28JI29J : parseMethodDescriptor "(JI)J" = some ⟨[.long, .int], some .long⟩ := by decide +kernel
abbrev K4 (p0 : Int64) (p1 : Int64) (p2 : Int32) (p3 : Int64) : Array Slot := #[.val (.long p0), .second, .val (.long p1), .second, .val (.int p2), .val (.long p3), .second, .unset, .unset, .unset, .unset, .unset, .unset]
abbrev K5 (p0 : Int64) (p1 : Int64) (p2 : Int32) (p3 : Int64) (p4 : Int64) : Array Slot := #[.val (.long p0), .second, .val (.long p1), .second, .val (.int p2), .val (.long p3), .second, .val (.long p4), .second, .unset, .unset, .unset, .unset]
theorem pd_28JJ29J : parseMethodDescriptor "(JJ)J" = some ⟨[.long, .long], some .long⟩ := by decide +kernel
abbrev K6 (p0 : Int64) (p1 : Int64) (p2 : Int32) (p3 : Int64) (p4 : Int64) (p5 : Int64) : Array Slot := #[.val (.long p0), .second, .val (.long p1), .second, .val (.int p2), .val (.long p3), .second, .val (.long p4), .second, .val (.long p5), .second, .unset, .unset]
abbrev K7 (p0 : Int64) (p1 : Int64) (p2 : Int32) (p3 : Int64) (p4 : Int64) (p5 : Int64) (p6 : Int64) : Array Slot := #[.val (.long p0), .second, .val (.long p1), .second, .val (.int p2), .val (.long p3), .second, .val (.long p4), .second, .val (.long p5), .second, .val (.long p6), .second]
def F1 (q1 : Int64) (q2 : Int32) : Int64 := (if q2 = (0 : Int32) then q1 else (if q2 = (1 : Int32) then ((9223372036854775807 : Int64) - (q1 &&& (3 : Int64))) else (if q2 = (2 : Int32) then ((-9223372036854775808 : Int64) + (q1 &&& (3 : Int64))) else ((q1 &&& (7 : Int64)) - (4 : Int64)))))
theorem ef1_rm1 (m : MethodId) (q1 : Int64) (q2 : Int32) : entryFrame m #[(.long q1), (.int q2)] 3 = (mkF m 0 #[.val (.long q1), .second, .val (.int q2)] []) := by first | (simp [entryFrame, mkF, argsToLocals, Value.category, maxLocals]; done) | rfl
set_option maxRecDepth 65536 in
set_option maxHeartbeats 40000000 in
theorem rm1 (l : Launch) (Z : State) (a0 : Array Value) (hw : ∀ d ∈ tables_1, d.before a0 Z = true) (ws : List Jvm.Cond) (q1 : Int64) (q2 : Int32)  (h0 : Heap) (n0 : Nat)  :
    MetFree l (⟨"com/example/spindle/spindle/ExactTimeHeldDifferencePinLaw", "pick", "(JI)J"⟩ : MethodName) (head1 (Jvm.Cond.code (⟨"com/example/spindle/spindle/ExactTimeHeldDifferencePinLaw", "pick", "(JI)J"⟩ : MethodName) method_2_code 3 (some .long) :: ws) ({ frames := 0, cells := 0, slots := 0, locals := 0 } : Room)) (fun a U => a = #[(.long q1), (.int q2)] ∧ Z.Warmed39 U.vm ∧ U.heap = h0) (fun _ _ _ _ _ => True) (fun _ U o U' => ∃ v L, o = .returned v ∧ (PureQ (.long (F1 q1 q2)) h0 n0) v U'.heap L ∧ FrameEnd U o U' L 0 0) := by
  refine MetFree.of_bodySF (plainFor_of_name pn_com_example_spindle_spindle_ExactTimeHeldDifferencePinLaw) hisR ?_
  intro p e s m args below meth c s₁ Bd hml0 hP hK
  obtain ⟨rfl, hZ, hh⟩ := hP
  have hx := Bd.exec
  have hby := Bd.bytes
  have hml : c.maxLocals = 3 := hml0
  have hown : s.vm.findClass "com/example/spindle/spindle/ExactTimeHeldDifferencePinLaw" = some m.cls := findClass_of_methodNamed Bd.named
  have hnm := (name_of_methodNamed Bd.named Bd.method).1
  have X0 : Stand p l e ({ frames := 0, cells := 0, slots := 0, locals := 0 } : Room) s m #[(.long q1), (.int q2)] below meth c s₁ [] 0 0 := Stand.of_body Bd
  have e0 : s₁.heap = h0 := by rw [← hh, Bd.state]; rfl
  have N0 := Fr.nil n0
  refine GoW.mk ?_
  refine GoW.st (fun t k => castTop (ef1_rm1 m q1 q2) k) ?_
  show GoW p e below s (PureQ (.long (F1 q1 q2)) h0 n0) 0 0 (s₁.setTop (mkF m 0 (K0 q1 q2) []))
  refine GoW.sg (mkF m 1 (K0 q1 q2) [(.int q2)]) (fun t k => XS.iloadN X0.here hx rfl (hb hby d1_0) rfl k) ?_
  by_cases c1 : q2 = (0 : Int32)
  · refine GoW.sg (mkF m 4 (K0 q1 q2) []) (fun t k => XS.ifNo X0.here hx rfl (hb hby d1_1) rfl ((if0 _ _).trans (teq c1).2) k) ?_
    refine GoW.sg (mkF m 5 (K0 q1 q2) [(.long q1)]) (fun t k => XS.lloadN X0.here hx rfl (hb hby d1_4) rfl k) ?_
    refine GoW.retL X0 hx Bd.returns (hb hby d1_5) Bd.notSynchronized ?_ (by decide) (by decide)
    have hq : (F1 q1 q2) = q1 := by unfold F1; rw [if_pos c1]; try rfl
    exact ⟨by rw [hq] <;> rfl, N0, e0⟩
  · refine GoW.sg (mkF m 6 (K0 q1 q2) []) (fun t k => XS.ifYes X0.here hx rfl (pc0 := 1) (pc' := 6) rfl (hb hby d1_1) rfl ((if0 _ _).trans (feq c1).2) (by decide) (by decide) k) ?_
    refine GoW.sg (mkF m 7 (K0 q1 q2) [(.int q2)]) (fun t k => XS.iloadN X0.here hx rfl (hb hby d1_6) rfl k) ?_
    refine GoW.sg (mkF m 8 (K0 q1 q2) [(.int 1), (.int q2)]) (fun t k => XS.iconst X0.here hx rfl (hb hby d1_7) k) ?_
    by_cases c2 : q2 = (1 : Int32)
    · refine GoW.sg (mkF m 11 (K0 q1 q2) []) (fun t k => XS.icmpNo X0.here hx rfl (hb hby d1_8) rfl (teq c2).2 k) ?_
      refine GoW.sg (mkF m 14 (K0 q1 q2) [(.long 9223372036854775807)]) (fun t k => X0.ldc2Long hx hown (mvT hZ (ww hw 11 rfl)) (g := (mkF m 11 (K0 q1 q2) [])) rfl (hb hby d1_11) t k) ?_
      refine GoW.sg (mkF m 15 (K0 q1 q2) [(.long q1), (.long 9223372036854775807)]) (fun t k => XS.lloadN X0.here hx rfl (hb hby d1_14) rfl k) ?_
      refine GoW.sg (mkF m 18 (K0 q1 q2) [(.long 3), (.long q1), (.long 9223372036854775807)]) (fun t k => X0.ldc2Long hx hown (mvT hZ (ww hw 12 rfl)) (g := (mkF m 15 (K0 q1 q2) [(.long q1), (.long 9223372036854775807)])) rfl (hb hby d1_15) t k) ?_
      refine GoW.sg (mkF m 19 (K0 q1 q2) [(.long (q1 &&& (3 : Int64))), (.long 9223372036854775807)]) (fun t k => XS.land X0.here hx rfl (hb hby d1_18) rfl k) ?_
      refine GoW.sg (mkF m 20 (K0 q1 q2) [(.long ((9223372036854775807 : Int64) - (q1 &&& (3 : Int64))))]) (fun t k => XS.lsub X0.here hx rfl (hb hby d1_19) rfl k) ?_
      refine GoW.retL X0 hx Bd.returns (hb hby d1_20) Bd.notSynchronized ?_ (by decide) (by decide)
      have hq : (F1 q1 q2) = ((9223372036854775807 : Int64) - (q1 &&& (3 : Int64))) := by unfold F1; rw [if_neg c1, if_pos c2]; try rfl
      exact ⟨by rw [hq] <;> rfl, N0, e0⟩
    · refine GoW.sg (mkF m 21 (K0 q1 q2) []) (fun t k => XS.icmpYes X0.here hx rfl (pc0 := 8) (pc' := 21) rfl (hb hby d1_8) rfl (feq c2).2 (by decide) (by decide) k) ?_
      refine GoW.sg (mkF m 22 (K0 q1 q2) [(.int q2)]) (fun t k => XS.iloadN X0.here hx rfl (hb hby d1_21) rfl k) ?_
      refine GoW.sg (mkF m 23 (K0 q1 q2) [(.int 2), (.int q2)]) (fun t k => XS.iconst X0.here hx rfl (hb hby d1_22) k) ?_
      by_cases c3 : q2 = (2 : Int32)
      · refine GoW.sg (mkF m 26 (K0 q1 q2) []) (fun t k => XS.icmpNo X0.here hx rfl (hb hby d1_23) rfl (teq c3).2 k) ?_
        refine GoW.sg (mkF m 29 (K0 q1 q2) [(.long (-9223372036854775808))]) (fun t k => X0.ldc2Long hx hown (mvT hZ (ww hw 8 rfl)) (g := (mkF m 26 (K0 q1 q2) [])) rfl (hb hby d1_26) t k) ?_
        refine GoW.sg (mkF m 30 (K0 q1 q2) [(.long q1), (.long (-9223372036854775808))]) (fun t k => XS.lloadN X0.here hx rfl (hb hby d1_29) rfl k) ?_
        refine GoW.sg (mkF m 33 (K0 q1 q2) [(.long 3), (.long q1), (.long (-9223372036854775808))]) (fun t k => X0.ldc2Long hx hown (mvT hZ (ww hw 12 rfl)) (g := (mkF m 30 (K0 q1 q2) [(.long q1), (.long (-9223372036854775808))])) rfl (hb hby d1_30) t k) ?_
        refine GoW.sg (mkF m 34 (K0 q1 q2) [(.long (q1 &&& (3 : Int64))), (.long (-9223372036854775808))]) (fun t k => XS.land X0.here hx rfl (hb hby d1_33) rfl k) ?_
        refine GoW.sg (mkF m 35 (K0 q1 q2) [(.long ((-9223372036854775808 : Int64) + (q1 &&& (3 : Int64))))]) (fun t k => XS.ladd X0.here hx rfl (hb hby d1_34) rfl k) ?_
        refine GoW.retL X0 hx Bd.returns (hb hby d1_35) Bd.notSynchronized ?_ (by decide) (by decide)
        have hq : (F1 q1 q2) = ((-9223372036854775808 : Int64) + (q1 &&& (3 : Int64))) := by unfold F1; rw [if_neg c1, if_neg c2, if_pos c3]; try rfl
        exact ⟨by rw [hq] <;> rfl, N0, e0⟩
      · refine GoW.sg (mkF m 36 (K0 q1 q2) []) (fun t k => XS.icmpYes X0.here hx rfl (pc0 := 23) (pc' := 36) rfl (hb hby d1_23) rfl (feq c3).2 (by decide) (by decide) k) ?_
        refine GoW.sg (mkF m 37 (K0 q1 q2) [(.long q1)]) (fun t k => XS.lloadN X0.here hx rfl (hb hby d1_36) rfl k) ?_
        refine GoW.sg (mkF m 40 (K0 q1 q2) [(.long 7), (.long q1)]) (fun t k => X0.ldc2Long hx hown (mvT hZ (ww hw 9 rfl)) (g := (mkF m 37 (K0 q1 q2) [(.long q1)])) rfl (hb hby d1_37) t k) ?_
        refine GoW.sg (mkF m 41 (K0 q1 q2) [(.long (q1 &&& (7 : Int64)))]) (fun t k => XS.land X0.here hx rfl (hb hby d1_40) rfl k) ?_
        refine GoW.sg (mkF m 44 (K0 q1 q2) [(.long 4), (.long (q1 &&& (7 : Int64)))]) (fun t k => X0.ldc2Long hx hown (mvT hZ (ww hw 10 rfl)) (g := (mkF m 41 (K0 q1 q2) [(.long (q1 &&& (7 : Int64)))])) rfl (hb hby d1_41) t k) ?_
        refine GoW.sg (mkF m 45 (K0 q1 q2) [(.long ((q1 &&& (7 : Int64)) - (4 : Int64)))]) (fun t k => XS.lsub X0.here hx rfl (hb hby d1_44) rfl k) ?_
        refine GoW.retL X0 hx Bd.returns (hb hby d1_45) Bd.notSynchronized ?_ (by decide) (by decide)
        have hq : (F1 q1 q2) = ((q1 &&& (7 : Int64)) - (4 : Int64)) := by unfold F1; rw [if_neg c1, if_neg c2, if_neg c3]; try rfl
        exact ⟨by rw [hq] <;> rfl, N0, e0⟩
def F2_1 (q1 : Int64) (q2 : Int64) (z4 : Int64) : Int64 := (if (q1 ^^^ q2) < (0 : Int64) then (if (q1 ^^^ z4) < (0 : Int64) then (if q1 < (0 : Int64) then (-9223372036854775808 : Int64) else (9223372036854775807 : Int64)) else z4) else z4)
def F2 (q1 : Int64) (q2 : Int64) : Int64 := (F2_1 q1 q2 (q1 - q2))
theorem ef2_rm2 (m : MethodId) (q1 : Int64) (q2 : Int64) : entryFrame m #[(.long q1), (.long q2)] 6 = (mkF m 0 #[.val (.long q1), .second, .val (.long q2), .second, .unset, .unset] []) := by first | (simp [entryFrame, mkF, argsToLocals, Value.category, maxLocals]; done) | rfl
set_option maxRecDepth 65536 in
set_option maxHeartbeats 40000000 in
theorem rm2 (l : Launch) (Z : State) (a0 : Array Value) (hw : ∀ d ∈ tables_1, d.before a0 Z = true) (ws : List Jvm.Cond) (q1 : Int64) (q2 : Int64)  (h0 : Heap) (n0 : Nat)  :
    MetFree l (⟨"com/example/spindle/spindle/ExactTime", "heldDifference", "(JJ)J"⟩ : MethodName) (head1 (Jvm.Cond.code (⟨"com/example/spindle/spindle/ExactTime", "heldDifference", "(JJ)J"⟩ : MethodName) prog_3_method_4_code 6 (some .long) :: ws) ({ frames := 0, cells := 0, slots := 0, locals := 0 } : Room)) (fun a U => a = #[(.long q1), (.long q2)] ∧ Z.Warmed39 U.vm ∧ U.heap = h0) (fun _ _ _ _ _ => True) (fun _ U o U' => ∃ v L, o = .returned v ∧ (PureQ (.long (F2 q1 q2)) h0 n0) v U'.heap L ∧ FrameEnd U o U' L 0 0) := by
  refine MetFree.of_bodySF (plainFor_of_name pn_com_example_spindle_spindle_ExactTime) hisR ?_
  intro p e s m args below meth c s₁ Bd hml0 hP hK
  obtain ⟨rfl, hZ, hh⟩ := hP
  have hx := Bd.exec
  have hby := Bd.bytes
  have hml : c.maxLocals = 6 := hml0
  have hown : s.vm.findClass "com/example/spindle/spindle/ExactTime" = some m.cls := findClass_of_methodNamed Bd.named
  have hnm := (name_of_methodNamed Bd.named Bd.method).1
  have X0 : Stand p l e ({ frames := 0, cells := 0, slots := 0, locals := 0 } : Room) s m #[(.long q1), (.long q2)] below meth c s₁ [] 0 0 := Stand.of_body Bd
  have e0 : s₁.heap = h0 := by rw [← hh, Bd.state]; rfl
  have N0 := Fr.nil n0
  refine GoW.mk ?_
  refine GoW.st (fun t k => castTop (ef2_rm2 m q1 q2) k) ?_
  show GoW p e below s (PureQ (.long (F2 q1 q2)) h0 n0) 0 0 (s₁.setTop (mkF m 0 (K1 q1 q2) []))
  refine GoW.sg (mkF m 1 (K1 q1 q2) [(.long q1)]) (fun t k => XS.lloadN X0.here hx rfl (hb hby d2_0) rfl k) ?_
  refine GoW.sg (mkF m 2 (K1 q1 q2) [(.long q2), (.long q1)]) (fun t k => XS.lloadN X0.here hx rfl (hb hby d2_1) rfl k) ?_
  refine GoW.sg (mkF m 3 (K1 q1 q2) [(.long (q1 - q2))]) (fun t k => XS.lsub X0.here hx rfl (hb hby d2_2) rfl k) ?_
  refine GoW.sg (mkF m 5 (K2 q1 q2 (q1 - q2)) []) (fun t k => XS.lstore X0.here hx rfl (hb hby d2_3) rfl (l' := (K2 q1 q2 (q1 - q2))) rfl k) ?_
  obtain ⟨z4, hz4⟩ : ∃ z : Int64, z = (q1 - q2) := ⟨_, rfl⟩
  rw [← hz4]
  have hFz4 : (F2 q1 q2) = (F2_1 q1 q2 z4) := by unfold F2; rw [hz4]
  show GoW p e below s (PureQ (.long (F2 q1 q2)) h0 n0) 0 0 (s₁.setTop (mkF m 5 (K2 q1 q2 z4) []))
  refine GoW.sg (mkF m 6 (K2 q1 q2 z4) [(.long q1)]) (fun t k => XS.lloadN X0.here hx rfl (hb hby d2_5) rfl k) ?_
  refine GoW.sg (mkF m 7 (K2 q1 q2 z4) [(.long q2), (.long q1)]) (fun t k => XS.lloadN X0.here hx rfl (hb hby d2_6) rfl k) ?_
  refine GoW.sg (mkF m 8 (K2 q1 q2 z4) [(.long (q1 ^^^ q2))]) (fun t k => XS.lxor X0.here hx rfl (hb hby d2_7) rfl k) ?_
  refine GoW.sg (mkF m 9 (K2 q1 q2 z4) [(.long 0), (.long (q1 ^^^ q2))]) (fun t k => XS.lconst X0.here hx rfl (hb hby d2_8) k) ?_
  refine GoW.sg (mkF m 10 (K2 q1 q2 z4) [(.int (lcmpW (q1 ^^^ q2) (0 : Int64)))]) (fun t k => XS.lcmp X0.here hx rfl (hb hby d2_9) rfl k) ?_
  by_cases c5 : (q1 ^^^ q2) < (0 : Int64)
  · refine GoW.sg (mkF m 13 (K2 q1 q2 z4) []) (fun t k => XS.ifNo X0.here hx rfl (hb hby d2_10) rfl ((if0 _ _).trans (tlt ((lw_lt _ _).mpr c5)).2.1) k) ?_
    refine GoW.sg (mkF m 14 (K2 q1 q2 z4) [(.long q1)]) (fun t k => XS.lloadN X0.here hx rfl (hb hby d2_13) rfl k) ?_
    refine GoW.sg (mkF m 16 (K2 q1 q2 z4) [(.long z4), (.long q1)]) (fun t k => XS.lload X0.here hx rfl (hb hby d2_14) rfl k) ?_
    refine GoW.sg (mkF m 17 (K2 q1 q2 z4) [(.long (q1 ^^^ z4))]) (fun t k => XS.lxor X0.here hx rfl (hb hby d2_16) rfl k) ?_
    refine GoW.sg (mkF m 18 (K2 q1 q2 z4) [(.long 0), (.long (q1 ^^^ z4))]) (fun t k => XS.lconst X0.here hx rfl (hb hby d2_17) k) ?_
    refine GoW.sg (mkF m 19 (K2 q1 q2 z4) [(.int (lcmpW (q1 ^^^ z4) (0 : Int64)))]) (fun t k => XS.lcmp X0.here hx rfl (hb hby d2_18) rfl k) ?_
    by_cases c6 : (q1 ^^^ z4) < (0 : Int64)
    · refine GoW.sg (mkF m 22 (K2 q1 q2 z4) []) (fun t k => XS.ifNo X0.here hx rfl (hb hby d2_19) rfl ((if0 _ _).trans (tlt ((lw_lt _ _).mpr c6)).2.1) k) ?_
      refine GoW.sg (mkF m 23 (K2 q1 q2 z4) [(.long q1)]) (fun t k => XS.lloadN X0.here hx rfl (hb hby d2_22) rfl k) ?_
      refine GoW.sg (mkF m 24 (K2 q1 q2 z4) [(.long 0), (.long q1)]) (fun t k => XS.lconst X0.here hx rfl (hb hby d2_23) k) ?_
      refine GoW.sg (mkF m 25 (K2 q1 q2 z4) [(.int (lcmpW q1 (0 : Int64)))]) (fun t k => XS.lcmp X0.here hx rfl (hb hby d2_24) rfl k) ?_
      by_cases c7 : q1 < (0 : Int64)
      · refine GoW.sg (mkF m 28 (K2 q1 q2 z4) []) (fun t k => XS.ifNo X0.here hx rfl (hb hby d2_25) rfl ((if0 _ _).trans (tlt ((lw_lt _ _).mpr c7)).2.1) k) ?_
        refine GoW.sg (mkF m 31 (K2 q1 q2 z4) [(.long (-9223372036854775808))]) (fun t k => X0.ldc2Long hx hown (mvT hZ (ww hw 14 rfl)) (g := (mkF m 28 (K2 q1 q2 z4) [])) rfl (hb hby d2_28) t k) ?_
        refine GoW.sg (mkF m 37 (K2 q1 q2 z4) [(.long (-9223372036854775808))]) (fun t k => XS.goto X0.here hx rfl (pc0 := 31) (pc' := 37) rfl (hb hby d2_31) (by decide) (by decide) k) ?_
        refine GoW.retL X0 hx Bd.returns (hb hby d2_37) Bd.notSynchronized ?_ (by decide) (by decide)
        have hq : (F2 q1 q2) = (-9223372036854775808 : Int64) := by rw [hFz4]; unfold F2_1; rw [if_pos c5, if_pos c6, if_pos c7]; try rfl
        exact ⟨by rw [hq] <;> rfl, N0, e0⟩
      · refine GoW.sg (mkF m 34 (K2 q1 q2 z4) []) (fun t k => XS.ifYes X0.here hx rfl (pc0 := 25) (pc' := 34) rfl (hb hby d2_25) rfl ((if0 _ _).trans (flt (mt (lw_lt _ _).mp c7)).2.1) (by decide) (by decide) k) ?_
        refine GoW.sg (mkF m 37 (K2 q1 q2 z4) [(.long 9223372036854775807)]) (fun t k => X0.ldc2Long hx hown (mvT hZ (ww hw 13 rfl)) (g := (mkF m 34 (K2 q1 q2 z4) [])) rfl (hb hby d2_34) t k) ?_
        refine GoW.retL X0 hx Bd.returns (hb hby d2_37) Bd.notSynchronized ?_ (by decide) (by decide)
        have hq : (F2 q1 q2) = (9223372036854775807 : Int64) := by rw [hFz4]; unfold F2_1; rw [if_pos c5, if_pos c6, if_neg c7]; try rfl
        exact ⟨by rw [hq] <;> rfl, N0, e0⟩
    · refine GoW.sg (mkF m 38 (K2 q1 q2 z4) []) (fun t k => XS.ifYes X0.here hx rfl (pc0 := 19) (pc' := 38) rfl (hb hby d2_19) rfl ((if0 _ _).trans (flt (mt (lw_lt _ _).mp c6)).2.1) (by decide) (by decide) k) ?_
      refine GoW.sg (mkF m 40 (K2 q1 q2 z4) [(.long z4)]) (fun t k => XS.lload X0.here hx rfl (hb hby d2_38) rfl k) ?_
      refine GoW.retL X0 hx Bd.returns (hb hby d2_40) Bd.notSynchronized ?_ (by decide) (by decide)
      have hq : (F2 q1 q2) = z4 := by rw [hFz4]; unfold F2_1; rw [if_pos c5, if_neg c6]; try rfl
      exact ⟨by rw [hq] <;> rfl, N0, e0⟩
  · refine GoW.sg (mkF m 38 (K2 q1 q2 z4) []) (fun t k => XS.ifYes X0.here hx rfl (pc0 := 10) (pc' := 38) rfl (hb hby d2_10) rfl ((if0 _ _).trans (flt (mt (lw_lt _ _).mp c5)).2.1) (by decide) (by decide) k) ?_
    refine GoW.sg (mkF m 40 (K2 q1 q2 z4) [(.long z4)]) (fun t k => XS.lload X0.here hx rfl (hb hby d2_38) rfl k) ?_
    refine GoW.retL X0 hx Bd.returns (hb hby d2_40) Bd.notSynchronized ?_ (by decide) (by decide)
    have hq : (F2 q1 q2) = z4 := by rw [hFz4]; unfold F2_1; rw [if_neg c5]; try rfl
    exact ⟨by rw [hq] <;> rfl, N0, e0⟩
def F0_4 (q1 : Int64) (q2 : Int64) (q3 : Int32) (z9 : Int64) (z11 : Int64) (z13 : Int64) (b20 : Int64) : Int32 := (if z13 = b20 then (1 : Int32) else (0 : Int32))
def F0_3 (q1 : Int64) (q2 : Int64) (q3 : Int32) (z9 : Int64) (z11 : Int64) (z13 : Int64) : Int32 := (F0_4 q1 q2 q3 z9 z11 z13 (if (0 : Int64) < z11 then (if z9 < ((-9223372036854775808 : Int64) + z11) then (-9223372036854775808 : Int64) else (if z11 < (0 : Int64) then (if ((9223372036854775807 : Int64) + z11) < z9 then (9223372036854775807 : Int64) else (z9 - z11)) else (z9 - z11))) else (if z11 < (0 : Int64) then (if ((9223372036854775807 : Int64) + z11) < z9 then (9223372036854775807 : Int64) else (z9 - z11)) else (z9 - z11))))
def F0_2 (q1 : Int64) (q2 : Int64) (q3 : Int32) (z9 : Int64) (z11 : Int64) : Int32 := (F0_3 q1 q2 q3 z9 z11 (F2 z9 z11))
def F0_1 (q1 : Int64) (q2 : Int64) (q3 : Int32) (z9 : Int64) : Int32 := (F0_2 q1 q2 q3 z9 (F1 q2 ((q3.toUInt32 >>> ((2 : Int32) &&& 31).toUInt32).toInt32 &&& (3 : Int32))))
def F0 (q1 : Int64) (q2 : Int64) (q3 : Int32) : Int32 := (F0_1 q1 q2 q3 (F1 q1 (q3 &&& (3 : Int32))))
theorem ef0_rm0 (m : MethodId) (q1 : Int64) (q2 : Int64) (q3 : Int32) : entryFrame m #[(.long q1), (.long q2), (.int q3)] maxLocals = (mkF m 0 #[.val (.long q1), .second, .val (.long q2), .second, .val (.int q3), .unset, .unset, .unset, .unset, .unset, .unset, .unset, .unset] []) := by first | (simp [entryFrame, mkF, argsToLocals, Value.category, maxLocals]; done) | rfl
set_option maxRecDepth 65536 in
set_option maxHeartbeats 40000000 in
theorem rm0 (l : Launch) (Z : State) (a0 : Array Value) (hw : ∀ d ∈ tables_1, d.before a0 Z = true) (ws : List Jvm.Cond) (q1 : Int64) (q2 : Int64) (q3 : Int32)  (h0 : Heap) (n0 : Nat) (Z0 : n0 ≤ h0.size)    :
    MetFree l x (head1 (Jvm.Cond.code x code maxLocals ret :: ws) room_1) (fun a U => a = #[(.long q1), (.long q2), (.int q3)] ∧ Z.Warmed39 U.vm ∧ U.heap = h0) (fun _ _ _ _ _ => True) (fun _ U o U' => ∃ v L, o = .returned v ∧ (ValQ (.int (F0 q1 q2 q3)) n0) v U'.heap L ∧ FrameEnd U o U' L room_1.cells room_1.slots) := by
  refine MetFree.of_bodySF (plainFor_of_name pn_com_example_spindle_spindle_ExactTimeHeldDifferencePinLaw) hisR ?_
  intro p e s m args below meth c s₁ Bd hml0 hP hK
  obtain ⟨rfl, hZ, hh⟩ := hP
  have hx := Bd.exec
  have hby := Bd.bytes
  have hml : c.maxLocals = 13 := hml0
  have hown : s.vm.findClass "com/example/spindle/spindle/ExactTimeHeldDifferencePinLaw" = some m.cls := findClass_of_methodNamed Bd.named
  have hnm := (name_of_methodNamed Bd.named Bd.method).1
  have X0 : Stand p l e room_1 s m #[(.long q1), (.long q2), (.int q3)] below meth c s₁ [] 0 0 := Stand.of_body Bd
  have e0 : s₁.heap = h0 := by rw [← hh, Bd.state]; rfl
  have N0 := Fr.nil n0
  refine GoW.mk ?_
  refine GoW.st (fun t k => castTop (ef0_rm0 m q1 q2 q3) k) ?_
  show GoW p e below s (ValQ (.int (F0 q1 q2 q3)) n0) room_1.cells room_1.slots (s₁.setTop (mkF m 0 (K3 q1 q2 q3) []))
  refine GoW.sg (mkF m 1 (K3 q1 q2 q3) [(.long q1)]) (fun t k => XS.lloadN X0.here hx rfl (hb hby at_0) rfl k) ?_
  refine GoW.sg (mkF m 3 (K3 q1 q2 q3) [(.int q3), (.long q1)]) (fun t k => XS.iload X0.here hx rfl (hb hby at_1) rfl k) ?_
  refine GoW.sg (mkF m 4 (K3 q1 q2 q3) [(.int 3), (.int q3), (.long q1)]) (fun t k => XS.iconst X0.here hx rfl (hb hby at_3) k) ?_
  refine GoW.sg (mkF m 5 (K3 q1 q2 q3) [(.int (q3 &&& (3 : Int32))), (.long q1)]) (fun t k => XS.iand X0.here hx rfl (hb hby at_4) rfl k) ?_
  obtain ⟨_, _, ⟨T8, L8, k8, n8⟩, -, X8, ⟨Lc8, hQ8, l8, y8, z8⟩, st8⟩ := Jvm.LawKit.callS X0 hx (y := (⟨"com/example/spindle/spindle/ExactTimeHeldDifferencePinLaw", "pick", "(JI)J"⟩ : MethodName)) hown (mvT hZ (ww hw 0 rfl)) (mvT hZ (ww hw 1 rfl)) (mvT hZ (ww hw 2 rfl)) (mvT hZ (ww hw 3 rfl)) (by decide) (backOf (W := 0) (rm1 l Z a0 hw [] q1 (q3 &&& (3 : Int32)) h0 n0) hZ (ww hw 3 rfl) (ww hw 2 rfl) (by decide) (by decide)) (g := (mkF m 5 (K3 q1 q2 q3) [(.int (q3 &&& (3 : Int32))), (.long q1)])) rfl (by rw [hml]; rfl) (argsL := [(.long q1), (.int (q3 &&& (3 : Int32)))]) (rest := []) (lenOf pd_28JI29J rfl) rfl (by show 2 * 0 + _ ≤ _; exact Nat.le_of_eq rfl) (hb hby at_5) (fun _ _ => ⟨rfl, e0, (by decide : 0 + 0 ≤ _), (by decide : 0 + 0 ≤ _)⟩)
  dsimp only [Pt.U, Pt.locs, Pt.cells, Pt.slots] at X8 l8 y8 z8 st8 hQ8
  subst l8 y8 z8
  obtain ⟨rfl, N8q, e8⟩ := hQ8
  have N8 := Fr.app N0 N8q
  refine GoW.sg (mkF m 8 (K3 q1 q2 q3) [(.long (F1 q1 (q3 &&& (3 : Int32))))]) (fun t k => st8 t k) ?_
  refine GoW.sg (mkF m 10 (K4 q1 q2 q3 (F1 q1 (q3 &&& (3 : Int32)))) []) (fun t k => XS.lstore X8.here hx rfl (hb hby at_8) rfl (l' := (K4 q1 q2 q3 (F1 q1 (q3 &&& (3 : Int32))))) rfl k) ?_
  obtain ⟨z9, hz9⟩ : ∃ z : Int64, z = (F1 q1 (q3 &&& (3 : Int32))) := ⟨_, rfl⟩
  rw [← hz9]
  have hFz9 : (F0 q1 q2 q3) = (F0_1 q1 q2 q3 z9) := by unfold F0; rw [hz9]
  show GoW p e below s (ValQ (.int (F0 q1 q2 q3)) n0) room_1.cells room_1.slots (T8.setTop (mkF m 10 (K4 q1 q2 q3 z9) []))
  refine GoW.sg (mkF m 11 (K4 q1 q2 q3 z9) [(.long q2)]) (fun t k => XS.lloadN X8.here hx rfl (hb hby at_10) rfl k) ?_
  refine GoW.sg (mkF m 13 (K4 q1 q2 q3 z9) [(.int q3), (.long q2)]) (fun t k => XS.iload X8.here hx rfl (hb hby at_11) rfl k) ?_
  refine GoW.sg (mkF m 14 (K4 q1 q2 q3 z9) [(.int 2), (.int q3), (.long q2)]) (fun t k => XS.iconst X8.here hx rfl (hb hby at_13) k) ?_
  refine GoW.sg (mkF m 15 (K4 q1 q2 q3 z9) [(.int (q3.toUInt32 >>> ((2 : Int32) &&& 31).toUInt32).toInt32), (.long q2)]) (fun t k => XS.iushr X8.here hx rfl (hb hby at_14) rfl k) ?_
  refine GoW.sg (mkF m 16 (K4 q1 q2 q3 z9) [(.int 3), (.int (q3.toUInt32 >>> ((2 : Int32) &&& 31).toUInt32).toInt32), (.long q2)]) (fun t k => XS.iconst X8.here hx rfl (hb hby at_15) k) ?_
  refine GoW.sg (mkF m 17 (K4 q1 q2 q3 z9) [(.int ((q3.toUInt32 >>> ((2 : Int32) &&& 31).toUInt32).toInt32 &&& (3 : Int32))), (.long q2)]) (fun t k => XS.iand X8.here hx rfl (hb hby at_16) rfl k) ?_
  obtain ⟨_, _, ⟨T10, L10, k10, n10⟩, -, X10, ⟨Lc10, hQ10, l10, y10, z10⟩, st10⟩ := Jvm.LawKit.callS X8 hx (y := (⟨"com/example/spindle/spindle/ExactTimeHeldDifferencePinLaw", "pick", "(JI)J"⟩ : MethodName)) hown (mvT hZ (ww hw 0 rfl)) (mvT hZ (ww hw 1 rfl)) (mvT hZ (ww hw 2 rfl)) (mvT hZ (ww hw 3 rfl)) (by decide) (backOf (W := 0) (rm1 l Z a0 hw [] q2 ((q3.toUInt32 >>> ((2 : Int32) &&& 31).toUInt32).toInt32 &&& (3 : Int32)) h0 n0) hZ (ww hw 3 rfl) (ww hw 2 rfl) (by decide) (by decide)) (g := (mkF m 17 (K4 q1 q2 q3 z9) [(.int ((q3.toUInt32 >>> ((2 : Int32) &&& 31).toUInt32).toInt32 &&& (3 : Int32))), (.long q2)])) rfl (by rw [hml]; rfl) (argsL := [(.long q2), (.int ((q3.toUInt32 >>> ((2 : Int32) &&& 31).toUInt32).toInt32 &&& (3 : Int32)))]) (rest := []) (lenOf pd_28JI29J rfl) rfl (by show 2 * 0 + _ ≤ _; exact Nat.le_of_eq rfl) (hb hby at_17) (fun _ _ => ⟨rfl, e8, (by decide : 0 + 0 ≤ _), (by decide : 0 + 0 ≤ _)⟩)
  dsimp only [Pt.U, Pt.locs, Pt.cells, Pt.slots] at X10 l10 y10 z10 st10 hQ10
  subst l10 y10 z10
  obtain ⟨rfl, N10q, e10⟩ := hQ10
  have N10 := Fr.app N8 N10q
  refine GoW.sg (mkF m 20 (K4 q1 q2 q3 z9) [(.long (F1 q2 ((q3.toUInt32 >>> ((2 : Int32) &&& 31).toUInt32).toInt32 &&& (3 : Int32))))]) (fun t k => st10 t k) ?_
  refine GoW.sg (mkF m 22 (K5 q1 q2 q3 z9 (F1 q2 ((q3.toUInt32 >>> ((2 : Int32) &&& 31).toUInt32).toInt32 &&& (3 : Int32)))) []) (fun t k => XS.lstore X10.here hx rfl (hb hby at_20) rfl (l' := (K5 q1 q2 q3 z9 (F1 q2 ((q3.toUInt32 >>> ((2 : Int32) &&& 31).toUInt32).toInt32 &&& (3 : Int32))))) rfl k) ?_
  obtain ⟨z11, hz11⟩ : ∃ z : Int64, z = (F1 q2 ((q3.toUInt32 >>> ((2 : Int32) &&& 31).toUInt32).toInt32 &&& (3 : Int32))) := ⟨_, rfl⟩
  rw [← hz11]
  have hFz11 : (F0_1 q1 q2 q3 z9) = (F0_2 q1 q2 q3 z9 z11) := by unfold F0_1; rw [hz11]
  show GoW p e below s (ValQ (.int (F0 q1 q2 q3)) n0) room_1.cells room_1.slots (T10.setTop (mkF m 22 (K5 q1 q2 q3 z9 z11) []))
  refine GoW.sg (mkF m 24 (K5 q1 q2 q3 z9 z11) [(.long z9)]) (fun t k => XS.lload X10.here hx rfl (hb hby at_22) rfl k) ?_
  refine GoW.sg (mkF m 26 (K5 q1 q2 q3 z9 z11) [(.long z11), (.long z9)]) (fun t k => XS.lload X10.here hx rfl (hb hby at_24) rfl k) ?_
  obtain ⟨_, _, ⟨T12, L12, k12, n12⟩, -, X12, ⟨Lc12, hQ12, l12, y12, z12⟩, st12⟩ := Jvm.LawKit.callS X10 hx (y := (⟨"com/example/spindle/spindle/ExactTime", "heldDifference", "(JJ)J"⟩ : MethodName)) hown (mvT hZ (ww hw 4 rfl)) (mvT hZ (ww hw 5 rfl)) (mvT hZ (ww hw 6 rfl)) (mvT hZ (ww hw 7 rfl)) (by decide) (backOf (W := 0) (rm2 l Z a0 hw [] z9 z11 h0 n0) hZ (ww hw 7 rfl) (ww hw 6 rfl) (by decide) (by decide)) (g := (mkF m 26 (K5 q1 q2 q3 z9 z11) [(.long z11), (.long z9)])) rfl (by rw [hml]; rfl) (argsL := [(.long z9), (.long z11)]) (rest := []) (lenOf pd_28JJ29J rfl) rfl (by show 2 * 0 + _ ≤ _; exact Nat.le_of_eq rfl) (hb hby at_26) (fun _ _ => ⟨rfl, e10, (by decide : 0 + 0 ≤ _), (by decide : 0 + 0 ≤ _)⟩)
  dsimp only [Pt.U, Pt.locs, Pt.cells, Pt.slots] at X12 l12 y12 z12 st12 hQ12
  subst l12 y12 z12
  obtain ⟨rfl, N12q, e12⟩ := hQ12
  have N12 := Fr.app N10 N12q
  refine GoW.sg (mkF m 29 (K5 q1 q2 q3 z9 z11) [(.long (F2 z9 z11))]) (fun t k => st12 t k) ?_
  refine GoW.sg (mkF m 31 (K6 q1 q2 q3 z9 z11 (F2 z9 z11)) []) (fun t k => XS.lstore X12.here hx rfl (hb hby at_29) rfl (l' := (K6 q1 q2 q3 z9 z11 (F2 z9 z11))) rfl k) ?_
  obtain ⟨z13, hz13⟩ : ∃ z : Int64, z = (F2 z9 z11) := ⟨_, rfl⟩
  rw [← hz13]
  have hFz13 : (F0_2 q1 q2 q3 z9 z11) = (F0_3 q1 q2 q3 z9 z11 z13) := by unfold F0_2; rw [hz13]
  show GoW p e below s (ValQ (.int (F0 q1 q2 q3)) n0) room_1.cells room_1.slots (T12.setTop (mkF m 31 (K6 q1 q2 q3 z9 z11 z13) []))
  refine GoW.sg (mkF m 33 (K6 q1 q2 q3 z9 z11 z13) [(.long z11)]) (fun t k => XS.lload X12.here hx rfl (hb hby at_31) rfl k) ?_
  refine GoW.sg (mkF m 34 (K6 q1 q2 q3 z9 z11 z13) [(.long 0), (.long z11)]) (fun t k => XS.lconst X12.here hx rfl (hb hby at_33) k) ?_
  refine GoW.sg (mkF m 35 (K6 q1 q2 q3 z9 z11 z13) [(.int (lcmpW z11 (0 : Int64)))]) (fun t k => XS.lcmp X12.here hx rfl (hb hby at_34) rfl k) ?_
  have J92_21 : ∀ b20 : Int64, b20 = (if (0 : Int64) < z11 then (if z9 < ((-9223372036854775808 : Int64) + z11) then (-9223372036854775808 : Int64) else (if z11 < (0 : Int64) then (if ((9223372036854775807 : Int64) + z11) < z9 then (9223372036854775807 : Int64) else (z9 - z11)) else (z9 - z11))) else (if z11 < (0 : Int64) then (if ((9223372036854775807 : Int64) + z11) < z9 then (9223372036854775807 : Int64) else (z9 - z11)) else (z9 - z11))) → GoW p e below s (ValQ (.int (F0 q1 q2 q3)) n0) room_1.cells room_1.slots (T12.setTop (mkF m 92 (K7 q1 q2 q3 z9 z11 z13 b20) [])) := by
    intro b20 hb20
    have hFb20 : (F0_3 q1 q2 q3 z9 z11 z13) = (F0_4 q1 q2 q3 z9 z11 z13 b20) := by unfold F0_3; rw [hb20]
    refine GoW.sg (mkF m 94 (K7 q1 q2 q3 z9 z11 z13 b20) [(.long z13)]) (fun t k => XS.lload X12.here hx rfl (hb hby at_92) rfl k) ?_
    refine GoW.sg (mkF m 96 (K7 q1 q2 q3 z9 z11 z13 b20) [(.long b20), (.long z13)]) (fun t k => XS.lload X12.here hx rfl (hb hby at_94) rfl k) ?_
    refine GoW.sg (mkF m 97 (K7 q1 q2 q3 z9 z11 z13 b20) [(.int (lcmpW z13 b20))]) (fun t k => XS.lcmp X12.here hx rfl (hb hby at_96) rfl k) ?_
    by_cases c28 : z13 = b20
    · refine GoW.sg (mkF m 100 (K7 q1 q2 q3 z9 z11 z13 b20) []) (fun t k => XS.ifNo X12.here hx rfl (hb hby at_97) rfl ((if0 _ _).trans (teq ((lw_eq _ _).mpr c28)).2) k) ?_
      refine GoW.sg (mkF m 101 (K7 q1 q2 q3 z9 z11 z13 b20) [(.int 1)]) (fun t k => XS.iconst X12.here hx rfl (hb hby at_100) k) ?_
      refine GoW.sg (mkF m 105 (K7 q1 q2 q3 z9 z11 z13 b20) [(.int 1)]) (fun t k => XS.goto X12.here hx rfl (pc0 := 101) (pc' := 105) rfl (hb hby at_101) (by decide) (by decide) k) ?_
      refine GoW.retN X12 hx (t := .boolean) Bd.returns (by simp) (hb hby at_105) Bd.notSynchronized ?_ (by decide) (by decide)
      have hq : (F0 q1 q2 q3) = (1 : Int32) := by rw [hFz9, hFz11, hFz13, hFb20]; unfold F0_4; rw [if_pos c28]; try rfl
      exact ⟨by rw [hq] <;> rfl, N12⟩
    · refine GoW.sg (mkF m 104 (K7 q1 q2 q3 z9 z11 z13 b20) []) (fun t k => XS.ifYes X12.here hx rfl (pc0 := 97) (pc' := 104) rfl (hb hby at_97) rfl ((if0 _ _).trans (feq (mt (lw_eq _ _).mp c28)).2) (by decide) (by decide) k) ?_
      refine GoW.sg (mkF m 105 (K7 q1 q2 q3 z9 z11 z13 b20) [(.int 0)]) (fun t k => XS.iconst X12.here hx rfl (hb hby at_104) k) ?_
      refine GoW.retN X12 hx (t := .boolean) Bd.returns (by simp) (hb hby at_105) Bd.notSynchronized ?_ (by decide) (by decide)
      have hq : (F0 q1 q2 q3) = (0 : Int32) := by rw [hFz9, hFz11, hFz13, hFb20]; unfold F0_4; rw [if_neg c28]; try rfl
      exact ⟨by rw [hq] <;> rfl, N12⟩
  by_cases c22 : (0 : Int64) < z11
  · refine GoW.sg (mkF m 38 (K6 q1 q2 q3 z9 z11 z13) []) (fun t k => XS.ifNo X12.here hx rfl (hb hby at_35) rfl ((if0 _ _).trans (tlt ((lw_gt _ _).mpr c22)).2.2.2) k) ?_
    refine GoW.sg (mkF m 40 (K6 q1 q2 q3 z9 z11 z13) [(.long z9)]) (fun t k => XS.lload X12.here hx rfl (hb hby at_38) rfl k) ?_
    refine GoW.sg (mkF m 43 (K6 q1 q2 q3 z9 z11 z13) [(.long (-9223372036854775808)), (.long z9)]) (fun t k => X12.ldc2Long hx hown (mvT hZ (ww hw 8 rfl)) (g := (mkF m 40 (K6 q1 q2 q3 z9 z11 z13) [(.long z9)])) rfl (hb hby at_40) t k) ?_
    refine GoW.sg (mkF m 45 (K6 q1 q2 q3 z9 z11 z13) [(.long z11), (.long (-9223372036854775808)), (.long z9)]) (fun t k => XS.lload X12.here hx rfl (hb hby at_43) rfl k) ?_
    refine GoW.sg (mkF m 46 (K6 q1 q2 q3 z9 z11 z13) [(.long ((-9223372036854775808 : Int64) + z11)), (.long z9)]) (fun t k => XS.ladd X12.here hx rfl (hb hby at_45) rfl k) ?_
    refine GoW.sg (mkF m 47 (K6 q1 q2 q3 z9 z11 z13) [(.int (lcmpW z9 ((-9223372036854775808 : Int64) + z11)))]) (fun t k => XS.lcmp X12.here hx rfl (hb hby at_46) rfl k) ?_
    by_cases c23 : z9 < ((-9223372036854775808 : Int64) + z11)
    · refine GoW.sg (mkF m 50 (K6 q1 q2 q3 z9 z11 z13) []) (fun t k => XS.ifNo X12.here hx rfl (hb hby at_47) rfl ((if0 _ _).trans (tlt ((lw_lt _ _).mpr c23)).2.1) k) ?_
      refine GoW.sg (mkF m 53 (K6 q1 q2 q3 z9 z11 z13) [(.long (-9223372036854775808))]) (fun t k => X12.ldc2Long hx hown (mvT hZ (ww hw 8 rfl)) (g := (mkF m 50 (K6 q1 q2 q3 z9 z11 z13) [])) rfl (hb hby at_50) t k) ?_
      refine GoW.sg (mkF m 55 (K7 q1 q2 q3 z9 z11 z13 (-9223372036854775808)) []) (fun t k => XS.lstore X12.here hx rfl (hb hby at_53) rfl (l' := (K7 q1 q2 q3 z9 z11 z13 (-9223372036854775808))) rfl k) ?_
      refine GoW.sg (mkF m 92 (K7 q1 q2 q3 z9 z11 z13 (-9223372036854775808)) []) (fun t k => XS.goto X12.here hx rfl (pc0 := 55) (pc' := 92) rfl (hb hby at_55) (by decide) (by decide) k) ?_
      exact J92_21 _ (by rw [if_pos c22, if_pos c23])
    · refine GoW.sg (mkF m 58 (K6 q1 q2 q3 z9 z11 z13) []) (fun t k => XS.ifYes X12.here hx rfl (pc0 := 47) (pc' := 58) rfl (hb hby at_47) rfl ((if0 _ _).trans (flt (mt (lw_lt _ _).mp c23)).2.1) (by decide) (by decide) k) ?_
      refine GoW.sg (mkF m 60 (K6 q1 q2 q3 z9 z11 z13) [(.long z11)]) (fun t k => XS.lload X12.here hx rfl (hb hby at_58) rfl k) ?_
      refine GoW.sg (mkF m 61 (K6 q1 q2 q3 z9 z11 z13) [(.long 0), (.long z11)]) (fun t k => XS.lconst X12.here hx rfl (hb hby at_60) k) ?_
      refine GoW.sg (mkF m 62 (K6 q1 q2 q3 z9 z11 z13) [(.int (lcmpW z11 (0 : Int64)))]) (fun t k => XS.lcmp X12.here hx rfl (hb hby at_61) rfl k) ?_
      by_cases c24 : z11 < (0 : Int64)
      · refine GoW.sg (mkF m 65 (K6 q1 q2 q3 z9 z11 z13) []) (fun t k => XS.ifNo X12.here hx rfl (hb hby at_62) rfl ((if0 _ _).trans (tlt ((lw_lt _ _).mpr c24)).2.1) k) ?_
        refine GoW.sg (mkF m 67 (K6 q1 q2 q3 z9 z11 z13) [(.long z9)]) (fun t k => XS.lload X12.here hx rfl (hb hby at_65) rfl k) ?_
        refine GoW.sg (mkF m 70 (K6 q1 q2 q3 z9 z11 z13) [(.long 9223372036854775807), (.long z9)]) (fun t k => X12.ldc2Long hx hown (mvT hZ (ww hw 11 rfl)) (g := (mkF m 67 (K6 q1 q2 q3 z9 z11 z13) [(.long z9)])) rfl (hb hby at_67) t k) ?_
        refine GoW.sg (mkF m 72 (K6 q1 q2 q3 z9 z11 z13) [(.long z11), (.long 9223372036854775807), (.long z9)]) (fun t k => XS.lload X12.here hx rfl (hb hby at_70) rfl k) ?_
        refine GoW.sg (mkF m 73 (K6 q1 q2 q3 z9 z11 z13) [(.long ((9223372036854775807 : Int64) + z11)), (.long z9)]) (fun t k => XS.ladd X12.here hx rfl (hb hby at_72) rfl k) ?_
        refine GoW.sg (mkF m 74 (K6 q1 q2 q3 z9 z11 z13) [(.int (lcmpW z9 ((9223372036854775807 : Int64) + z11)))]) (fun t k => XS.lcmp X12.here hx rfl (hb hby at_73) rfl k) ?_
        by_cases c25 : ((9223372036854775807 : Int64) + z11) < z9
        · refine GoW.sg (mkF m 77 (K6 q1 q2 q3 z9 z11 z13) []) (fun t k => XS.ifNo X12.here hx rfl (hb hby at_74) rfl ((if0 _ _).trans (tlt ((lw_gt _ _).mpr c25)).2.2.2) k) ?_
          refine GoW.sg (mkF m 80 (K6 q1 q2 q3 z9 z11 z13) [(.long 9223372036854775807)]) (fun t k => X12.ldc2Long hx hown (mvT hZ (ww hw 11 rfl)) (g := (mkF m 77 (K6 q1 q2 q3 z9 z11 z13) [])) rfl (hb hby at_77) t k) ?_
          refine GoW.sg (mkF m 82 (K7 q1 q2 q3 z9 z11 z13 9223372036854775807) []) (fun t k => XS.lstore X12.here hx rfl (hb hby at_80) rfl (l' := (K7 q1 q2 q3 z9 z11 z13 9223372036854775807)) rfl k) ?_
          refine GoW.sg (mkF m 92 (K7 q1 q2 q3 z9 z11 z13 9223372036854775807) []) (fun t k => XS.goto X12.here hx rfl (pc0 := 82) (pc' := 92) rfl (hb hby at_82) (by decide) (by decide) k) ?_
          exact J92_21 _ (by rw [if_pos c22, if_neg c23, if_pos c24, if_pos c25])
        · refine GoW.sg (mkF m 85 (K6 q1 q2 q3 z9 z11 z13) []) (fun t k => XS.ifYes X12.here hx rfl (pc0 := 74) (pc' := 85) rfl (hb hby at_74) rfl ((if0 _ _).trans (flt (mt (lw_gt _ _).mp c25)).2.2.2) (by decide) (by decide) k) ?_
          refine GoW.sg (mkF m 87 (K6 q1 q2 q3 z9 z11 z13) [(.long z9)]) (fun t k => XS.lload X12.here hx rfl (hb hby at_85) rfl k) ?_
          refine GoW.sg (mkF m 89 (K6 q1 q2 q3 z9 z11 z13) [(.long z11), (.long z9)]) (fun t k => XS.lload X12.here hx rfl (hb hby at_87) rfl k) ?_
          refine GoW.sg (mkF m 90 (K6 q1 q2 q3 z9 z11 z13) [(.long (z9 - z11))]) (fun t k => XS.lsub X12.here hx rfl (hb hby at_89) rfl k) ?_
          refine GoW.sg (mkF m 92 (K7 q1 q2 q3 z9 z11 z13 (z9 - z11)) []) (fun t k => XS.lstore X12.here hx rfl (hb hby at_90) rfl (l' := (K7 q1 q2 q3 z9 z11 z13 (z9 - z11))) rfl k) ?_
          exact J92_21 _ (by rw [if_pos c22, if_neg c23, if_pos c24, if_neg c25])
      · refine GoW.sg (mkF m 85 (K6 q1 q2 q3 z9 z11 z13) []) (fun t k => XS.ifYes X12.here hx rfl (pc0 := 62) (pc' := 85) rfl (hb hby at_62) rfl ((if0 _ _).trans (flt (mt (lw_lt _ _).mp c24)).2.1) (by decide) (by decide) k) ?_
        refine GoW.sg (mkF m 87 (K6 q1 q2 q3 z9 z11 z13) [(.long z9)]) (fun t k => XS.lload X12.here hx rfl (hb hby at_85) rfl k) ?_
        refine GoW.sg (mkF m 89 (K6 q1 q2 q3 z9 z11 z13) [(.long z11), (.long z9)]) (fun t k => XS.lload X12.here hx rfl (hb hby at_87) rfl k) ?_
        refine GoW.sg (mkF m 90 (K6 q1 q2 q3 z9 z11 z13) [(.long (z9 - z11))]) (fun t k => XS.lsub X12.here hx rfl (hb hby at_89) rfl k) ?_
        refine GoW.sg (mkF m 92 (K7 q1 q2 q3 z9 z11 z13 (z9 - z11)) []) (fun t k => XS.lstore X12.here hx rfl (hb hby at_90) rfl (l' := (K7 q1 q2 q3 z9 z11 z13 (z9 - z11))) rfl k) ?_
        exact J92_21 _ (by rw [if_pos c22, if_neg c23, if_neg c24])
  · refine GoW.sg (mkF m 58 (K6 q1 q2 q3 z9 z11 z13) []) (fun t k => XS.ifYes X12.here hx rfl (pc0 := 35) (pc' := 58) rfl (hb hby at_35) rfl ((if0 _ _).trans (flt (mt (lw_gt _ _).mp c22)).2.2.2) (by decide) (by decide) k) ?_
    refine GoW.sg (mkF m 60 (K6 q1 q2 q3 z9 z11 z13) [(.long z11)]) (fun t k => XS.lload X12.here hx rfl (hb hby at_58) rfl k) ?_
    refine GoW.sg (mkF m 61 (K6 q1 q2 q3 z9 z11 z13) [(.long 0), (.long z11)]) (fun t k => XS.lconst X12.here hx rfl (hb hby at_60) k) ?_
    refine GoW.sg (mkF m 62 (K6 q1 q2 q3 z9 z11 z13) [(.int (lcmpW z11 (0 : Int64)))]) (fun t k => XS.lcmp X12.here hx rfl (hb hby at_61) rfl k) ?_
    by_cases c26 : z11 < (0 : Int64)
    · refine GoW.sg (mkF m 65 (K6 q1 q2 q3 z9 z11 z13) []) (fun t k => XS.ifNo X12.here hx rfl (hb hby at_62) rfl ((if0 _ _).trans (tlt ((lw_lt _ _).mpr c26)).2.1) k) ?_
      refine GoW.sg (mkF m 67 (K6 q1 q2 q3 z9 z11 z13) [(.long z9)]) (fun t k => XS.lload X12.here hx rfl (hb hby at_65) rfl k) ?_
      refine GoW.sg (mkF m 70 (K6 q1 q2 q3 z9 z11 z13) [(.long 9223372036854775807), (.long z9)]) (fun t k => X12.ldc2Long hx hown (mvT hZ (ww hw 11 rfl)) (g := (mkF m 67 (K6 q1 q2 q3 z9 z11 z13) [(.long z9)])) rfl (hb hby at_67) t k) ?_
      refine GoW.sg (mkF m 72 (K6 q1 q2 q3 z9 z11 z13) [(.long z11), (.long 9223372036854775807), (.long z9)]) (fun t k => XS.lload X12.here hx rfl (hb hby at_70) rfl k) ?_
      refine GoW.sg (mkF m 73 (K6 q1 q2 q3 z9 z11 z13) [(.long ((9223372036854775807 : Int64) + z11)), (.long z9)]) (fun t k => XS.ladd X12.here hx rfl (hb hby at_72) rfl k) ?_
      refine GoW.sg (mkF m 74 (K6 q1 q2 q3 z9 z11 z13) [(.int (lcmpW z9 ((9223372036854775807 : Int64) + z11)))]) (fun t k => XS.lcmp X12.here hx rfl (hb hby at_73) rfl k) ?_
      by_cases c27 : ((9223372036854775807 : Int64) + z11) < z9
      · refine GoW.sg (mkF m 77 (K6 q1 q2 q3 z9 z11 z13) []) (fun t k => XS.ifNo X12.here hx rfl (hb hby at_74) rfl ((if0 _ _).trans (tlt ((lw_gt _ _).mpr c27)).2.2.2) k) ?_
        refine GoW.sg (mkF m 80 (K6 q1 q2 q3 z9 z11 z13) [(.long 9223372036854775807)]) (fun t k => X12.ldc2Long hx hown (mvT hZ (ww hw 11 rfl)) (g := (mkF m 77 (K6 q1 q2 q3 z9 z11 z13) [])) rfl (hb hby at_77) t k) ?_
        refine GoW.sg (mkF m 82 (K7 q1 q2 q3 z9 z11 z13 9223372036854775807) []) (fun t k => XS.lstore X12.here hx rfl (hb hby at_80) rfl (l' := (K7 q1 q2 q3 z9 z11 z13 9223372036854775807)) rfl k) ?_
        refine GoW.sg (mkF m 92 (K7 q1 q2 q3 z9 z11 z13 9223372036854775807) []) (fun t k => XS.goto X12.here hx rfl (pc0 := 82) (pc' := 92) rfl (hb hby at_82) (by decide) (by decide) k) ?_
        exact J92_21 _ (by rw [if_neg c22, if_pos c26, if_pos c27])
      · refine GoW.sg (mkF m 85 (K6 q1 q2 q3 z9 z11 z13) []) (fun t k => XS.ifYes X12.here hx rfl (pc0 := 74) (pc' := 85) rfl (hb hby at_74) rfl ((if0 _ _).trans (flt (mt (lw_gt _ _).mp c27)).2.2.2) (by decide) (by decide) k) ?_
        refine GoW.sg (mkF m 87 (K6 q1 q2 q3 z9 z11 z13) [(.long z9)]) (fun t k => XS.lload X12.here hx rfl (hb hby at_85) rfl k) ?_
        refine GoW.sg (mkF m 89 (K6 q1 q2 q3 z9 z11 z13) [(.long z11), (.long z9)]) (fun t k => XS.lload X12.here hx rfl (hb hby at_87) rfl k) ?_
        refine GoW.sg (mkF m 90 (K6 q1 q2 q3 z9 z11 z13) [(.long (z9 - z11))]) (fun t k => XS.lsub X12.here hx rfl (hb hby at_89) rfl k) ?_
        refine GoW.sg (mkF m 92 (K7 q1 q2 q3 z9 z11 z13 (z9 - z11)) []) (fun t k => XS.lstore X12.here hx rfl (hb hby at_90) rfl (l' := (K7 q1 q2 q3 z9 z11 z13 (z9 - z11))) rfl k) ?_
        exact J92_21 _ (by rw [if_neg c22, if_pos c26, if_neg c27])
    · refine GoW.sg (mkF m 85 (K6 q1 q2 q3 z9 z11 z13) []) (fun t k => XS.ifYes X12.here hx rfl (pc0 := 62) (pc' := 85) rfl (hb hby at_62) rfl ((if0 _ _).trans (flt (mt (lw_lt _ _).mp c26)).2.1) (by decide) (by decide) k) ?_
      refine GoW.sg (mkF m 87 (K6 q1 q2 q3 z9 z11 z13) [(.long z9)]) (fun t k => XS.lload X12.here hx rfl (hb hby at_85) rfl k) ?_
      refine GoW.sg (mkF m 89 (K6 q1 q2 q3 z9 z11 z13) [(.long z11), (.long z9)]) (fun t k => XS.lload X12.here hx rfl (hb hby at_87) rfl k) ?_
      refine GoW.sg (mkF m 90 (K6 q1 q2 q3 z9 z11 z13) [(.long (z9 - z11))]) (fun t k => XS.lsub X12.here hx rfl (hb hby at_89) rfl k) ?_
      refine GoW.sg (mkF m 92 (K7 q1 q2 q3 z9 z11 z13 (z9 - z11)) []) (fun t k => XS.lstore X12.here hx rfl (hb hby at_90) rfl (l' := (K7 q1 q2 q3 z9 z11 z13 (z9 - z11))) rfl k) ?_
      exact J92_21 _ (by rw [if_neg c22, if_neg c26])
theorem own_xn (a b : Int64) : (a ^^^ b).toInt < 0 ↔ ¬ (a.toInt < 0 ↔ b.toInt < 0) := by
  have h := BitVec.msb_xor (x := a.toBitVec) (y := b.toBitVec)
  rw [BitVec.msb_eq_toInt, BitVec.msb_eq_toInt, BitVec.msb_eq_toInt] at h
  change decide ((a ^^^ b).toInt < 0) = (decide (a.toInt < 0) ^^ decide (b.toInt < 0)) at h
  by_cases p : (a ^^^ b).toInt < 0 <;> by_cases q : a.toInt < 0 <;> by_cases r : b.toInt < 0 <;> simp [p, q, r] at h ⊢
theorem own_held (a b : Int64) : F2 a b = (if (0 : Int64) < b then (if a < ((-9223372036854775808 : Int64) + b) then (-9223372036854775808 : Int64) else (if b < (0 : Int64) then (if ((9223372036854775807 : Int64) + b) < a then (9223372036854775807 : Int64) else (a - b)) else (a - b))) else (if b < (0 : Int64) then (if ((9223372036854775807 : Int64) + b) < a then (9223372036854775807 : Int64) else (a - b)) else (a - b))) := by
  unfold F2 F2_1
  have x1 := own_xn a b
  have x2 := own_xn a (a - b)
  have d1 := c_lsub a b
  have d2 := c_ladd (-9223372036854775808 : Int64) b
  have d3 := c_ladd (9223372036854775807 : Int64) b
  have r1 := rng64 a
  have r2 := rng64 b
  have r3 := rng64 (a - b)
  have r4 := rng64 ((-9223372036854775808 : Int64) + b)
  have r5 := rng64 ((9223372036854775807 : Int64) + b)
  have e1 : (-9223372036854775808 : Int64).toInt = -9223372036854775808 := by decide
  have e2 : (9223372036854775807 : Int64).toInt = 9223372036854775807 := by decide
  have e3 : (0 : Int64).toInt = 0 := by decide
  rw [e1] at d2; rw [e2] at d3
  simp only [Int64.lt_iff_toInt_lt, e3]
  apply Int64.toInt_inj.mp
  generalize (a ^^^ b).toInt = X1 at *
  generalize (a ^^^ (a - b)).toInt = X2 at *
  generalize hD : a - b = D at *
  generalize ((-9223372036854775808 : Int64) + b).toInt = M1 at *
  generalize ((9223372036854775807 : Int64) + b).toInt = M2 at *
  by_cases c1 : X1 < 0 <;> by_cases c2 : X2 < 0 <;> by_cases c3 : a.toInt < 0 <;> by_cases c4 : 0 < b.toInt <;> by_cases c5 : a.toInt < M1 <;> by_cases c6 : b.toInt < 0 <;> by_cases c7 : M2 < a.toInt <;> simp only [c1, c2, c3, c4, c5, c6, c7, if_true, if_false] <;> first | rfl | omega
theorem own_law (q1 q2 : Int64) (q3 : Int32) : F0 q1 q2 q3 = 1 := by
  unfold F0 F0_1 F0_2 F0_3 F0_4
  rw [if_pos (own_held _ _)]

set_option maxRecDepth 65536 in
set_option maxHeartbeats 40000000 in
theorem comes_1 {Post : Tables → Env → Array Value → State → Outcome → State → Prop} (hpost : ∀ tb e args s v u, (limb_1_1.after args s (.returned v) u = true ∧ limb_1_2.after args s (.returned v) u = true ∧ True) → FrameEnd s (.returned v) u (Jvm.fieldLocs frame_1_writes args s ++ Jvm.arrayLocs frame_1_arrays args s ++ Jvm.staticLocs frame_1_statics s) 0 0 → Post tb e args s (.returned v) u) :
    ArmFor flags0 classFile x code maxLocals ret World_1 tables_1 room_1 Calls_1 rest_1 Pre_1 Post := by
  intro l hfl _ _ p e ha hc hk s m args below hf hA hF happ hP
  obtain ⟨hcalls, hrest, hpre⟩ := hP
  obtain ⟨-, -, -, hnamed, -, -, -, hat⟩ := (Spec.applies_iff hf).mp happ
  obtain ⟨hg, hn⟩ := and_e (Cond.before_iff.mp (show (Jvm.Cond.and given_1 narrow_1).before args s = true from hpre))
  obtain ⟨ga0, gb0⟩ := and_e hg
  obtain ⟨ga1, gb1⟩ := and_e gb0
  obtain ⟨ga2, gb2⟩ := and_e gb1
  obtain ⟨w0, w1, w2, rfl⟩ : ∃ w0 w1 w2 : Value, args = #[w0, w1, w2] := by
    have hs : args.size = 3 := by simpa [Cond.value, given_1] using ga0
    obtain ⟨L⟩ := args
    match L, hs with
    | [w0, w1, w2], _ => exact ⟨w0, w1, w2, rfl⟩
  have hw := fun d (hd : d ∈ tables_1) => atoms_spec (ws := Jvm.Cond.code x code maxLocals ret :: tables_1) hat d (List.mem_cons_of_mem _ hd)
  have hfit : Fit s := fun {y c} hc i hi => by
    obtain ⟨ha, rfl⟩ := Array.getElem?_eq_some_iff.mp hc
    have q := List.all_eq_true.mp ((Array.all_eq_true_iff_forall_mem.mp hF) _ (Array.getElem_mem ha)) i (List.mem_range.mpr hi)
    simpa [Array.getElem?_eq_getElem hi] using q
  obtain ⟨i0, ei0⟩ := isL_v ga1
  obtain rfl : w0 = (.long i0) := Option.some.inj ei0
  obtain ⟨i1, ei1⟩ := isL_v ga2
  obtain rfl : w1 = (.long i1) := Option.some.inj ei1
  obtain ⟨i2, ei2⟩ := is_v gb2
  obtain rfl : w2 = (.int i2) := Option.some.inj ei2
  obtain ⟨n, o, h1, h2, h3, v, L, rfl, ⟨hv, N⟩, hq⟩ := rm0 l s _ hw tables_1 i0 i1 i2  s.heap s.heap.size (Nat.le_refl _)  p e ha hc hk s m _ below hf ((Spec.applies_iff_loose hf).mp happ).1 ⟨rfl, State.Warmed39.refl s, rfl⟩ trivial
  rw [own_law i0 i1 i2] at hv
  subst hv
  refine ⟨n, _, h1, h2, h3, hpost _ _ _ _ _ _ ⟨Cond.after_iff.mpr rfl, Cond.after_iff.mpr (eq_i res_at (Term.int_eval (1)) rfl), trivial⟩ ⟨hq.1, hq.2.1, (hq.2.2.sift fun y hy => Or.inr (N y hy)).mono (by decide) (by decide)⟩⟩
theorem main_1_1 : Claimed_1_1 := comes_1 fun _ _ _ _ _ _ h hF => ⟨h.1, hF⟩
theorem main_1_2 : Claimed_1_2 := comes_1 fun _ _ _ _ _ _ h hF => ⟨h.2.1, hF⟩
end Jvm.Pilot.@@N@@
namespace Jvm.Pilot.@@N@@
open Jvm Jvm.ClassFile Sem Op Lib Jvm.Free Jvm.Stand Jvm.Pilot.@@N@@.Jvm.D
/-! MADE BY PROGRAM (witnessworld.py) out of the Statement's table words and the real class files: 10 classes; the members and pool entries that the words name. The judged class is class 1, her method 2. -/
namespace start1
open Jvm.ClassFile
def u (s : String) : CpInfo := .utf8 (stringToUtf16 s)
/-- a pool by its gaps: so many unusable entries, then the entry; so many at the end -/
def gap : Nat → List CpInfo → List CpInfo
  | 0, r => r
  | n + 1, r => .unusable :: gap n r
def poolList (es : List (Nat × CpInfo)) (last : Nat) : List CpInfo := es.foldr (fun e r => gap e.1 (e.2 :: r)) (gap last [])
def pool (es : List (Nat × CpInfo)) (last : Nat) : Array CpInfo := ⟨poolList es last⟩
def fileOf (pool : Array CpInfo) (this : Nat) (attrs : Array Attribute := #[]) (ms : Array MethodInfo := #[]) (fl : Nat := 33) (sup : Nat := 0) (ifs : Array Nat := #[]) (fds : Array FieldInfo := #[]) : ClassFile where
  minorVersion := 0
  majorVersion := 65
  constantPool := pool
  accessFlags := fl
  thisClass := this
  superClass := sup
  interfaces := ifs
  fields := fds
  methods := ms
  attributes := attrs
def plain (name : String) (sup : Option ClassId) : Class where
  name := name
  kind := .ordinary
  loader := none
  accessFlags := 33
  super := sup
  interfaces := #[]
  cf := none
  fields := #[]
  methods := #[]
  instanceTypes := #[]
  staticTypes := #[]
  resolved := #[]
  callSites := []
  init := .initialized
  statics := none
  mirror := none

def pool0 : Array CpInfo := pool [(5, u "<init>"), (0, u "()V"), (1, .class_ 10), (1, u "java/lang/Object")] 113

def k0m0 : Method := { name := "<init>", desc := "()V", sig := { parameters := [], returnType := none }, accessFlags := 1, code := none }
/-- java/lang/Object -/
def k0 : Class := { plain "java/lang/Object" none with
  accessFlags := 33
  interfaces := #[]
  cf := some (fileOf pool0 8 #[] #[{ accessFlags := 1, nameIndex := 5, descriptorIndex := 6, attributes := #[] }] 33 0 #[] #[])
  fields := #[]
  methods := #[k0m0]
  instanceTypes := #[]
  staticTypes := #[]
  resolved := Array.replicate 124 none
  statics := none }

def pool1 : Array CpInfo := pool [(2, .class_ 4), (1, u "java/lang/Object"), (0, u "<init>"), (0, u "()V"), (2, .long 9223372036854775807), (1, .long 3), (1, .long 9223372036854775808), (1, .long 7), (1, .long 4), (1, .methodref 20 21), (0, .class_ 22), (0, .nameAndType 23 24), (0, u "com/example/spindle/spindle/ExactTimeHeldDifferencePinLaw"), (0, u "pick"), (0, u "(JI)J"), (0, .methodref 26 27), (0, .class_ 28), (0, .nameAndType 29 30), (0, u "com/example/spindle/spindle/ExactTime"), (0, u "heldDifference"), (0, u "(JJ)J"), (3, u "law"), (0, u "(JJI)Z")] 2

def k1m0 : Method := { name := "<init>", desc := "()V", sig := { parameters := [], returnType := none }, accessFlags := 1, code := none }
def k1c1 : Code := { maxStack := 6, maxLocals := 3, code := method_2_code, exceptionTable := #[], attributes := #[] }
def k1m1 : Method := { name := "pick", desc := "(JI)J", sig := { parameters := [.long, .int], returnType := some .long }, accessFlags := 10, code := some k1c1 }
def k1c2 : Code := { maxStack := 6, maxLocals := 13, code := code, exceptionTable := #[], attributes := #[] }
def k1m2 : Method := { name := "law", desc := "(JJI)Z", sig := { parameters := [.long, .long, .int], returnType := some .boolean }, accessFlags := 9, code := some k1c2 }
/-- com/example/spindle/spindle/ExactTimeHeldDifferencePinLaw -/
def k1 : Class := { plain "com/example/spindle/spindle/ExactTimeHeldDifferencePinLaw" (some 0) with
  accessFlags := 49
  interfaces := #[]
  cf := some (fileOf pool1 20 #[] #[{ accessFlags := 1, nameIndex := 5, descriptorIndex := 6, attributes := #[] }, { accessFlags := 10, nameIndex := 23, descriptorIndex := 24, attributes := #[] }, { accessFlags := 9, nameIndex := 34, descriptorIndex := 35, attributes := #[] }] 49 2 #[] #[])
  fields := #[]
  methods := #[k1m0, k1m1, k1m2]
  instanceTypes := #[]
  staticTypes := #[]
  resolved := Array.replicate 38 none
  statics := none }

def pool2 : Array CpInfo := pool [(2, .class_ 4), (1, u "java/lang/Object"), (0, u "<init>"), (0, u "()V"), (0, .class_ 8), (0, u "java/lang/Record")] 13

def k2m0 : Method := { name := "<init>", desc := "()V", sig := { parameters := [], returnType := none }, accessFlags := 4, code := none }
/-- java/lang/Record -/
def k2 : Class := { plain "java/lang/Record" (some 0) with
  accessFlags := 1057
  interfaces := #[]
  cf := some (fileOf pool2 7 #[] #[{ accessFlags := 4, nameIndex := 5, descriptorIndex := 6, attributes := #[] }] 1057 2 #[] #[])
  fields := #[]
  methods := #[k2m0]
  instanceTypes := #[]
  staticTypes := #[]
  resolved := Array.replicate 22 none
  statics := none }

def pool3 : Array CpInfo := pool [(2, .class_ 4), (1, u "java/lang/Record"), (3, .class_ 10), (1, u "com/example/spindle/spindle/ExactTime"), (0, u "millis"), (0, u "J"), (2, u "nanos"), (5, u "(JJ)J"), (2, .long 9223372036854775807), (1, .long 9223372036854775808), (7, u "ZERO"), (0, u "Lcom/example/spindle/spindle/ExactTime;"), (62, u "NANOS_PER_MILLI"), (5, u "heldDifference")] 32

def k3c0 : Code := { maxStack := 4, maxLocals := 6, code := prog_3_method_4_code, exceptionTable := #[], attributes := #[] }
def k3m0 : Method := { name := "heldDifference", desc := "(JJ)J", sig := { parameters := [.long, .long], returnType := some .long }, accessFlags := 8, code := some k3c0 }
/-- com/example/spindle/spindle/ExactTime -/
def k3 : Class := { plain "com/example/spindle/spindle/ExactTime" (some 2) with
  accessFlags := 48
  interfaces := #[]
  cf := some (fileOf pool3 8 #[] #[{ accessFlags := 8, nameIndex := 104, descriptorIndex := 21, attributes := #[] }] 48 2 #[] #[{ accessFlags := 18, nameIndex := 11, descriptorIndex := 12, attributes := #[] }, { accessFlags := 18, nameIndex := 15, descriptorIndex := 12, attributes := #[] }, { accessFlags := 24, nameIndex := 34, descriptorIndex := 35, attributes := #[] }, { accessFlags := 26, nameIndex := 98, descriptorIndex := 12, attributes := #[] }])
  fields := #[{ name := "millis", type := .long, accessFlags := 18, slot := 0, constantValue := 0 }, { name := "nanos", type := .long, accessFlags := 18, slot := 1, constantValue := 0 }, { name := "ZERO", type := (.object "com/example/spindle/spindle/ExactTime"), accessFlags := 24, slot := 0, constantValue := 0 }, { name := "NANOS_PER_MILLI", type := .long, accessFlags := 26, slot := 1, constantValue := 0 }]
  methods := #[k3m0]
  instanceTypes := #[.long, .long]
  staticTypes := #[(.object "com/example/spindle/spindle/ExactTime"), .long]
  resolved := Array.replicate 137 none
  statics := none }

def pool4 : Array CpInfo := pool [(1, u "java/lang/Cloneable"), (0, .class_ 1), (0, u "java/lang/Object"), (0, .class_ 3)] 3

/-- java/lang/Cloneable -/
def k4 : Class := { plain "java/lang/Cloneable" (some 0) with
  accessFlags := 1537
  interfaces := #[]
  cf := some (fileOf pool4 2 #[] #[] 1537 4 #[] #[])
  fields := #[]
  methods := #[]
  instanceTypes := #[]
  staticTypes := #[]
  resolved := Array.replicate 8 none
  statics := none }

def pool5 : Array CpInfo := pool [(1, u "java/io/Serializable"), (0, .class_ 1), (0, u "java/lang/Object"), (0, .class_ 3)] 3

/-- java/io/Serializable -/
def k5 : Class := { plain "java/io/Serializable" (some 0) with
  accessFlags := 1537
  interfaces := #[]
  cf := some (fileOf pool5 2 #[] #[] 1537 4 #[] #[])
  fields := #[]
  methods := #[]
  instanceTypes := #[]
  staticTypes := #[]
  resolved := Array.replicate 8 none
  statics := none }

/-- the primitive byte -/
def k6 : Class := { plain "byte" none with kind := .primitive 'B', accessFlags := 0x411 }
/-- [B -/
def k7 : Class := { plain "[B" (some 0) with kind := .array 6 .byte, interfaces := #[4, 5], accessFlags := 1041 }

/-- the primitive int -/
def k8 : Class := { plain "int" none with kind := .primitive 'I', accessFlags := 0x411 }
/-- [I -/
def k9 : Class := { plain "[I" (some 0) with kind := .array 8 .int, interfaces := #[4, 5], accessFlags := 1041 }

def heap : Heap := #[]
def classes : Array Class := #[k0, k1, k2, k3, k4, k5, k6, k7, k8, k9]
def interned : List (Array UInt16 × Addr) := []
def slotsUsed : Nat := 0
def theMethod : MethodId := ⟨1, 2⟩
def args0 : Array Value := #[.long 65, .long 5, .int 3]
def aboutOver (below : List Frame) : State where
  vm := { classes := classes, interned := interned.toArray }
  heap := heap
  slotsUsed := slotsUsed
  threads := #[{ frames := .invoking theMethod args0 :: below }]
def below0 : List Frame := [.native { method := ⟨0, 0⟩, args := #[] }]
def about1 : State := aboutOver below0
def p0 : Program := .bare "" "" ""
def e0 : Env := launch0.env 0 0 0
theorem w_frames : about1.frames = Frame.invoking theMethod args0 :: below0 := rfl
set_option maxRecDepth 65536 in
theorem w_args : argsFit about1.vm theMethod args0 = true := by decide +kernel
set_option maxRecDepth 65536 in
theorem w_heap : heapFits about1 = true := by decide +kernel
set_option maxRecDepth 65536 in
theorem w_runnable : about1.curStatus? = some .runnable := by decide +kernel
set_option maxRecDepth 65536 in
theorem w_alone : about1.alone = true := by decide +kernel
set_option maxRecDepth 65536 in
theorem w_named : about1.methodNamed? x = some theMethod := by decide +kernel
set_option maxRecDepth 65536 in
theorem w_hears : about1.hears theMethod below0 = true := by decide +kernel
set_option maxRecDepth 65536 in
theorem w_ripe : about1.ripe theMethod args0 below0 = true := by decide +kernel
theorem w_running : about1.status = .running := rfl
set_option maxRecDepth 65536 in
theorem w_room : about1.hasRoom e0.platform room_1 = true :=
  launch0.hasRoom_least _ room_1 (by decide +kernel) (by decide +kernel) (by decide +kernel) (by decide +kernel) (by decide +kernel) (by decide +kernel)
theorem allAtoms_all (ts : List Jvm.Cond) (a : Array Jvm.Value) (st : Jvm.State) : (allAtoms ts).before a st = ts.all (fun c => c.before a st) := by
  induction ts with
  | nil => rfl
  | cons c t ih =>
    show (Jvm.Cond.and c (allAtoms t)).before a st = _
    rw [Jvm.Cond.before_and, ih, List.all_cons]
def words1 : List Jvm.Cond := Jvm.Cond.code x code maxLocals ret :: tables_1
/-- a 'code' word, met by the world's own term for the bytes: nothing is compared byte by byte -/
theorem code_word {y : MethodName} {bytes : ByteArray} {mx : Nat} {rt : Option FieldType} {a : Array Value} {s : State} {m : MethodId} {meth : Method} {c : Code} (h1 : s.methodNamed? y = some m) (h2 : s.vm.method? m = some meth) (h3 : meth.code = some c) (h4 : c.code = bytes)
    (h5 : (c.maxLocals == mx && c.exceptionTable.isEmpty && decide (c.maxStack ≤ mostOperands) && decide (meth.sig.returnType = rt) && !meth.locks && decide (parseMethodDescriptor y.desc = some meth.sig)) = true) : (Jvm.Cond.code y bytes mx rt).before a s = true := by
  simp only [Bool.and_eq_true, beq_iff_eq, Bool.not_eq_true', decide_eq_true_eq] at h5
  obtain ⟨⟨⟨⟨⟨g1, g2⟩, g3⟩, g4⟩, g5⟩, g6⟩ := h5
  simp [Cond.before, Cond.holds, Cond.value, h1, h2, h3, h4, g1, g2, g3, g4, g5, g6]
def isCode : Jvm.Cond → Bool
  | .code _ _ _ _ => true
  | _ => false
theorem all_split {L : List Jvm.Cond} {P : Jvm.Cond → Bool} (h1 : L.all (fun c => isCode c || P c) = true) (h2 : ∀ c ∈ L.filter isCode, P c = true) : L.all P = true := by
  refine List.all_eq_true.mpr fun c hc => ?_
  have h := List.all_eq_true.mp h1 c hc
  rcases Bool.eq_false_or_eq_true (isCode c) with hi | hi
  · exact h2 c (List.mem_filter.mpr ⟨hc, hi⟩)
  · simpa [hi] using h
set_option maxRecDepth 65536 in
theorem w_c0 : (Jvm.Cond.code x code maxLocals ret).before args0 about1 = true := code_word (m := ⟨1, 2⟩) (meth := k1m2) (c := k1c2) (by decide +kernel) rfl rfl rfl (by decide +kernel)
set_option maxRecDepth 65536 in
theorem w_c1 : (Jvm.Cond.code ({ cls := "com/example/spindle/spindle/ExactTimeHeldDifferencePinLaw", name := "pick", desc := "(JI)J" } : Jvm.MethodName) method_2_code (3 : Nat) (Option.some Jvm.ClassFile.FieldType.long)).before args0 about1 = true := code_word (m := ⟨1, 1⟩) (meth := k1m1) (c := k1c1) (by decide +kernel) rfl rfl rfl (by decide +kernel)
set_option maxRecDepth 65536 in
theorem w_c2 : (Jvm.Cond.code ({ cls := "com/example/spindle/spindle/ExactTime", name := "heldDifference", desc := "(JJ)J" } : Jvm.MethodName) prog_3_method_4_code (6 : Nat) (Option.some Jvm.ClassFile.FieldType.long)).before args0 about1 = true := code_word (m := ⟨3, 0⟩) (meth := k3m0) (c := k3c0) (by decide +kernel) rfl rfl rfl (by decide +kernel)
def codes1 : List Jvm.Cond := [Jvm.Cond.code x code maxLocals ret, Jvm.Cond.code ({ cls := "com/example/spindle/spindle/ExactTimeHeldDifferencePinLaw", name := "pick", desc := "(JI)J" } : Jvm.MethodName) method_2_code (3 : Nat) (Option.some Jvm.ClassFile.FieldType.long), Jvm.Cond.code ({ cls := "com/example/spindle/spindle/ExactTime", name := "heldDifference", desc := "(JJ)J" } : Jvm.MethodName) prog_3_method_4_code (6 : Nat) (Option.some Jvm.ClassFile.FieldType.long)]
set_option maxRecDepth 65536 in
theorem codes_eq : words1.filter isCode = codes1 := rfl
theorem w_codes : ∀ c ∈ words1.filter isCode, c.before args0 about1 = true := by
  rw [codes_eq]
  intro c hc
  simp only [codes1, List.mem_cons, List.not_mem_nil, or_false] at hc
  rcases hc with rfl | rfl | rfl
  · exact w_c0
  · exact w_c1
  · exact w_c2
set_option maxRecDepth 65536 in
theorem w_t1 : words1.all (fun c => isCode c || c.before args0 about1) = true := by decide +kernel
theorem w_tables : (allAtoms (Jvm.Cond.code x code maxLocals ret :: tables_1)).before args0 about1 = true := by
  rw [allAtoms_all]
  show words1.all (fun c => c.before args0 about1) = true
  refine all_split ?_ w_codes
  rw [w_t1]
set_option maxRecDepth 65536 in
theorem w_case : (Jvm.Cond.and given_1 narrow_1).before args0 about1 = true := by decide +kernel
theorem w_applies : (headSpec (Jvm.Cond.code x code maxLocals ret :: tables_1) room_1).applies x e0.platform about1 = true :=
  (Spec.applies_iff w_frames).mpr ⟨w_running, w_runnable, w_alone, w_named, w_hears, w_ripe, w_room, w_tables⟩
theorem atStart : AtStart classFile x code maxLocals ret World_1 tables_1 room_1 Calls_1 rest_1 Pre_1 launch0 p0 e0 about1 theMethod args0 below0 :=
  ⟨lists_1, trivial, launch0.admits_env _ _ _, launch0.least_env, fairChoices_fair.cas, fairChoices_fair.clock, w_frames, w_args, w_heap, w_applies, trivial, trivial, w_case⟩
end start1
theorem witness_1 : WitnessClaimed_1 := ⟨start1.p0, start1.e0, start1.about1, start1.theMethod, start1.args0, start1.below0, start1.atStart⟩
end Jvm.Pilot.@@N@@
