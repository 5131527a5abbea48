import JvmDerived
import JvmDerived.Pilot.@@N@@Statement
import JvmDerived.Pilot.@@N@@Code
set_option linter.unusedVariables false
set_option linter.unusedSimpArgs false
namespace Jvm.RoadKit
open Sem ClassFile Op Lib Jvm.Stand Jvm.Free Jvm.LawKit
def GoW (p : Program) (e : Env) (below : List Frame) (s : State) (Q : Option Value → Heap → List Loc → Prop) (k n : Nat) (u : State) : Prop :=
  ∃ s₂ o, Steps p.tables e below u s₂ ∧ s₂.status = .running ∧ Ended s₂ below o ∧ ∃ v L, o = .returned v ∧ Q v s₂.heap L ∧ FrameEnd s o s₂ L k n
def PureQ (r : Value) (h0 : Heap) (n0 : Nat) (v : Option Value) (h : Heap) (L : List Loc) : Prop := v = some r ∧ Fr n0 L ∧ h = h0
def ValQ (r : Value) (n0 : Nat) (v : Option Value) (h : Heap) (L : List Loc) : Prop := v = some r ∧ Fr n0 L
section New
variable {p : Program} {l : Launch} {e : Env} {R : Room} {s : State} {m : MethodId} {args : Array Value} {below : List Frame} {meth : Method} {c : Code} {T : State} {locs : List Loc} {cells slots : Nat} {Q : Option Value → Heap → List Loc → Prop} {k n : Nat} {u v : State}
theorem GoW.mk (h : GoW p e below s Q k n u) : ∃ s₂ o, Steps p.tables e below u s₂ ∧ s₂.status = .running ∧ Ended s₂ below o ∧ ∃ v L, o = .returned v ∧ Q v s₂.heap L ∧ FrameEnd s o s₂ L k n := h
theorem GoW.st (h : ∀ t, Steps p.tables e below u t → Steps p.tables e below v t) (q : GoW p e below s Q k n u) : GoW p e below s Q k n v := by
  obtain ⟨s₂, o, h1, h2⟩ := q; exact ⟨s₂, o, h _ h1, h2⟩
theorem GoW.sg {T' : State} (g' : JFrame) (h : ∀ t, Steps p.tables e below (T'.setTop g') t → Steps p.tables e below v t) (q : GoW p e below s Q k n (T'.setTop g')) : GoW p e below s Q k n v := GoW.st h q
theorem retI (X : Stand p l e R s m args below meth c T locs cells slots) (hx : p.tables.exec = Jvm.exec) {pc : Nat} {Ls : Array Slot} {z : Int32} {rest : List Value} (hret : meth.sig.returnType = some .int) (hd : decode c.code pc = .ok (.ireturn, 1)) {fs : List Frame}
    (hl : ∀ (f : JFrame) (acts : List Action), f.method = m → f.locked = none → f.entered = [] → (doReturn e (T.setTop f) acts (some (.int z))).1 = T.setFrames fs) : Steps p.tables e below (T.setTop (mkF m pc Ls (.int z :: rest))) (T.setFrames fs) := by
  have hm' : T.vm.method? m = some meth := X.method'
  have hn : narrow .int (.int z) = .int z := rfl
  show Steps p.tables e below (T.setTop { method := m, pc := pc, locals := Ls, stack := _ :: rest, locked := none }) _
  jvm_step X.here [X.here.top, hx, hd, hm', hret, hn]
  first | (intro acts; rw [hl _ acts rfl rfl rfl]) | rw [hl _ _ rfl rfl rfl]
  exact Steps.refl _
theorem GoW.retN (X : Stand p l e R s m args below meth c T locs cells slots) (hx : p.tables.exec = Jvm.exec) {pc : Nat} {Ls : Array Slot} {z : Int32} {t : FieldType} {rest : List Value} (hret : meth.sig.returnType = some t) (ht : t = .boolean ∨ t = .byte ∨ t = .char ∨ t = .short)
    (hd : decode c.code pc = .ok (.ireturn, 1)) (hlk : meth.locks = false) (hq : Q (some (.int (nar t z))) T.heap locs) (hk : cells ≤ k) (hn : slots ≤ n) : GoW p e below s Q k n (T.setTop (mkF m pc Ls (.int z :: rest))) := by
  obtain ⟨fs, hr, hrun, hended, hW, hsame⟩ := X.leave (v := some (.int (nar t z))) (fun h => by rw [hret] at h; cases h) hlk
  exact ⟨_, _, Jvm.RoadKit.retN X hx hret ht hd hr, hrun, hended, _, _, rfl, hq, ⟨_, rfl⟩, hW, hsame.mono hk hn⟩
theorem GoW.retI (X : Stand p l e R s m args below meth c T locs cells slots) (hx : p.tables.exec = Jvm.exec) {pc : Nat} {Ls : Array Slot} {z : Int32} {rest : List Value} (hret : meth.sig.returnType = some .int)
    (hd : decode c.code pc = .ok (.ireturn, 1)) (hlk : meth.locks = false) (hq : Q (some (.int z)) T.heap locs) (hk : cells ≤ k) (hn : slots ≤ n) : GoW p e below s Q k n (T.setTop (mkF m pc Ls (.int z :: rest))) := by
  obtain ⟨fs, hr, hrun, hended, hW, hsame⟩ := X.leave (v := some (.int z)) (fun h => by rw [hret] at h; cases h) hlk
  exact ⟨_, _, Jvm.RoadKit.retI X hx hret hd hr, hrun, hended, _, _, rfl, hq, ⟨_, rfl⟩, hW, hsame.mono hk hn⟩
theorem GoW.retL (X : Stand p l e R s m args below meth c T locs cells slots) (hx : p.tables.exec = Jvm.exec) {pc : Nat} {Ls : Array Slot} {z : Int64} {rest : List Value} (hret : meth.sig.returnType = some .long)
    (hd : decode c.code pc = .ok (.lreturn, 1)) (hlk : meth.locks = false) (hq : Q (some (.long z)) T.heap locs) (hk : cells ≤ k) (hn : slots ≤ n) : GoW p e below s Q k n (T.setTop (mkF m pc Ls (.long z :: rest))) := by
  obtain ⟨fs, hr, hrun, hended, hW, hsame⟩ := X.leave (v := some (.long z)) (fun h => by rw [hret] at h; cases h) hlk
  exact ⟨_, _, retOut X hx hret rfl (Or.inr (Or.inl ⟨rfl, rfl, z, rfl⟩)) hd hr, hrun, hended, _, _, rfl, hq, ⟨_, rfl⟩, hW, hsame.mono hk hn⟩
theorem GoW.retA (X : Stand p l e R s m args below meth c T locs cells slots) (hx : p.tables.exec = Jvm.exec) {pc : Nat} {Ls : Array Slot} {w : Value} {t : FieldType} {rest : List Value} (hret : meth.sig.returnType = some t) (hw : w.isRef = true) (ht : t.isReference = true)
    (hn' : narrow t w = w) (hd : decode c.code pc = .ok (.areturn, 1)) (hlk : meth.locks = false) (hq : Q (some w) T.heap locs) (hk : cells ≤ k) (hn : slots ≤ n) : GoW p e below s Q k n (T.setTop (mkF m pc Ls (w :: rest))) := by
  obtain ⟨fs, hr, hrun, hended, hW, hsame⟩ := X.leave (v := some w) (fun h => by rw [hret] at h; cases h) hlk
  exact ⟨_, _, retOut X hx hret hn' (Or.inr (Or.inr (Or.inr (Or.inr ⟨rfl, ht, hw⟩)))) hd hr, hrun, hended, _, _, rfl, hq, ⟨_, rfl⟩, hW, hsame.mono hk hn⟩
theorem GoW.retV (X : Stand p l e R s m args below meth c T locs cells slots) (hx : p.tables.exec = Jvm.exec) {pc : Nat} {Ls : Array Slot} (hret : meth.sig.returnType = none)
    (hd : decode c.code pc = .ok (.return_, 1)) (hlk : meth.locks = false) (hq : Q none T.heap locs) (hk : cells ≤ k) (hn : slots ≤ n) : GoW p e below s Q k n (T.setTop (mkF m pc Ls [])) := by
  obtain ⟨fs, hr, hrun, hended, hW, hsame⟩ := X.leave (v := none) (fun _ => rfl) hlk
  exact ⟨_, _, X.returnOut hx hret hd hr, hrun, hended, _, _, rfl, hq, ⟨_, rfl⟩, hW, hsame.mono hk hn⟩
theorem own_eqI {args : Array Value} {first s : State} {o : Option Outcome} {idx : List Nat} {t : Term} {i : Int32} (h : (Jvm.Cond.eq t (.int i)).value args first o s idx = some true) : t.eval args first o idx s = some (.int i) := by
  obtain ⟨x, y, hx, hy, k1, k2⟩ := cmp_v (Or.inl h)
  rw [Term.int_eval] at hy
  cases hy
  obtain ⟨z, rfl⟩ := k2
  have q := gotT (Cond.eq_ints hx (Term.int_eval i)) h
  rw [hx, q]
theorem own_ne {args : Array Value} {first s : State} {o : Option Outcome} {idx : List Nat} {t u : Term} {C n d : String} {i j : Int32} {a b : Addr} (h1 : (Jvm.Cond.eq (.field t C n d) (.int i)).value args first o s idx = some true) (h2 : (Jvm.Cond.eq (.field u C n d) (.int j)).value args first o s idx = some true)
    (ha : t.eval args first o idx s = some (.ref a)) (hb : u.eval args first o idx s = some (.ref b)) (hij : i ≠ j) : a ≠ b := fun e => by
  subst e
  have q1 := own_eqI h1
  have q2 := own_eqI h2
  rw [fld_at ha] at q1
  rw [fld_at hb, q1] at q2
  exact hij (by cases q2; rfl)
theorem own_staK0 {Z : State} {h h' : Heap} {C n d : String} {v : Value} (F : Sta Z h C n d v) (K : Keep h h' []) : Sta Z h' C n d v := by
  obtain ⟨cf, i, k, f, st, cell, h1, h2, h3, h4, h5, r⟩ := F; exact ⟨cf, i, k, f, st, cell, h1, h2, h3, h4, K.2.1 _ _ h5 nin0, r⟩
theorem own_staK1 {Z : State} {h h' : Heap} {C n d K0 : String} {v : Value} {a : Addr} (F : Sta Z h C n d v) (K : Keep h h' [a]) (E : Exa Z h a K0) : Sta Z h' C n d v := by
  obtain ⟨cf, i, k, f, st, cell, h1, h2, h3, h4, h5, h6, r⟩ := F
  refine ⟨cf, i, k, f, st, cell, h1, h2, h3, h4, K.2.1 _ _ h5 (ninS (fun q => ?_) nin0), h6, r⟩
  subst q
  obtain ⟨cell2, k2, g1, -, -, g2, -⟩ := E
  cases h5.symm.trans g1
  rw [h6] at g2; cases g2
theorem GoW.retD (X : Stand p l e R s m args below meth c T locs cells slots) (hx : p.tables.exec = Jvm.exec) {pc : Nat} {Ls : Array Slot} {z : UInt64} {rest : List Value} (hret : meth.sig.returnType = some .double)
    (hd : decode c.code pc = .ok (.dreturn, 1)) (hlk : meth.locks = false) (hq : Q (some (.double z)) T.heap locs) (hk : cells ≤ k) (hn : slots ≤ n) : GoW p e below s Q k n (T.setTop (mkF m pc Ls (.double z :: rest))) := by
  obtain ⟨fs, hr, hrun, hended, hW, hsame⟩ := X.leave (v := some (.double z)) (fun h => by rw [hret] at h; cases h) hlk
  exact ⟨_, _, retOut X hx hret rfl (Or.inr (Or.inr (Or.inl ⟨rfl, rfl, z, rfl⟩))) hd hr, hrun, hended, _, _, rfl, hq, ⟨_, rfl⟩, hW, hsame.mono hk hn⟩
theorem own_pop2L {tb : Tables} [Ours tb] {e : Env} {below : List Frame} {T target : State} {m : MethodId} {c : Code} {g : JFrame} (h : At T m c below) (hx : tb.exec = Jvm.exec) (hg : g.method = m) {x : Int64} {rest : List Value} (hd : decode c.code g.pc = .ok (.pop2, 1)) (hs : g.stack = .long x :: rest)
    (hr : Steps tb e below (T.setTop { g with pc := g.pc + 1, stack := rest }) target) : Steps tb e below (T.setTop g) target := by
  subst hg
  jvm_step h [h.top, hx, hd, hs, Value.category]
  exact hr
end New
end Jvm.RoadKit
namespace Jvm.Pilot.@@N@@
open Jvm Jvm.ClassFile Sem Op Lib Jvm.Free Jvm.Stand Jvm.LawKit Jvm.RoadKit Bundle Jvm.Pilot.@@N@@.Jvm.D
theorem ww {Z : State} {a0 : Array Value} (hw : ∀ d ∈ tables_1, d.before a0 Z = true) (i : Nat) {d : Jvm.Cond} (h : tables_1[i]? = some d) : d.before a0 Z = true := hw _ (List.mem_of_getElem? h)
theorem pn_com_example_abacus_abacus_model_Rule_Effect : plainName "com/example/abacus/abacus/model/Rule$Effect" = true := by first | (simp [plainName, overriddenIn]; done) | decide +kernel
theorem d1_0 : decode prog_112_method_4_code 0 = .ok (.aload_n 0, 1) := by decide +kernel
theorem d1_1 : decode prog_112_method_4_code 1 = .ok (.getstatic 3, 3) := by decide +kernel
theorem d1_4 : decode prog_112_method_4_code 4 = .ok (.if_acmp .ne 9, 3) := by decide +kernel
theorem d1_7 : decode prog_112_method_4_code 7 = .ok (.getstatic 7, 3) := by decide +kernel
theorem d1_10 : decode prog_112_method_4_code 10 = .ok (.goto 6, 3) := by decide +kernel
theorem d1_16 : decode prog_112_method_4_code 16 = .ok (.areturn, 1) := by decide +kernel
theorem d1_13 : decode prog_112_method_4_code 13 = .ok (.getstatic 3, 3) := by decide +kernel
theorem pn_com_example_abacus_abacus_model_EffectOppositePinLaw : plainName "com/example/abacus/abacus/model/EffectOppositePinLaw" = true := by first | (simp [plainName, overriddenIn]; done) | decide +kernel
abbrev K0 (p0 : Int32) : Array Slot := #[.val (.int p0), .unset, .unset, .unset, .unset]
abbrev K1 (p0 : Int32) (p1 : Int32) : Array Slot := #[.val (.int p0), .val (.int p1), .unset, .unset, .unset]
abbrev K2 (p0 : Int32) (p1 : Int32) (p2 : Addr) : Array Slot := #[.val (.int p0), .val (.int p1), .val (.ref p2), .unset, .unset]
abbrev K3 (p0 : Int32) (p1 : Int32) (p2 : Addr) (p3 : Addr) : Array Slot := #[.val (.int p0), .val (.int p1), .val (.ref p2), .val (.ref p3), .unset]
theorem pd_2829Lcom2fexample2fabacus2fabacus2fmodel2fRule24Effect3b : parseMethodDescriptor "()Lcom/example/abacus/abacus/model/Rule$Effect;" = some ⟨[], some (.object "com/example/abacus/abacus/model/Rule$Effect")⟩ := by decide +kernel
abbrev K4 (p0 : Int32) (p1 : Int32) (p2 : Addr) (p3 : Addr) (p4 : Addr) : Array Slot := #[.val (.int p0), .val (.int p1), .val (.ref p2), .val (.ref p3), .val (.ref p4)]
def QP (Z : State) (a1 : Addr) (a2 : Addr) (h0 : Heap) (n0 : Nat) (v : Option Value) (h : Heap) (L : List Loc) : Prop := v = some (.ref a2) ∧ Fr n0 L ∧ (h = h0)
theorem ef1_rmP (m : MethodId) (a1 : Addr) : entryFrame m #[(.ref a1)] 1 = (mkF m 0 #[.val (.ref a1)] []) := by first | (simp [entryFrame, mkF, argsToLocals, Value.category, maxLocals]; done) | rfl
set_option maxRecDepth 65536 in
set_option maxHeartbeats 40000000 in
theorem rmP (l : Launch) (Z : State) (a0 : Array Value) (hw : ∀ d ∈ tables_1, d.before a0 Z = true) (ws : List Jvm.Cond) (a1 : Addr) (a2 : Addr) (h0 : Heap) (n0 : Nat) (P0 : Sta Z h0 "com/example/abacus/abacus/model/Rule$Effect" "PERMIT" "Lcom/example/abacus/abacus/model/Rule$Effect;" (.ref a1)) (P1 : Sta Z h0 "com/example/abacus/abacus/model/Rule$Effect" "DENY" "Lcom/example/abacus/abacus/model/Rule$Effect;" (.ref a2))    :
    MetFree l (⟨"com/example/abacus/abacus/model/Rule$Effect", "opposite", "()Lcom/example/abacus/abacus/model/Rule$Effect;"⟩ : MethodName) (head1 (Jvm.Cond.code (⟨"com/example/abacus/abacus/model/Rule$Effect", "opposite", "()Lcom/example/abacus/abacus/model/Rule$Effect;"⟩ : MethodName) prog_112_method_4_code 1 (some (.object "com/example/abacus/abacus/model/Rule$Effect")) :: ws) ({ frames := 0, cells := 0, slots := 0, locals := 0 } : Room)) (fun a U => a = #[(.ref a1)] ∧ Z.Warmed39 U.vm ∧ U.heap = h0) (fun _ _ _ _ _ => True) (fun _ U o U' => ∃ v L, o = .returned v ∧ (QP Z a1 a2 h0 n0) v U'.heap L ∧ FrameEnd U o U' L 0 0) := by
  refine MetFree.of_bodySF (plainFor_of_name pn_com_example_abacus_abacus_model_Rule_Effect) hisR ?_
  intro p e s m args below meth c s₁ Bd hml0 hP hK
  obtain ⟨rfl, hZ, hh⟩ := hP
  have hx := Bd.exec
  have hby := Bd.bytes
  have hml : c.maxLocals = 1 := hml0
  have hown : s.vm.findClass "com/example/abacus/abacus/model/Rule$Effect" = some m.cls := findClass_of_methodNamed Bd.named
  have hnm := (name_of_methodNamed Bd.named Bd.method).1
  have X0 : Stand p l e ({ frames := 0, cells := 0, slots := 0, locals := 0 } : Room) s m #[(.ref a1)] below meth c s₁ [] 0 0 := Stand.of_body Bd
  have e0 : s₁.heap = h0 := by rw [← hh, Bd.state]; rfl
  have N0 := Fr.nil n0
  refine GoW.mk ?_
  refine GoW.st (fun t k => castTop (ef1_rmP m a1) k) ?_
  show GoW p e below s (QP Z a1 a2 h0 n0) 0 0 (s₁.setTop (mkF m 0 #[.val (.ref a1)] []))
  refine GoW.sg (mkF m 1 #[.val (.ref a1)] [(.ref a1)]) (fun t k => XS.aloadN X0.here hx rfl (hb hby d1_0) rfl rfl k) ?_
  obtain ⟨T1, X1, e1, st1⟩ := getS (host := "") X0 hx hZ hown (ww hw 10 rfl) Via.refl e0 P0 (g := (mkF m 1 #[.val (.ref a1)] [(.ref a1)])) rfl (hb hby d1_1)
  refine GoW.sg (mkF m 4 #[.val (.ref a1)] [(.ref a1), (.ref a1)]) (fun t k => st1 t k) ?_
  refine GoW.sg (mkF m 7 #[.val (.ref a1)] []) (fun t k => Jvm.RoadKit.acmp X1 hx rfl (cd := .ne) (x := (.ref a1)) (y := (.ref a1)) rfl rfl (pc0 := 4) (pc' := 7) (same := true) rfl (hb hby d1_4) rfl (decide_eq_true rfl) (by decide) (by decide) k) ?_
  obtain ⟨T2, X2, e2, st2⟩ := getS (host := "") X1 hx hZ hown (ww hw 11 rfl) Via.refl e1 P1 (g := (mkF m 7 #[.val (.ref a1)] [])) rfl (hb hby d1_7)
  refine GoW.sg (mkF m 10 #[.val (.ref a1)] [(.ref a2)]) (fun t k => st2 t k) ?_
  refine GoW.sg (mkF m 16 #[.val (.ref a1)] [(.ref a2)]) (fun t k => XS.goto X2.here hx rfl (pc0 := 10) (pc' := 16) rfl (hb hby d1_10) (by decide) (by decide) k) ?_
  refine GoW.retA X2 hx Bd.returns rfl rfl rfl (hb hby d1_16) Bd.notSynchronized ?_ (by decide) (by decide)
  rw [e2]
  exact ⟨rfl, N0, rfl⟩
def QD (Z : State) (a1 : Addr) (a2 : Addr) (h0 : Heap) (n0 : Nat) (v : Option Value) (h : Heap) (L : List Loc) : Prop := v = some (.ref a2) ∧ Fr n0 L ∧ (h = h0)
theorem ef1_rmD (m : MethodId) (a1 : Addr) : entryFrame m #[(.ref a1)] 1 = (mkF m 0 #[.val (.ref a1)] []) := by first | (simp [entryFrame, mkF, argsToLocals, Value.category, maxLocals]; done) | rfl
set_option maxRecDepth 65536 in
set_option maxHeartbeats 40000000 in
theorem rmD (l : Launch) (Z : State) (a0 : Array Value) (hw : ∀ d ∈ tables_1, d.before a0 Z = true) (ws : List Jvm.Cond) (a1 : Addr) (a2 : Addr) (h0 : Heap) (n0 : Nat) (P0 : Sta Z h0 "com/example/abacus/abacus/model/Rule$Effect" "PERMIT" "Lcom/example/abacus/abacus/model/Rule$Effect;" (.ref a2)) (P1 : Sta Z h0 "com/example/abacus/abacus/model/Rule$Effect" "DENY" "Lcom/example/abacus/abacus/model/Rule$Effect;" (.ref a1))  (ne_a1_a2 : a1 ≠ a2)  :
    MetFree l (⟨"com/example/abacus/abacus/model/Rule$Effect", "opposite", "()Lcom/example/abacus/abacus/model/Rule$Effect;"⟩ : MethodName) (head1 (Jvm.Cond.code (⟨"com/example/abacus/abacus/model/Rule$Effect", "opposite", "()Lcom/example/abacus/abacus/model/Rule$Effect;"⟩ : MethodName) prog_112_method_4_code 1 (some (.object "com/example/abacus/abacus/model/Rule$Effect")) :: ws) ({ frames := 0, cells := 0, slots := 0, locals := 0 } : Room)) (fun a U => a = #[(.ref a1)] ∧ Z.Warmed39 U.vm ∧ U.heap = h0) (fun _ _ _ _ _ => True) (fun _ U o U' => ∃ v L, o = .returned v ∧ (QD Z a1 a2 h0 n0) v U'.heap L ∧ FrameEnd U o U' L 0 0) := by
  refine MetFree.of_bodySF (plainFor_of_name pn_com_example_abacus_abacus_model_Rule_Effect) hisR ?_
  intro p e s m args below meth c s₁ Bd hml0 hP hK
  obtain ⟨rfl, hZ, hh⟩ := hP
  have hx := Bd.exec
  have hby := Bd.bytes
  have hml : c.maxLocals = 1 := hml0
  have hown : s.vm.findClass "com/example/abacus/abacus/model/Rule$Effect" = some m.cls := findClass_of_methodNamed Bd.named
  have hnm := (name_of_methodNamed Bd.named Bd.method).1
  have X0 : Stand p l e ({ frames := 0, cells := 0, slots := 0, locals := 0 } : Room) s m #[(.ref a1)] below meth c s₁ [] 0 0 := Stand.of_body Bd
  have e0 : s₁.heap = h0 := by rw [← hh, Bd.state]; rfl
  have N0 := Fr.nil n0
  refine GoW.mk ?_
  refine GoW.st (fun t k => castTop (ef1_rmD m a1) k) ?_
  show GoW p e below s (QD Z a1 a2 h0 n0) 0 0 (s₁.setTop (mkF m 0 #[.val (.ref a1)] []))
  refine GoW.sg (mkF m 1 #[.val (.ref a1)] [(.ref a1)]) (fun t k => XS.aloadN X0.here hx rfl (hb hby d1_0) rfl rfl k) ?_
  obtain ⟨T3, X3, e3, st3⟩ := getS (host := "") X0 hx hZ hown (ww hw 10 rfl) Via.refl e0 P0 (g := (mkF m 1 #[.val (.ref a1)] [(.ref a1)])) rfl (hb hby d1_1)
  refine GoW.sg (mkF m 4 #[.val (.ref a1)] [(.ref a2), (.ref a1)]) (fun t k => st3 t k) ?_
  refine GoW.sg (mkF m 13 #[.val (.ref a1)] []) (fun t k => Jvm.RoadKit.acmp X3 hx rfl (cd := .ne) (x := (.ref a1)) (y := (.ref a2)) rfl rfl (pc0 := 4) (pc' := 13) (same := false) rfl (hb hby d1_4) rfl (decide_eq_false fun q => ne_a1_a2 (Value.ref.inj q)) (by decide) (by decide) k) ?_
  obtain ⟨T4, X4, e4, st4⟩ := getS (host := "") X3 hx hZ hown (ww hw 10 rfl) Via.refl e3 P0 (g := (mkF m 13 #[.val (.ref a1)] [])) rfl (hb hby d1_13)
  refine GoW.sg (mkF m 16 #[.val (.ref a1)] [(.ref a2)]) (fun t k => st4 t k) ?_
  refine GoW.retA X4 hx Bd.returns rfl rfl rfl (hb hby d1_16) Bd.notSynchronized ?_ (by decide) (by decide)
  rw [e4]
  exact ⟨rfl, N0, rfl⟩
def F0_1 (q1 : Int32) (b6 : Int32) : Int32 := (if b6 = (0 : Int32) then (1 : Int32) else (1 : Int32))
def F0 (q1 : Int32) : Int32 := (F0_1 q1 (if (q1 &&& (1 : Int32)) = (0 : Int32) then (0 : Int32) else (1 : Int32)))
theorem ef0_rm0 (m : MethodId) (q1 : Int32) : entryFrame m #[(.int q1)] maxLocals = (mkF m 0 #[.val (.int q1), .unset, .unset, .unset, .unset] []) := by first | (simp [entryFrame, mkF, argsToLocals, Value.category, maxLocals]; done) | rfl
set_option maxRecDepth 65536 in
set_option maxHeartbeats 40000000 in
theorem rm0 (l : Launch) (Z : State) (a0 : Array Value) (hw : ∀ d ∈ tables_1, d.before a0 Z = true) (ws : List Jvm.Cond) (q1 : Int32) (aP : Addr) (aD : Addr) (h0 : Heap) (n0 : Nat) (Z0 : n0 ≤ h0.size) (P0 : Sta Z h0 "com/example/abacus/abacus/model/Rule$Effect" "PERMIT" "Lcom/example/abacus/abacus/model/Rule$Effect;" (.ref aP)) (P1 : Sta Z h0 "com/example/abacus/abacus/model/Rule$Effect" "DENY" "Lcom/example/abacus/abacus/model/Rule$Effect;" (.ref aD)) (P2 : Exa Z h0 aP "com/example/abacus/abacus/model/Rule$Effect") (P3 : Exa Z h0 aD "com/example/abacus/abacus/model/Rule$Effect") (ne_aP_aD : aP ≠ aD)  :
    MetFree l x (head1 (Jvm.Cond.code x code maxLocals ret :: ws) room_1) (fun a U => a = #[(.int q1)] ∧ Z.Warmed39 U.vm ∧ U.heap = h0) (fun _ _ _ _ _ => True) (fun _ U o U' => ∃ v L, o = .returned v ∧ (ValQ (.int (F0 q1)) n0) v U'.heap L ∧ FrameEnd U o U' L room_1.cells room_1.slots) := by
  refine MetFree.of_bodySF (plainFor_of_name pn_com_example_abacus_abacus_model_EffectOppositePinLaw) hisR ?_
  intro p e s m args below meth c s₁ Bd hml0 hP hK
  obtain ⟨rfl, hZ, hh⟩ := hP
  have hx := Bd.exec
  have hby := Bd.bytes
  have hml : c.maxLocals = 5 := hml0
  have hown : s.vm.findClass "com/example/abacus/abacus/model/EffectOppositePinLaw" = some m.cls := findClass_of_methodNamed Bd.named
  have hnm := (name_of_methodNamed Bd.named Bd.method).1
  have X0 : Stand p l e room_1 s m #[(.int q1)] below meth c s₁ [] 0 0 := Stand.of_body Bd
  have e0 : s₁.heap = h0 := by rw [← hh, Bd.state]; rfl
  have N0 := Fr.nil n0
  refine GoW.mk ?_
  refine GoW.st (fun t k => castTop (ef0_rm0 m q1) k) ?_
  show GoW p e below s (ValQ (.int (F0 q1)) n0) room_1.cells room_1.slots (s₁.setTop (mkF m 0 (K0 q1) []))
  refine GoW.sg (mkF m 1 (K0 q1) [(.int q1)]) (fun t k => XS.iloadN X0.here hx rfl (hb hby at_0) rfl k) ?_
  refine GoW.sg (mkF m 2 (K0 q1) [(.int 1), (.int q1)]) (fun t k => XS.iconst X0.here hx rfl (hb hby at_1) k) ?_
  refine GoW.sg (mkF m 3 (K0 q1) [(.int (q1 &&& (1 : Int32)))]) (fun t k => XS.iand X0.here hx rfl (hb hby at_2) rfl k) ?_
  have J11_7 : ∀ b6 : Int32, b6 = (if (q1 &&& (1 : Int32)) = (0 : Int32) then (0 : Int32) else (1 : Int32)) → GoW p e below s (ValQ (.int (F0 q1)) n0) room_1.cells room_1.slots (s₁.setTop (mkF m 11 (K0 q1) [(.int b6)])) := by
    intro b6 hb6
    have hFb6 : (F0 q1) = (F0_1 q1 b6) := by unfold F0; rw [hb6]
    refine GoW.sg (mkF m 12 (K1 q1 b6) []) (fun t k => XS.istoreN X0.here hx rfl (hb hby at_11) rfl (l' := (K1 q1 b6)) rfl k) ?_
    refine GoW.sg (mkF m 13 (K1 q1 b6) [(.int b6)]) (fun t k => XS.iloadN X0.here hx rfl (hb hby at_12) rfl k) ?_
    by_cases c9 : b6 = (0 : Int32)
    · refine GoW.sg (mkF m 22 (K1 q1 b6) []) (fun t k => XS.ifYes X0.here hx rfl (pc0 := 13) (pc' := 22) rfl (hb hby at_13) rfl ((if0 _ _).trans (teq c9).1) (by decide) (by decide) k) ?_
      obtain ⟨T10, X10, e10, st10⟩ := getS (host := "") X0 hx hZ hown (ww hw 0 rfl) Via.refl e0 P1 (g := (mkF m 22 (K1 q1 b6) [])) rfl (hb hby at_22)
      refine GoW.sg (mkF m 25 (K1 q1 b6) [(.ref aD)]) (fun t k => st10 t k) ?_
      refine GoW.sg (mkF m 26 (K2 q1 b6 aD) []) (fun t k => XS.astoreN X10.here hx rfl (hb hby at_25) rfl rfl (l' := (K2 q1 b6 aD)) rfl k) ?_
      refine GoW.sg (mkF m 27 (K2 q1 b6 aD) [(.int b6)]) (fun t k => XS.iloadN X10.here hx rfl (hb hby at_26) rfl k) ?_
      refine GoW.sg (mkF m 36 (K2 q1 b6 aD) []) (fun t k => XS.ifYes X10.here hx rfl (pc0 := 27) (pc' := 36) rfl (hb hby at_27) rfl ((if0 _ _).trans (teq c9).1) (by decide) (by decide) k) ?_
      obtain ⟨T11, X11, e11, st11⟩ := getS (host := "") X10 hx hZ hown (ww hw 3 rfl) Via.refl e10 P0 (g := (mkF m 36 (K2 q1 b6 aD) [])) rfl (hb hby at_36)
      refine GoW.sg (mkF m 39 (K2 q1 b6 aD) [(.ref aP)]) (fun t k => st11 t k) ?_
      refine GoW.sg (mkF m 40 (K3 q1 b6 aD aP) []) (fun t k => XS.astoreN X11.here hx rfl (hb hby at_39) rfl rfl (l' := (K3 q1 b6 aD aP)) rfl k) ?_
      refine GoW.sg (mkF m 41 (K3 q1 b6 aD aP) [(.ref aD)]) (fun t k => XS.aloadN X11.here hx rfl (hb hby at_40) rfl rfl k) ?_
      obtain ⟨cq12, kq12, q12a, q12b, q12c⟩ := isOf hZ e11 P3
      obtain ⟨_, _, ⟨T12, L12, k12, n12⟩, -, X12, ⟨Lc12, hQ12, l12, y12, z12⟩, st12⟩ := X11.virtualBack hx (y := (⟨"com/example/abacus/abacus/model/Rule$Effect", "opposite", "()Lcom/example/abacus/abacus/model/Rule$Effect;"⟩ : MethodName)) (z := (⟨"com/example/abacus/abacus/model/Rule$Effect", "opposite", "()Lcom/example/abacus/abacus/model/Rule$Effect;"⟩ : MethodName)) hown (mvT hZ (ww hw 5 rfl)) (mvT hZ (ww hw 6 rfl)) (notFace_of_selects (args := #[]) (mvT hZ (ww hw 8 rfl))) (mvT hZ (ww hw 8 rfl)) (mvT hZ (ww hw 7 rfl)) (by decide) (backOf (W := 0) (rmD l Z a0 hw [] aD aP h0 n0  P0 P1  (Ne.symm ne_aP_aD) ) hZ (ww hw 9 rfl) (ww hw 1 rfl) (by decide) (by decide)) q12a q12c (g := (mkF m 41 (K3 q1 b6 aD aP) [(.ref aD)])) rfl (by rw [hml]; rfl) (Steps.refl _) (argsL := []) (rest := []) (lenOf pd_2829Lcom2fexample2fabacus2fabacus2fmodel2fRule24Effect3b rfl) rfl (by show 2 * 0 + _ ≤ _; exact Nat.le_of_eq rfl) (hb hby at_41) (fun _ _ => ⟨rfl, e11, (by decide : 0 + 0 ≤ _), (by decide : 0 + 0 ≤ _)⟩)
      dsimp only [Pt.U, Pt.locs, Pt.cells, Pt.slots] at X12 l12 y12 z12 st12 hQ12
      subst l12 y12 z12
      obtain ⟨rfl, N12q, e12⟩ := hQ12
      have N12 := Fr.app N0 N12q
      refine GoW.sg (mkF m 44 (K3 q1 b6 aD aP) [(.ref aP)]) (fun t k => st12.trans k) ?_
      refine GoW.sg (mkF m 46 (K4 q1 b6 aD aP aP) []) (fun t k => XS.astore X12.here hx rfl (hb hby at_44) rfl rfl (l' := (K4 q1 b6 aD aP aP)) rfl k) ?_
      refine GoW.sg (mkF m 48 (K4 q1 b6 aD aP aP) [(.ref aP)]) (fun t k => XS.aload X12.here hx rfl (hb hby at_46) rfl rfl k) ?_
      refine GoW.sg (mkF m 49 (K4 q1 b6 aD aP aP) [(.ref aP), (.ref aP)]) (fun t k => XS.aloadN X12.here hx rfl (hb hby at_48) rfl rfl k) ?_
      refine GoW.sg (mkF m 54 (K4 q1 b6 aD aP aP) []) (fun t k => Jvm.RoadKit.acmp X12 hx rfl (cd := .eq) (x := (.ref aP)) (y := (.ref aP)) rfl rfl (pc0 := 49) (pc' := 54) (same := true) rfl (hb hby at_49) rfl (decide_eq_true rfl) (by decide) (by decide) k) ?_
      refine GoW.sg (mkF m 56 (K4 q1 b6 aD aP aP) [(.ref aP)]) (fun t k => XS.aload X12.here hx rfl (hb hby at_54) rfl rfl k) ?_
      obtain ⟨cq13, kq13, q13a, q13b, q13c⟩ := isOf hZ e12 P2
      obtain ⟨_, _, ⟨T13, L13, k13, n13⟩, -, X13, ⟨Lc13, hQ13, l13, y13, z13⟩, st13⟩ := X12.virtualBack hx (y := (⟨"com/example/abacus/abacus/model/Rule$Effect", "opposite", "()Lcom/example/abacus/abacus/model/Rule$Effect;"⟩ : MethodName)) (z := (⟨"com/example/abacus/abacus/model/Rule$Effect", "opposite", "()Lcom/example/abacus/abacus/model/Rule$Effect;"⟩ : MethodName)) hown (mvT hZ (ww hw 5 rfl)) (mvT hZ (ww hw 6 rfl)) (notFace_of_selects (args := #[]) (mvT hZ (ww hw 8 rfl))) (mvT hZ (ww hw 8 rfl)) (mvT hZ (ww hw 7 rfl)) (by decide) (backOf (W := 0) (rmP l Z a0 hw [] aP aD h0 n0  P0 P1   ) hZ (ww hw 9 rfl) (ww hw 1 rfl) (by decide) (by decide)) q13a q13c (g := (mkF m 56 (K4 q1 b6 aD aP aP) [(.ref aP)])) rfl (by rw [hml]; rfl) (Steps.refl _) (argsL := []) (rest := []) (lenOf pd_2829Lcom2fexample2fabacus2fabacus2fmodel2fRule24Effect3b rfl) rfl (by show 2 * 0 + _ ≤ _; exact Nat.le_of_eq rfl) (hb hby at_56) (fun _ _ => ⟨rfl, e12, (by decide : 0 + 0 ≤ _), (by decide : 0 + 0 ≤ _)⟩)
      dsimp only [Pt.U, Pt.locs, Pt.cells, Pt.slots] at X13 l13 y13 z13 st13 hQ13
      subst l13 y13 z13
      obtain ⟨rfl, N13q, e13⟩ := hQ13
      have N13 := Fr.app N12 N13q
      refine GoW.sg (mkF m 59 (K4 q1 b6 aD aP aP) [(.ref aD)]) (fun t k => st13.trans k) ?_
      refine GoW.sg (mkF m 60 (K4 q1 b6 aD aP aP) [(.ref aD), (.ref aD)]) (fun t k => XS.aloadN X13.here hx rfl (hb hby at_59) rfl rfl k) ?_
      refine GoW.sg (mkF m 63 (K4 q1 b6 aD aP aP) []) (fun t k => Jvm.RoadKit.acmp X13 hx rfl (cd := .ne) (x := (.ref aD)) (y := (.ref aD)) rfl rfl (pc0 := 60) (pc' := 63) (same := true) rfl (hb hby at_60) rfl (decide_eq_true rfl) (by decide) (by decide) k) ?_
      refine GoW.sg (mkF m 64 (K4 q1 b6 aD aP aP) [(.int 1)]) (fun t k => XS.iconst X13.here hx rfl (hb hby at_63) k) ?_
      refine GoW.sg (mkF m 68 (K4 q1 b6 aD aP aP) [(.int 1)]) (fun t k => XS.goto X13.here hx rfl (pc0 := 64) (pc' := 68) rfl (hb hby at_64) (by decide) (by decide) k) ?_
      refine GoW.retN X13 hx (t := .boolean) Bd.returns (by simp) (hb hby at_68) Bd.notSynchronized ?_ (by decide) (by decide)
      have hq : (F0 q1) = (1 : Int32) := by rw [hFb6]; unfold F0_1; rw [if_pos c9]; try rfl
      exact ⟨by rw [hq] <;> rfl, N13⟩
    · refine GoW.sg (mkF m 16 (K1 q1 b6) []) (fun t k => XS.ifNo X0.here hx rfl (hb hby at_13) rfl ((if0 _ _).trans (feq c9).1) k) ?_
      obtain ⟨T14, X14, e14, st14⟩ := getS (host := "") X0 hx hZ hown (ww hw 3 rfl) Via.refl e0 P0 (g := (mkF m 16 (K1 q1 b6) [])) rfl (hb hby at_16)
      refine GoW.sg (mkF m 19 (K1 q1 b6) [(.ref aP)]) (fun t k => st14 t k) ?_
      refine GoW.sg (mkF m 25 (K1 q1 b6) [(.ref aP)]) (fun t k => XS.goto X14.here hx rfl (pc0 := 19) (pc' := 25) rfl (hb hby at_19) (by decide) (by decide) k) ?_
      refine GoW.sg (mkF m 26 (K2 q1 b6 aP) []) (fun t k => XS.astoreN X14.here hx rfl (hb hby at_25) rfl rfl (l' := (K2 q1 b6 aP)) rfl k) ?_
      refine GoW.sg (mkF m 27 (K2 q1 b6 aP) [(.int b6)]) (fun t k => XS.iloadN X14.here hx rfl (hb hby at_26) rfl k) ?_
      refine GoW.sg (mkF m 30 (K2 q1 b6 aP) []) (fun t k => XS.ifNo X14.here hx rfl (hb hby at_27) rfl ((if0 _ _).trans (feq c9).1) k) ?_
      obtain ⟨T15, X15, e15, st15⟩ := getS (host := "") X14 hx hZ hown (ww hw 0 rfl) Via.refl e14 P1 (g := (mkF m 30 (K2 q1 b6 aP) [])) rfl (hb hby at_30)
      refine GoW.sg (mkF m 33 (K2 q1 b6 aP) [(.ref aD)]) (fun t k => st15 t k) ?_
      refine GoW.sg (mkF m 39 (K2 q1 b6 aP) [(.ref aD)]) (fun t k => XS.goto X15.here hx rfl (pc0 := 33) (pc' := 39) rfl (hb hby at_33) (by decide) (by decide) k) ?_
      refine GoW.sg (mkF m 40 (K3 q1 b6 aP aD) []) (fun t k => XS.astoreN X15.here hx rfl (hb hby at_39) rfl rfl (l' := (K3 q1 b6 aP aD)) rfl k) ?_
      refine GoW.sg (mkF m 41 (K3 q1 b6 aP aD) [(.ref aP)]) (fun t k => XS.aloadN X15.here hx rfl (hb hby at_40) rfl rfl k) ?_
      obtain ⟨cq16, kq16, q16a, q16b, q16c⟩ := isOf hZ e15 P2
      obtain ⟨_, _, ⟨T16, L16, k16, n16⟩, -, X16, ⟨Lc16, hQ16, l16, y16, z16⟩, st16⟩ := X15.virtualBack hx (y := (⟨"com/example/abacus/abacus/model/Rule$Effect", "opposite", "()Lcom/example/abacus/abacus/model/Rule$Effect;"⟩ : MethodName)) (z := (⟨"com/example/abacus/abacus/model/Rule$Effect", "opposite", "()Lcom/example/abacus/abacus/model/Rule$Effect;"⟩ : MethodName)) hown (mvT hZ (ww hw 5 rfl)) (mvT hZ (ww hw 6 rfl)) (notFace_of_selects (args := #[]) (mvT hZ (ww hw 8 rfl))) (mvT hZ (ww hw 8 rfl)) (mvT hZ (ww hw 7 rfl)) (by decide) (backOf (W := 0) (rmP l Z a0 hw [] aP aD h0 n0  P0 P1   ) hZ (ww hw 9 rfl) (ww hw 1 rfl) (by decide) (by decide)) q16a q16c (g := (mkF m 41 (K3 q1 b6 aP aD) [(.ref aP)])) rfl (by rw [hml]; rfl) (Steps.refl _) (argsL := []) (rest := []) (lenOf pd_2829Lcom2fexample2fabacus2fabacus2fmodel2fRule24Effect3b rfl) rfl (by show 2 * 0 + _ ≤ _; exact Nat.le_of_eq rfl) (hb hby at_41) (fun _ _ => ⟨rfl, e15, (by decide : 0 + 0 ≤ _), (by decide : 0 + 0 ≤ _)⟩)
      dsimp only [Pt.U, Pt.locs, Pt.cells, Pt.slots] at X16 l16 y16 z16 st16 hQ16
      subst l16 y16 z16
      obtain ⟨rfl, N16q, e16⟩ := hQ16
      have N16 := Fr.app N0 N16q
      refine GoW.sg (mkF m 44 (K3 q1 b6 aP aD) [(.ref aD)]) (fun t k => st16.trans k) ?_
      refine GoW.sg (mkF m 46 (K4 q1 b6 aP aD aD) []) (fun t k => XS.astore X16.here hx rfl (hb hby at_44) rfl rfl (l' := (K4 q1 b6 aP aD aD)) rfl k) ?_
      refine GoW.sg (mkF m 48 (K4 q1 b6 aP aD aD) [(.ref aD)]) (fun t k => XS.aload X16.here hx rfl (hb hby at_46) rfl rfl k) ?_
      refine GoW.sg (mkF m 49 (K4 q1 b6 aP aD aD) [(.ref aD), (.ref aD)]) (fun t k => XS.aloadN X16.here hx rfl (hb hby at_48) rfl rfl k) ?_
      refine GoW.sg (mkF m 54 (K4 q1 b6 aP aD aD) []) (fun t k => Jvm.RoadKit.acmp X16 hx rfl (cd := .eq) (x := (.ref aD)) (y := (.ref aD)) rfl rfl (pc0 := 49) (pc' := 54) (same := true) rfl (hb hby at_49) rfl (decide_eq_true rfl) (by decide) (by decide) k) ?_
      refine GoW.sg (mkF m 56 (K4 q1 b6 aP aD aD) [(.ref aD)]) (fun t k => XS.aload X16.here hx rfl (hb hby at_54) rfl rfl k) ?_
      obtain ⟨cq17, kq17, q17a, q17b, q17c⟩ := isOf hZ e16 P3
      obtain ⟨_, _, ⟨T17, L17, k17, n17⟩, -, X17, ⟨Lc17, hQ17, l17, y17, z17⟩, st17⟩ := X16.virtualBack hx (y := (⟨"com/example/abacus/abacus/model/Rule$Effect", "opposite", "()Lcom/example/abacus/abacus/model/Rule$Effect;"⟩ : MethodName)) (z := (⟨"com/example/abacus/abacus/model/Rule$Effect", "opposite", "()Lcom/example/abacus/abacus/model/Rule$Effect;"⟩ : MethodName)) hown (mvT hZ (ww hw 5 rfl)) (mvT hZ (ww hw 6 rfl)) (notFace_of_selects (args := #[]) (mvT hZ (ww hw 8 rfl))) (mvT hZ (ww hw 8 rfl)) (mvT hZ (ww hw 7 rfl)) (by decide) (backOf (W := 0) (rmD l Z a0 hw [] aD aP h0 n0  P0 P1  (Ne.symm ne_aP_aD) ) hZ (ww hw 9 rfl) (ww hw 1 rfl) (by decide) (by decide)) q17a q17c (g := (mkF m 56 (K4 q1 b6 aP aD aD) [(.ref aD)])) rfl (by rw [hml]; rfl) (Steps.refl _) (argsL := []) (rest := []) (lenOf pd_2829Lcom2fexample2fabacus2fabacus2fmodel2fRule24Effect3b rfl) rfl (by show 2 * 0 + _ ≤ _; exact Nat.le_of_eq rfl) (hb hby at_56) (fun _ _ => ⟨rfl, e16, (by decide : 0 + 0 ≤ _), (by decide : 0 + 0 ≤ _)⟩)
      dsimp only [Pt.U, Pt.locs, Pt.cells, Pt.slots] at X17 l17 y17 z17 st17 hQ17
      subst l17 y17 z17
      obtain ⟨rfl, N17q, e17⟩ := hQ17
      have N17 := Fr.app N16 N17q
      refine GoW.sg (mkF m 59 (K4 q1 b6 aP aD aD) [(.ref aP)]) (fun t k => st17.trans k) ?_
      refine GoW.sg (mkF m 60 (K4 q1 b6 aP aD aD) [(.ref aP), (.ref aP)]) (fun t k => XS.aloadN X17.here hx rfl (hb hby at_59) rfl rfl k) ?_
      refine GoW.sg (mkF m 63 (K4 q1 b6 aP aD aD) []) (fun t k => Jvm.RoadKit.acmp X17 hx rfl (cd := .ne) (x := (.ref aP)) (y := (.ref aP)) rfl rfl (pc0 := 60) (pc' := 63) (same := true) rfl (hb hby at_60) rfl (decide_eq_true rfl) (by decide) (by decide) k) ?_
      refine GoW.sg (mkF m 64 (K4 q1 b6 aP aD aD) [(.int 1)]) (fun t k => XS.iconst X17.here hx rfl (hb hby at_63) k) ?_
      refine GoW.sg (mkF m 68 (K4 q1 b6 aP aD aD) [(.int 1)]) (fun t k => XS.goto X17.here hx rfl (pc0 := 64) (pc' := 68) rfl (hb hby at_64) (by decide) (by decide) k) ?_
      refine GoW.retN X17 hx (t := .boolean) Bd.returns (by simp) (hb hby at_68) Bd.notSynchronized ?_ (by decide) (by decide)
      have hq : (F0 q1) = (1 : Int32) := by rw [hFb6]; unfold F0_1; rw [if_neg c9]; try rfl
      exact ⟨by rw [hq] <;> rfl, N17⟩
  by_cases c8 : (q1 &&& (1 : Int32)) = (0 : Int32)
  · refine GoW.sg (mkF m 10 (K0 q1) []) (fun t k => XS.ifYes X0.here hx rfl (pc0 := 3) (pc' := 10) rfl (hb hby at_3) rfl ((if0 _ _).trans (teq c8).1) (by decide) (by decide) k) ?_
    refine GoW.sg (mkF m 11 (K0 q1) [(.int 0)]) (fun t k => XS.iconst X0.here hx rfl (hb hby at_10) k) ?_
    exact J11_7 _ (by rw [if_pos c8])
  · refine GoW.sg (mkF m 6 (K0 q1) []) (fun t k => XS.ifNo X0.here hx rfl (hb hby at_3) rfl ((if0 _ _).trans (feq c8).1) k) ?_
    refine GoW.sg (mkF m 7 (K0 q1) [(.int 1)]) (fun t k => XS.iconst X0.here hx rfl (hb hby at_6) k) ?_
    refine GoW.sg (mkF m 11 (K0 q1) [(.int 1)]) (fun t k => XS.goto X0.here hx rfl (pc0 := 7) (pc' := 11) rfl (hb hby at_7) (by decide) (by decide) k) ?_
    exact J11_7 _ (by rw [if_neg c8])
theorem own_law (q1 : Int32) : F0 q1 = 1 := by
  unfold F0 F0_1
  split <;> rfl

set_option maxRecDepth 65536 in
set_option maxHeartbeats 40000000 in
theorem comes_1 {Post : Tables → Env → Array Value → State → Outcome → State → Prop} (hpost : ∀ tb e args s v u, (limb_1_1.after args s (.returned v) u = true ∧ limb_1_2.after args s (.returned v) u = true ∧ True) → FrameEnd s (.returned v) u (Jvm.fieldLocs frame_1_writes args s ++ Jvm.arrayLocs frame_1_arrays args s ++ Jvm.staticLocs frame_1_statics s) 0 0 → Post tb e args s (.returned v) u) :
    ArmFor flags0 classFile x code maxLocals ret World_1 tables_1 room_1 Calls_1 rest_1 Pre_1 Post := by
  intro l hfl _ _ p e ha hc hk s m args below hf hA hF happ hP
  obtain ⟨hcalls, hrest, hpre⟩ := hP
  obtain ⟨-, -, -, hnamed, -, -, -, hat⟩ := (Spec.applies_iff hf).mp happ
  obtain ⟨hg, hn⟩ := and_e (Cond.before_iff.mp (show (Jvm.Cond.and given_1 narrow_1).before args s = true from hpre))
  obtain ⟨ga0, gb0⟩ := and_e hg
  obtain ⟨w0, rfl⟩ : ∃ w0 : Value, args = #[w0] := by
    have hs : args.size = 1 := by simpa [Cond.value, given_1] using ga0
    obtain ⟨L⟩ := args
    match L, hs with
    | [w0], _ => exact ⟨w0, rfl⟩
  have hw := fun d (hd : d ∈ tables_1) => atoms_spec (ws := Jvm.Cond.code x code maxLocals ret :: tables_1) hat d (List.mem_cons_of_mem _ hd)
  have hfit : Fit s := fun {y c} hc i hi => by
    obtain ⟨ha, rfl⟩ := Array.getElem?_eq_some_iff.mp hc
    have q := List.all_eq_true.mp ((Array.all_eq_true_iff_forall_mem.mp hF) _ (Array.getElem_mem ha)) i (List.mem_range.mpr hi)
    simpa [Array.getElem?_eq_getElem hi] using q
  obtain ⟨i0, ei0⟩ := is_v gb0
  obtain rfl : w0 = (.int i0) := Option.some.inj ei0
  obtain ⟨m1, m2⟩ := and_e hn
  obtain ⟨m3, m4⟩ := and_e m2
  obtain ⟨m5, m6⟩ := and_e m4
  obtain ⟨aD, evDENY⟩ := exa_v m1
  obtain ⟨aP, evPERMIT⟩ := exa_v m3
  have SD := Sta.start evDENY (Or.inr ⟨(ww hw 1 rfl), (ww hw 2 rfl)⟩)
  have SP := Sta.start evPERMIT (Or.inr ⟨(ww hw 1 rfl), (ww hw 4 rfl)⟩)
  have ED := Exa.start evDENY m1
  have EP := Exa.start evPERMIT m3
  have nPD := own_ne m6 m5 evPERMIT evDENY (by decide)
  obtain ⟨n, o, h1, h2, h3, v, L, rfl, ⟨hv, N⟩, hq⟩ := rm0 l s _ hw tables_1 i0 aP aD s.heap s.heap.size (Nat.le_refl _) SP SD EP ED nPD p e ha hc hk s m _ below hf ((Spec.applies_iff_loose hf).mp happ).1 ⟨rfl, State.Warmed39.refl s, rfl⟩ trivial
  rw [own_law i0] at hv
  subst hv
  refine ⟨n, _, h1, h2, h3, hpost _ _ _ _ _ _ ⟨Cond.after_iff.mpr rfl, Cond.after_iff.mpr (eq_i res_at (Term.int_eval (1)) rfl), trivial⟩ ⟨hq.1, hq.2.1, (hq.2.2.sift fun y hy => Or.inr (N y hy)).mono (by decide) (by decide)⟩⟩
theorem main_1_1 : Claimed_1_1 := comes_1 fun _ _ _ _ _ _ h hF => ⟨h.1, hF⟩
theorem main_1_2 : Claimed_1_2 := comes_1 fun _ _ _ _ _ _ h hF => ⟨h.2.1, hF⟩
end Jvm.Pilot.@@N@@
namespace Jvm.Pilot.@@N@@
open Jvm Jvm.ClassFile Sem Op Lib Jvm.Free Jvm.Stand Jvm.Pilot.@@N@@.Jvm.D
/-! MADE BY PROGRAM (witnessworld.py) out of the Statement's table words and the real class files: 12 classes; the members and pool entries that the words name. The judged class is class 1, her method 1. -/
namespace start1
open Jvm.ClassFile
def u (s : String) : CpInfo := .utf8 (stringToUtf16 s)
/-- a pool by its gaps: so many unusable entries, then the entry; so many at the end -/
def gap : Nat → List CpInfo → List CpInfo
  | 0, r => r
  | n + 1, r => .unusable :: gap n r
def poolList (es : List (Nat × CpInfo)) (last : Nat) : List CpInfo := es.foldr (fun e r => gap e.1 (e.2 :: r)) (gap last [])
def pool (es : List (Nat × CpInfo)) (last : Nat) : Array CpInfo := ⟨poolList es last⟩
def fileOf (pool : Array CpInfo) (this : Nat) (attrs : Array Attribute := #[]) (ms : Array MethodInfo := #[]) (fl : Nat := 33) (sup : Nat := 0) (ifs : Array Nat := #[]) (fds : Array FieldInfo := #[]) : ClassFile where
  minorVersion := 0
  majorVersion := 65
  constantPool := pool
  accessFlags := fl
  thisClass := this
  superClass := sup
  interfaces := ifs
  fields := fds
  methods := ms
  attributes := attrs
def plain (name : String) (sup : Option ClassId) : Class where
  name := name
  kind := .ordinary
  loader := none
  accessFlags := 33
  super := sup
  interfaces := #[]
  cf := none
  fields := #[]
  methods := #[]
  instanceTypes := #[]
  staticTypes := #[]
  resolved := #[]
  callSites := []
  init := .initialized
  statics := none
  mirror := none

def pool0 : Array CpInfo := pool [(5, u "<init>"), (0, u "()V"), (1, .class_ 10), (1, u "java/lang/Object")] 113

def k0m0 : Method := { name := "<init>", desc := "()V", sig := { parameters := [], returnType := none }, accessFlags := 1, code := none }
/-- java/lang/Object -/
def k0 : Class := { plain "java/lang/Object" none with
  accessFlags := 33
  interfaces := #[]
  cf := some (fileOf pool0 8 #[] #[{ accessFlags := 1, nameIndex := 5, descriptorIndex := 6, attributes := #[] }] 33 0 #[] #[])
  fields := #[]
  methods := #[k0m0]
  instanceTypes := #[]
  staticTypes := #[]
  resolved := Array.replicate 124 none
  statics := none }

def pool1 : Array CpInfo := pool [(2, .class_ 4), (1, u "java/lang/Object"), (0, u "<init>"), (0, u "()V"), (0, .fieldref 8 9), (0, .class_ 10), (0, .nameAndType 11 12), (0, u "com/example/abacus/abacus/model/Rule$Effect"), (0, u "PERMIT"), (0, u "Lcom/example/abacus/abacus/model/Rule$Effect;"), (0, .fieldref 8 14), (0, .nameAndType 15 12), (0, u "DENY"), (0, .methodref 8 17), (0, .nameAndType 18 19), (0, u "opposite"), (0, u "()Lcom/example/abacus/abacus/model/Rule$Effect;"), (0, .class_ 21), (0, u "com/example/abacus/abacus/model/EffectOppositePinLaw"), (2, u "law"), (0, u "(I)Z")] 7

def k1m0 : Method := { name := "<init>", desc := "()V", sig := { parameters := [], returnType := none }, accessFlags := 2, code := none }
def k1c1 : Code := { maxStack := 2, maxLocals := 5, code := code, exceptionTable := #[], attributes := #[] }
def k1m1 : Method := { name := "law", desc := "(I)Z", sig := { parameters := [.int], returnType := some .boolean }, accessFlags := 9, code := some k1c1 }
/-- com/example/abacus/abacus/model/EffectOppositePinLaw -/
def k1 : Class := { plain "com/example/abacus/abacus/model/EffectOppositePinLaw" (some 0) with
  accessFlags := 49
  interfaces := #[]
  cf := some (fileOf pool1 20 #[] #[{ accessFlags := 2, nameIndex := 5, descriptorIndex := 6, attributes := #[] }, { accessFlags := 9, nameIndex := 24, descriptorIndex := 25, attributes := #[] }] 49 2 #[] #[])
  fields := #[]
  methods := #[k1m0, k1m1]
  instanceTypes := #[]
  staticTypes := #[]
  resolved := Array.replicate 33 none
  statics := none }

def pool2 : Array CpInfo := pool [(1, .class_ 2), (0, u "java/lang/constant/Constable"), (0, .class_ 4), (0, u "java/lang/Object")] 6

/-- java/lang/constant/Constable -/
def k2 : Class := { plain "java/lang/constant/Constable" (some 0) with
  accessFlags := 1537
  interfaces := #[]
  cf := some (fileOf pool2 1 #[] #[] 1537 3 #[] #[])
  fields := #[]
  methods := #[]
  instanceTypes := #[]
  staticTypes := #[]
  resolved := Array.replicate 11 none
  statics := none }

def pool3 : Array CpInfo := pool [(1, .class_ 2), (0, u "java/lang/Comparable"), (0, .class_ 4), (0, u "java/lang/Object")] 7

/-- java/lang/Comparable -/
def k3 : Class := { plain "java/lang/Comparable" (some 0) with
  accessFlags := 1537
  interfaces := #[]
  cf := some (fileOf pool3 1 #[] #[] 1537 3 #[] #[])
  fields := #[]
  methods := #[]
  instanceTypes := #[]
  staticTypes := #[]
  resolved := Array.replicate 12 none
  statics := none }

def pool4 : Array CpInfo := pool [(1, .class_ 2), (0, u "java/io/Serializable"), (0, .class_ 4), (0, u "java/lang/Object")] 2

/-- java/io/Serializable -/
def k4 : Class := { plain "java/io/Serializable" (some 0) with
  accessFlags := 1537
  interfaces := #[]
  cf := some (fileOf pool4 1 #[] #[] 1537 3 #[] #[])
  fields := #[]
  methods := #[]
  instanceTypes := #[]
  staticTypes := #[]
  resolved := Array.replicate 7 none
  statics := none }

def pool5 : Array CpInfo := pool [(2, .class_ 4), (1, u "java/lang/Enum"), (0, u "name"), (0, u "Ljava/lang/String;"), (2, u "ordinal"), (0, u "I"), (1, .class_ 14), (1, u "java/lang/Object"), (4, u "hash"), (86, .class_ 108), (1, u "java/lang/Enum$EnumDesc"), (2, .class_ 112), (0, u "java/lang/constant/Constable"), (0, .class_ 114), (0, u "java/lang/Comparable"), (0, .class_ 116), (0, u "java/io/Serializable")] 87

/-- java/lang/Enum -/
def k5 : Class := { plain "java/lang/Enum" (some 0) with
  accessFlags := 1057
  interfaces := #[2, 3, 4]
  cf := some (fileOf pool5 2 #[.nestMembers #[106]] #[] 1057 12 #[111, 113, 115] #[{ accessFlags := 18, nameIndex := 5, descriptorIndex := 6, attributes := #[] }, { accessFlags := 18, nameIndex := 9, descriptorIndex := 10, attributes := #[] }, { accessFlags := 2, nameIndex := 19, descriptorIndex := 10, attributes := #[] }])
  fields := #[{ name := "name", type := (.object "java/lang/String"), accessFlags := 18, slot := 0, constantValue := 0 }, { name := "ordinal", type := .int, accessFlags := 18, slot := 1, constantValue := 0 }, { name := "hash", type := .int, accessFlags := 2, slot := 2, constantValue := 0 }]
  methods := #[]
  instanceTypes := #[(.object "java/lang/String"), .int, .int]
  staticTypes := #[]
  resolved := Array.replicate 204 none
  statics := none }

def pool6 : Array CpInfo := pool [(1, .class_ 2), (0, u "com/example/abacus/abacus/model/Rule$Effect"), (0, .fieldref 1 4), (0, .nameAndType 5 6), (0, u "PERMIT"), (0, u "Lcom/example/abacus/abacus/model/Rule$Effect;"), (0, .fieldref 1 8), (0, .nameAndType 9 6), (0, u "DENY"), (2, u "$VALUES"), (0, u "[Lcom/example/abacus/abacus/model/Rule$Effect;"), (6, .class_ 22), (1, u "java/lang/Enum"), (20, u "opposite"), (0, u "()Lcom/example/abacus/abacus/model/Rule$Effect;"), (6, .class_ 52), (0, u "com/example/abacus/abacus/model/Rule")] 2

def k6c0 : Code := { maxStack := 2, maxLocals := 1, code := prog_112_method_4_code, exceptionTable := #[], attributes := #[] }
def k6m0 : Method := { name := "opposite", desc := "()Lcom/example/abacus/abacus/model/Rule$Effect;", sig := { parameters := [], returnType := some (.object "com/example/abacus/abacus/model/Rule$Effect") }, accessFlags := 1, code := some k6c0 }
/-- com/example/abacus/abacus/model/Rule$Effect -/
def k6 : Class := { plain "com/example/abacus/abacus/model/Rule$Effect" (some 5) with
  accessFlags := 16433
  interfaces := #[]
  cf := some (fileOf pool6 1 #[.nestHost 51] #[{ accessFlags := 1, nameIndex := 43, descriptorIndex := 44, attributes := #[] }] 16433 20 #[] #[{ accessFlags := 16409, nameIndex := 5, descriptorIndex := 6, attributes := #[] }, { accessFlags := 16409, nameIndex := 9, descriptorIndex := 6, attributes := #[] }, { accessFlags := 4122, nameIndex := 12, descriptorIndex := 13, attributes := #[] }])
  fields := #[{ name := "PERMIT", type := (.object "com/example/abacus/abacus/model/Rule$Effect"), accessFlags := 16409, slot := 0, constantValue := 0 }, { name := "DENY", type := (.object "com/example/abacus/abacus/model/Rule$Effect"), accessFlags := 16409, slot := 1, constantValue := 0 }, { name := "$VALUES", type := (.array (.object "com/example/abacus/abacus/model/Rule$Effect")), accessFlags := 4122, slot := 2, constantValue := 0 }]
  methods := #[k6m0]
  instanceTypes := #[(.object "java/lang/String"), .int, .int]
  staticTypes := #[(.object "com/example/abacus/abacus/model/Rule$Effect"), (.object "com/example/abacus/abacus/model/Rule$Effect"), (.array (.object "com/example/abacus/abacus/model/Rule$Effect"))]
  resolved := Array.replicate 55 none
  statics := some 0 }

def pool7 : Array CpInfo := pool [(1, u "java/lang/Cloneable"), (0, .class_ 1), (0, u "java/lang/Object"), (0, .class_ 3)] 3

/-- java/lang/Cloneable -/
def k7 : Class := { plain "java/lang/Cloneable" (some 0) with
  accessFlags := 1537
  interfaces := #[]
  cf := some (fileOf pool7 2 #[] #[] 1537 4 #[] #[])
  fields := #[]
  methods := #[]
  instanceTypes := #[]
  staticTypes := #[]
  resolved := Array.replicate 8 none
  statics := none }

/-- the primitive byte -/
def k8 : Class := { plain "byte" none with kind := .primitive 'B', accessFlags := 0x411 }
/-- [B -/
def k9 : Class := { plain "[B" (some 0) with kind := .array 8 .byte, interfaces := #[7, 4], accessFlags := 1041 }

/-- the primitive int -/
def k10 : Class := { plain "int" none with kind := .primitive 'I', accessFlags := 0x411 }
/-- [I -/
def k11 : Class := { plain "[I" (some 0) with kind := .array 10 .int, interfaces := #[7, 4], accessFlags := 1041 }

def heap : Heap := #[{ cls := 6, slots := #[.ref 2, .ref 1, .null], vm := .statics 6 },
  { cls := 6, slots := #[.null, .int 1, .int 0], vm := .none },
  { cls := 6, slots := #[.null, .int 0, .int 0], vm := .none }]
def classes : Array Class := #[k0, k1, k2, k3, k4, k5, k6, k7, k8, k9, k10, k11]
def interned : List (Array UInt16 × Addr) := []
def slotsUsed : Nat := 9
def theMethod : MethodId := ⟨1, 1⟩
def args0 : Array Value := #[.int 2]
def aboutOver (below : List Frame) : State where
  vm := { classes := classes, interned := interned.toArray }
  heap := heap
  slotsUsed := slotsUsed
  threads := #[{ frames := .invoking theMethod args0 :: below }]
def below0 : List Frame := [.native { method := ⟨0, 0⟩, args := #[] }]
def about1 : State := aboutOver below0
def p0 : Program := .bare "" "" ""
def e0 : Env := launch0.env 0 0 0
theorem w_frames : about1.frames = Frame.invoking theMethod args0 :: below0 := rfl
set_option maxRecDepth 65536 in
theorem w_args : argsFit about1.vm theMethod args0 = true := by decide +kernel
set_option maxRecDepth 65536 in
theorem w_heap : heapFits about1 = true := by decide +kernel
set_option maxRecDepth 65536 in
theorem w_runnable : about1.curStatus? = some .runnable := by decide +kernel
set_option maxRecDepth 65536 in
theorem w_alone : about1.alone = true := by decide +kernel
set_option maxRecDepth 65536 in
theorem w_named : about1.methodNamed? x = some theMethod := by decide +kernel
set_option maxRecDepth 65536 in
theorem w_hears : about1.hears theMethod below0 = true := by decide +kernel
set_option maxRecDepth 65536 in
theorem w_ripe : about1.ripe theMethod args0 below0 = true := by decide +kernel
theorem w_running : about1.status = .running := rfl
set_option maxRecDepth 65536 in
theorem w_room : about1.hasRoom e0.platform room_1 = true :=
  launch0.hasRoom_least _ room_1 (by decide +kernel) (by decide +kernel) (by decide +kernel) (by decide +kernel) (by decide +kernel) (by decide +kernel)
theorem allAtoms_all (ts : List Jvm.Cond) (a : Array Jvm.Value) (st : Jvm.State) : (allAtoms ts).before a st = ts.all (fun c => c.before a st) := by
  induction ts with
  | nil => rfl
  | cons c t ih =>
    show (Jvm.Cond.and c (allAtoms t)).before a st = _
    rw [Jvm.Cond.before_and, ih, List.all_cons]
def words1 : List Jvm.Cond := Jvm.Cond.code x code maxLocals ret :: tables_1
/-- a 'code' word, met by the world's own term for the bytes: nothing is compared byte by byte -/
theorem code_word {y : MethodName} {bytes : ByteArray} {mx : Nat} {rt : Option FieldType} {a : Array Value} {s : State} {m : MethodId} {meth : Method} {c : Code} (h1 : s.methodNamed? y = some m) (h2 : s.vm.method? m = some meth) (h3 : meth.code = some c) (h4 : c.code = bytes)
    (h5 : (c.maxLocals == mx && c.exceptionTable.isEmpty && decide (c.maxStack ≤ mostOperands) && decide (meth.sig.returnType = rt) && !meth.locks && decide (parseMethodDescriptor y.desc = some meth.sig)) = true) : (Jvm.Cond.code y bytes mx rt).before a s = true := by
  simp only [Bool.and_eq_true, beq_iff_eq, Bool.not_eq_true', decide_eq_true_eq] at h5
  obtain ⟨⟨⟨⟨⟨g1, g2⟩, g3⟩, g4⟩, g5⟩, g6⟩ := h5
  simp [Cond.before, Cond.holds, Cond.value, h1, h2, h3, h4, g1, g2, g3, g4, g5, g6]
def isCode : Jvm.Cond → Bool
  | .code _ _ _ _ => true
  | _ => false
theorem all_split {L : List Jvm.Cond} {P : Jvm.Cond → Bool} (h1 : L.all (fun c => isCode c || P c) = true) (h2 : ∀ c ∈ L.filter isCode, P c = true) : L.all P = true := by
  refine List.all_eq_true.mpr fun c hc => ?_
  have h := List.all_eq_true.mp h1 c hc
  rcases Bool.eq_false_or_eq_true (isCode c) with hi | hi
  · exact h2 c (List.mem_filter.mpr ⟨hc, hi⟩)
  · simpa [hi] using h
set_option maxRecDepth 65536 in
theorem w_c0 : (Jvm.Cond.code x code maxLocals ret).before args0 about1 = true := code_word (m := ⟨1, 1⟩) (meth := k1m1) (c := k1c1) (by decide +kernel) rfl rfl rfl (by decide +kernel)
set_option maxRecDepth 65536 in
theorem w_c1 : (Jvm.Cond.code ({ cls := "com/example/abacus/abacus/model/Rule$Effect", name := "opposite", desc := "()Lcom/example/abacus/abacus/model/Rule$Effect;" } : Jvm.MethodName) prog_112_method_4_code (1 : Nat) (Option.some (Jvm.ClassFile.FieldType.object "com/example/abacus/abacus/model/Rule$Effect"))).before args0 about1 = true := code_word (m := ⟨6, 0⟩) (meth := k6m0) (c := k6c0) (by decide +kernel) rfl rfl rfl (by decide +kernel)
def codes1 : List Jvm.Cond := [Jvm.Cond.code x code maxLocals ret, Jvm.Cond.code ({ cls := "com/example/abacus/abacus/model/Rule$Effect", name := "opposite", desc := "()Lcom/example/abacus/abacus/model/Rule$Effect;" } : Jvm.MethodName) prog_112_method_4_code (1 : Nat) (Option.some (Jvm.ClassFile.FieldType.object "com/example/abacus/abacus/model/Rule$Effect"))]
set_option maxRecDepth 65536 in
theorem codes_eq : words1.filter isCode = codes1 := rfl
theorem w_codes : ∀ c ∈ words1.filter isCode, c.before args0 about1 = true := by
  rw [codes_eq]
  intro c hc
  simp only [codes1, List.mem_cons, List.not_mem_nil, or_false] at hc
  rcases hc with rfl | rfl
  · exact w_c0
  · exact w_c1
set_option maxRecDepth 65536 in
theorem w_t1 : words1.all (fun c => isCode c || c.before args0 about1) = true := by decide +kernel
theorem w_tables : (allAtoms (Jvm.Cond.code x code maxLocals ret :: tables_1)).before args0 about1 = true := by
  rw [allAtoms_all]
  show words1.all (fun c => c.before args0 about1) = true
  refine all_split ?_ w_codes
  rw [w_t1]
set_option maxRecDepth 65536 in
theorem w_case : (Jvm.Cond.and given_1 narrow_1).before args0 about1 = true := by decide +kernel
theorem w_applies : (headSpec (Jvm.Cond.code x code maxLocals ret :: tables_1) room_1).applies x e0.platform about1 = true :=
  (Spec.applies_iff w_frames).mpr ⟨w_running, w_runnable, w_alone, w_named, w_hears, w_ripe, w_room, w_tables⟩
theorem atStart : AtStart classFile x code maxLocals ret World_1 tables_1 room_1 Calls_1 rest_1 Pre_1 launch0 p0 e0 about1 theMethod args0 below0 :=
  ⟨lists_1, trivial, launch0.admits_env _ _ _, launch0.least_env, fairChoices_fair.cas, fairChoices_fair.clock, w_frames, w_args, w_heap, w_applies, trivial, trivial, w_case⟩
end start1
theorem witness_1 : WitnessClaimed_1 := ⟨start1.p0, start1.e0, start1.about1, start1.theMethod, start1.args0, start1.below0, start1.atStart⟩
end Jvm.Pilot.@@N@@
