import JvmDerived
import JvmDerived.Pilot.@@N@@Statement
import JvmDerived.Pilot.@@N@@Code
set_option linter.unusedVariables false
set_option linter.unusedSimpArgs false
namespace Jvm.RoadKit
open Sem ClassFile Op Lib Jvm.Stand Jvm.Free Jvm.LawKit
def GoW (p : Program) (e : Env) (below : List Frame) (s : State) (Q : Option Value → Heap → List Loc → Prop) (k n : Nat) (u : State) : Prop :=
  ∃ s₂ o, Steps p.tables e below u s₂ ∧ s₂.status = .running ∧ Ended s₂ below o ∧ ∃ v L, o = .returned v ∧ Q v s₂.heap L ∧ FrameEnd s o s₂ L k n
def PureQ (r : Value) (h0 : Heap) (n0 : Nat) (v : Option Value) (h : Heap) (L : List Loc) : Prop := v = some r ∧ Fr n0 L ∧ h = h0
def ValQ (r : Value) (n0 : Nat) (v : Option Value) (h : Heap) (L : List Loc) : Prop := v = some r ∧ Fr n0 L
section New
variable {p : Program} {l : Launch} {e : Env} {R : Room} {s : State} {m : MethodId} {args : Array Value} {below : List Frame} {meth : Method} {c : Code} {T : State} {locs : List Loc} {cells slots : Nat} {Q : Option Value → Heap → List Loc → Prop} {k n : Nat} {u v : State}
theorem GoW.mk (h : GoW p e below s Q k n u) : ∃ s₂ o, Steps p.tables e below u s₂ ∧ s₂.status = .running ∧ Ended s₂ below o ∧ ∃ v L, o = .returned v ∧ Q v s₂.heap L ∧ FrameEnd s o s₂ L k n := h
theorem GoW.st (h : ∀ t, Steps p.tables e below u t → Steps p.tables e below v t) (q : GoW p e below s Q k n u) : GoW p e below s Q k n v := by
  obtain ⟨s₂, o, h1, h2⟩ := q; exact ⟨s₂, o, h _ h1, h2⟩
theorem GoW.sg {T' : State} (g' : JFrame) (h : ∀ t, Steps p.tables e below (T'.setTop g') t → Steps p.tables e below v t) (q : GoW p e below s Q k n (T'.setTop g')) : GoW p e below s Q k n v := GoW.st h q
theorem retI (X : Stand p l e R s m args below meth c T locs cells slots) (hx : p.tables.exec = Jvm.exec) {pc : Nat} {Ls : Array Slot} {z : Int32} {rest : List Value} (hret : meth.sig.returnType = some .int) (hd : decode c.code pc = .ok (.ireturn, 1)) {fs : List Frame}
    (hl : ∀ (f : JFrame) (acts : List Action), f.method = m → f.locked = none → f.entered = [] → (doReturn e (T.setTop f) acts (some (.int z))).1 = T.setFrames fs) : Steps p.tables e below (T.setTop (mkF m pc Ls (.int z :: rest))) (T.setFrames fs) := by
  have hm' : T.vm.method? m = some meth := X.method'
  have hn : narrow .int (.int z) = .int z := rfl
  show Steps p.tables e below (T.setTop { method := m, pc := pc, locals := Ls, stack := _ :: rest, locked := none }) _
  jvm_step X.here [X.here.top, hx, hd, hm', hret, hn]
  first | (intro acts; rw [hl _ acts rfl rfl rfl]) | rw [hl _ _ rfl rfl rfl]
  exact Steps.refl _
theorem GoW.retN (X : Stand p l e R s m args below meth c T locs cells slots) (hx : p.tables.exec = Jvm.exec) {pc : Nat} {Ls : Array Slot} {z : Int32} {t : FieldType} {rest : List Value} (hret : meth.sig.returnType = some t) (ht : t = .boolean ∨ t = .byte ∨ t = .char ∨ t = .short)
    (hd : decode c.code pc = .ok (.ireturn, 1)) (hlk : meth.locks = false) (hq : Q (some (.int (nar t z))) T.heap locs) (hk : cells ≤ k) (hn : slots ≤ n) : GoW p e below s Q k n (T.setTop (mkF m pc Ls (.int z :: rest))) := by
  obtain ⟨fs, hr, hrun, hended, hW, hsame⟩ := X.leave (v := some (.int (nar t z))) (fun h => by rw [hret] at h; cases h) hlk
  exact ⟨_, _, Jvm.RoadKit.retN X hx hret ht hd hr, hrun, hended, _, _, rfl, hq, ⟨_, rfl⟩, hW, hsame.mono hk hn⟩
theorem GoW.retI (X : Stand p l e R s m args below meth c T locs cells slots) (hx : p.tables.exec = Jvm.exec) {pc : Nat} {Ls : Array Slot} {z : Int32} {rest : List Value} (hret : meth.sig.returnType = some .int)
    (hd : decode c.code pc = .ok (.ireturn, 1)) (hlk : meth.locks = false) (hq : Q (some (.int z)) T.heap locs) (hk : cells ≤ k) (hn : slots ≤ n) : GoW p e below s Q k n (T.setTop (mkF m pc Ls (.int z :: rest))) := by
  obtain ⟨fs, hr, hrun, hended, hW, hsame⟩ := X.leave (v := some (.int z)) (fun h => by rw [hret] at h; cases h) hlk
  exact ⟨_, _, Jvm.RoadKit.retI X hx hret hd hr, hrun, hended, _, _, rfl, hq, ⟨_, rfl⟩, hW, hsame.mono hk hn⟩
theorem GoW.retL (X : Stand p l e R s m args below meth c T locs cells slots) (hx : p.tables.exec = Jvm.exec) {pc : Nat} {Ls : Array Slot} {z : Int64} {rest : List Value} (hret : meth.sig.returnType = some .long)
    (hd : decode c.code pc = .ok (.lreturn, 1)) (hlk : meth.locks = false) (hq : Q (some (.long z)) T.heap locs) (hk : cells ≤ k) (hn : slots ≤ n) : GoW p e below s Q k n (T.setTop (mkF m pc Ls (.long z :: rest))) := by
  obtain ⟨fs, hr, hrun, hended, hW, hsame⟩ := X.leave (v := some (.long z)) (fun h => by rw [hret] at h; cases h) hlk
  exact ⟨_, _, retOut X hx hret rfl (Or.inr (Or.inl ⟨rfl, rfl, z, rfl⟩)) hd hr, hrun, hended, _, _, rfl, hq, ⟨_, rfl⟩, hW, hsame.mono hk hn⟩
theorem GoW.retA (X : Stand p l e R s m args below meth c T locs cells slots) (hx : p.tables.exec = Jvm.exec) {pc : Nat} {Ls : Array Slot} {w : Value} {t : FieldType} {rest : List Value} (hret : meth.sig.returnType = some t) (hw : w.isRef = true) (ht : t.isReference = true)
    (hn' : narrow t w = w) (hd : decode c.code pc = .ok (.areturn, 1)) (hlk : meth.locks = false) (hq : Q (some w) T.heap locs) (hk : cells ≤ k) (hn : slots ≤ n) : GoW p e below s Q k n (T.setTop (mkF m pc Ls (w :: rest))) := by
  obtain ⟨fs, hr, hrun, hended, hW, hsame⟩ := X.leave (v := some w) (fun h => by rw [hret] at h; cases h) hlk
  exact ⟨_, _, retOut X hx hret hn' (Or.inr (Or.inr (Or.inr (Or.inr ⟨rfl, ht, hw⟩)))) hd hr, hrun, hended, _, _, rfl, hq, ⟨_, rfl⟩, hW, hsame.mono hk hn⟩
theorem GoW.retV (X : Stand p l e R s m args below meth c T locs cells slots) (hx : p.tables.exec = Jvm.exec) {pc : Nat} {Ls : Array Slot} (hret : meth.sig.returnType = none)
    (hd : decode c.code pc = .ok (.return_, 1)) (hlk : meth.locks = false) (hq : Q none T.heap locs) (hk : cells ≤ k) (hn : slots ≤ n) : GoW p e below s Q k n (T.setTop (mkF m pc Ls [])) := by
  obtain ⟨fs, hr, hrun, hended, hW, hsame⟩ := X.leave (v := none) (fun _ => rfl) hlk
  exact ⟨_, _, X.returnOut hx hret hd hr, hrun, hended, _, _, rfl, hq, ⟨_, rfl⟩, hW, hsame.mono hk hn⟩
theorem own_eqI {args : Array Value} {first s : State} {o : Option Outcome} {idx : List Nat} {t : Term} {i : Int32} (h : (Jvm.Cond.eq t (.int i)).value args first o s idx = some true) : t.eval args first o idx s = some (.int i) := by
  obtain ⟨x, y, hx, hy, k1, k2⟩ := cmp_v (Or.inl h)
  rw [Term.int_eval] at hy
  cases hy
  obtain ⟨z, rfl⟩ := k2
  have q := gotT (Cond.eq_ints hx (Term.int_eval i)) h
  rw [hx, q]
theorem own_ne {args : Array Value} {first s : State} {o : Option Outcome} {idx : List Nat} {t u : Term} {C n d : String} {i j : Int32} {a b : Addr} (h1 : (Jvm.Cond.eq (.field t C n d) (.int i)).value args first o s idx = some true) (h2 : (Jvm.Cond.eq (.field u C n d) (.int j)).value args first o s idx = some true)
    (ha : t.eval args first o idx s = some (.ref a)) (hb : u.eval args first o idx s = some (.ref b)) (hij : i ≠ j) : a ≠ b := fun e => by
  subst e
  have q1 := own_eqI h1
  have q2 := own_eqI h2
  rw [fld_at ha] at q1
  rw [fld_at hb, q1] at q2
  exact hij (by cases q2; rfl)
theorem own_staK0 {Z : State} {h h' : Heap} {C n d : String} {v : Value} (F : Sta Z h C n d v) (K : Keep h h' []) : Sta Z h' C n d v := by
  obtain ⟨cf, i, k, f, st, cell, h1, h2, h3, h4, h5, r⟩ := F; exact ⟨cf, i, k, f, st, cell, h1, h2, h3, h4, K.2.1 _ _ h5 nin0, r⟩
theorem own_staK1 {Z : State} {h h' : Heap} {C n d K0 : String} {v : Value} {a : Addr} (F : Sta Z h C n d v) (K : Keep h h' [a]) (E : Exa Z h a K0) : Sta Z h' C n d v := by
  obtain ⟨cf, i, k, f, st, cell, h1, h2, h3, h4, h5, h6, r⟩ := F
  refine ⟨cf, i, k, f, st, cell, h1, h2, h3, h4, K.2.1 _ _ h5 (ninS (fun q => ?_) nin0), h6, r⟩
  subst q
  obtain ⟨cell2, k2, g1, -, -, g2, -⟩ := E
  cases h5.symm.trans g1
  rw [h6] at g2; cases g2
theorem GoW.retD (X : Stand p l e R s m args below meth c T locs cells slots) (hx : p.tables.exec = Jvm.exec) {pc : Nat} {Ls : Array Slot} {z : UInt64} {rest : List Value} (hret : meth.sig.returnType = some .double)
    (hd : decode c.code pc = .ok (.dreturn, 1)) (hlk : meth.locks = false) (hq : Q (some (.double z)) T.heap locs) (hk : cells ≤ k) (hn : slots ≤ n) : GoW p e below s Q k n (T.setTop (mkF m pc Ls (.double z :: rest))) := by
  obtain ⟨fs, hr, hrun, hended, hW, hsame⟩ := X.leave (v := some (.double z)) (fun h => by rw [hret] at h; cases h) hlk
  exact ⟨_, _, retOut X hx hret rfl (Or.inr (Or.inr (Or.inl ⟨rfl, rfl, z, rfl⟩))) hd hr, hrun, hended, _, _, rfl, hq, ⟨_, rfl⟩, hW, hsame.mono hk hn⟩
theorem own_pop2L {tb : Tables} [Ours tb] {e : Env} {below : List Frame} {T target : State} {m : MethodId} {c : Code} {g : JFrame} (h : At T m c below) (hx : tb.exec = Jvm.exec) (hg : g.method = m) {x : Int64} {rest : List Value} (hd : decode c.code g.pc = .ok (.pop2, 1)) (hs : g.stack = .long x :: rest)
    (hr : Steps tb e below (T.setTop { g with pc := g.pc + 1, stack := rest }) target) : Steps tb e below (T.setTop g) target := by
  subst hg
  jvm_step h [h.top, hx, hd, hs, Value.category]
  exact hr
end New
end Jvm.RoadKit
namespace Jvm.Pilot.@@N@@
open Jvm Jvm.ClassFile Sem Op Lib Jvm.Free Jvm.Stand Jvm.LawKit Jvm.RoadKit Bundle Jvm.Pilot.@@N@@.Jvm.D
theorem ww {Z : State} {a0 : Array Value} (hw : ∀ d ∈ tables_1, d.before a0 Z = true) (i : Nat) {d : Jvm.Cond} (h : tables_1[i]? = some d) : d.before a0 Z = true := hw _ (List.mem_of_getElem? h)
theorem pn_com_example_throttle_throttle_SipSyntax : plainName "com/example/throttle/throttle/SipSyntax" = true := by first | (simp [plainName, overriddenIn]; done) | decide +kernel
theorem d1_0 : decode prog_10_method_4_code 0 = .ok (.iload_n 0, 1) := by decide +kernel
theorem d1_1 : decode prog_10_method_4_code 1 = .ok (.bipush 97, 2) := by decide +kernel
theorem d1_3 : decode prog_10_method_4_code 3 = .ok (.if_icmp .lt 9, 3) := by decide +kernel
theorem d1_12 : decode prog_10_method_4_code 12 = .ok (.iload_n 0, 1) := by decide +kernel
theorem d1_13 : decode prog_10_method_4_code 13 = .ok (.bipush 65, 2) := by decide +kernel
theorem d1_15 : decode prog_10_method_4_code 15 = .ok (.if_icmp .lt 9, 3) := by decide +kernel
theorem d1_24 : decode prog_10_method_4_code 24 = .ok (.iload_n 0, 1) := by decide +kernel
theorem d1_25 : decode prog_10_method_4_code 25 = .ok (.bipush 48, 2) := by decide +kernel
theorem d1_27 : decode prog_10_method_4_code 27 = .ok (.if_icmp .lt 13, 3) := by decide +kernel
theorem d1_40 : decode prog_10_method_4_code 40 = .ok (.iconst 0, 1) := by decide +kernel
theorem d1_41 : decode prog_10_method_4_code 41 = .ok (.ireturn, 1) := by decide +kernel
theorem d1_30 : decode prog_10_method_4_code 30 = .ok (.iload_n 0, 1) := by decide +kernel
theorem d1_31 : decode prog_10_method_4_code 31 = .ok (.bipush 57, 2) := by decide +kernel
theorem d1_33 : decode prog_10_method_4_code 33 = .ok (.if_icmp .gt 7, 3) := by decide +kernel
theorem d1_36 : decode prog_10_method_4_code 36 = .ok (.iconst 1, 1) := by decide +kernel
theorem d1_37 : decode prog_10_method_4_code 37 = .ok (.goto 4, 3) := by decide +kernel
theorem d1_18 : decode prog_10_method_4_code 18 = .ok (.iload_n 0, 1) := by decide +kernel
theorem d1_19 : decode prog_10_method_4_code 19 = .ok (.bipush 90, 2) := by decide +kernel
theorem d1_21 : decode prog_10_method_4_code 21 = .ok (.if_icmp .le 15, 3) := by decide +kernel
theorem d1_6 : decode prog_10_method_4_code 6 = .ok (.iload_n 0, 1) := by decide +kernel
theorem d1_7 : decode prog_10_method_4_code 7 = .ok (.bipush 122, 2) := by decide +kernel
theorem d1_9 : decode prog_10_method_4_code 9 = .ok (.if_icmp .le 27, 3) := by decide +kernel
theorem pn_com_example_throttle_throttle_SipSyntaxIsAlphanumericPinLaw : plainName "com/example/throttle/throttle/SipSyntaxIsAlphanumericPinLaw" = true := by first | (simp [plainName, overriddenIn]; done) | decide +kernel
abbrev K0 (p0 : Int32) : Array Slot := #[.val (.int p0), .unset, .unset, .unset, .unset, .unset, .unset, .unset]
abbrev K1 (p0 : Int32) (p1 : Int32) : Array Slot := #[.val (.int p0), .val (.int p1), .unset, .unset, .unset, .unset, .unset, .unset]
abbrev K2 (p0 : Int32) (p1 : Int32) (p2 : Int32) : Array Slot := #[.val (.int p0), .val (.int p1), .val (.int p2), .unset, .unset, .unset, .unset, .unset]
abbrev K3 (p0 : Int32) (p1 : Int32) (p2 : Int32) (p3 : Int32) : Array Slot := #[.val (.int p0), .val (.int p1), .val (.int p2), .val (.int p3), .unset, .unset, .unset, .unset]
abbrev K4 (p0 : Int32) (p1 : Int32) (p2 : Int32) (p3 : Int32) (p4 : Int32) : Array Slot := #[.val (.int p0), .val (.int p1), .val (.int p2), .val (.int p3), .val (.int p4), .unset, .unset, .unset]
abbrev K5 (p0 : Int32) (p1 : Int32) (p2 : Int32) (p3 : Int32) (p4 : Int32) (p5 : Int32) : Array Slot := #[.val (.int p0), .val (.int p1), .val (.int p2), .val (.int p3), .val (.int p4), .val (.int p5), .unset, .unset]
abbrev K6 (p0 : Int32) (p1 : Int32) (p2 : Int32) (p3 : Int32) (p4 : Int32) (p5 : Int32) (p6 : Int32) : Array Slot := #[.val (.int p0), .val (.int p1), .val (.int p2), .val (.int p3), .val (.int p4), .val (.int p5), .val (.int p6), .unset]
abbrev K7 (p0 : Int32) (p1 : Int32) (p2 : Int32) (p3 : Int32) (p4 : Int32) (p5 : Int32) (p6 : Int32) (p7 : Int32) : Array Slot := #[.val (.int p0), .val (.int p1), .val (.int p2), .val (.int p3), .val (.int p4), .val (.int p5), .val (.int p6), .val (.int p7)]
theorem pd_28C29Z : parseMethodDescriptor "(C)Z" = some ⟨[.char], some .boolean⟩ := by decide +kernel
def F1 (q1 : Int32) : Int32 := (if q1 < (97 : Int32) then (if q1 < (65 : Int32) then (if q1 < (48 : Int32) then (0 : Int32) else (if (57 : Int32) < q1 then (0 : Int32) else (1 : Int32))) else (if (90 : Int32) < q1 then (if q1 < (48 : Int32) then (0 : Int32) else (if (57 : Int32) < q1 then (0 : Int32) else (1 : Int32))) else (1 : Int32))) else (if (122 : Int32) < q1 then (if q1 < (65 : Int32) then (if q1 < (48 : Int32) then (0 : Int32) else (if (57 : Int32) < q1 then (0 : Int32) else (1 : Int32))) else (if (90 : Int32) < q1 then (if q1 < (48 : Int32) then (0 : Int32) else (if (57 : Int32) < q1 then (0 : Int32) else (1 : Int32))) else (1 : Int32))) else (1 : Int32)))
theorem ef1_rm1 (m : MethodId) (q1 : Int32) : entryFrame m #[(.int q1)] 1 = (mkF m 0 #[.val (.int q1)] []) := by first | (simp [entryFrame, mkF, argsToLocals, Value.category, maxLocals]; done) | rfl
set_option maxRecDepth 65536 in
set_option maxHeartbeats 40000000 in
theorem rm1 (l : Launch) (Z : State) (a0 : Array Value) (hw : ∀ d ∈ tables_1, d.before a0 Z = true) (ws : List Jvm.Cond) (q1 : Int32)  (h0 : Heap) (n0 : Nat)  :
    MetFree l (⟨"com/example/throttle/throttle/SipSyntax", "isAlphanumeric", "(C)Z"⟩ : MethodName) (head1 (Jvm.Cond.code (⟨"com/example/throttle/throttle/SipSyntax", "isAlphanumeric", "(C)Z"⟩ : MethodName) prog_10_method_4_code 1 (some .boolean) :: ws) ({ frames := 0, cells := 0, slots := 0, locals := 0 } : Room)) (fun a U => a = #[(.int q1)] ∧ Z.Warmed39 U.vm ∧ U.heap = h0) (fun _ _ _ _ _ => True) (fun _ U o U' => ∃ v L, o = .returned v ∧ (PureQ (.int (F1 q1)) h0 n0) v U'.heap L ∧ FrameEnd U o U' L 0 0) := by
  refine MetFree.of_bodySF (plainFor_of_name pn_com_example_throttle_throttle_SipSyntax) hisR ?_
  intro p e s m args below meth c s₁ Bd hml0 hP hK
  obtain ⟨rfl, hZ, hh⟩ := hP
  have hx := Bd.exec
  have hby := Bd.bytes
  have hml : c.maxLocals = 1 := hml0
  have hown : s.vm.findClass "com/example/throttle/throttle/SipSyntax" = some m.cls := findClass_of_methodNamed Bd.named
  have hnm := (name_of_methodNamed Bd.named Bd.method).1
  have X0 : Stand p l e ({ frames := 0, cells := 0, slots := 0, locals := 0 } : Room) s m #[(.int q1)] below meth c s₁ [] 0 0 := Stand.of_body Bd
  have e0 : s₁.heap = h0 := by rw [← hh, Bd.state]; rfl
  have N0 := Fr.nil n0
  refine GoW.mk ?_
  refine GoW.st (fun t k => castTop (ef1_rm1 m q1) k) ?_
  show GoW p e below s (PureQ (.int (F1 q1)) h0 n0) 0 0 (s₁.setTop (mkF m 0 #[.val (.int q1)] []))
  refine GoW.sg (mkF m 1 #[.val (.int q1)] [(.int q1)]) (fun t k => XS.iloadN X0.here hx rfl (hb hby d1_0) rfl k) ?_
  refine GoW.sg (mkF m 3 #[.val (.int q1)] [(.int 97), (.int q1)]) (fun t k => XS.bipush X0.here hx rfl (hb hby d1_1) k) ?_
  by_cases c1 : q1 < (97 : Int32)
  · refine GoW.sg (mkF m 12 #[.val (.int q1)] []) (fun t k => XS.icmpYes X0.here hx rfl (pc0 := 3) (pc' := 12) rfl (hb hby d1_3) rfl (tlt c1).1 (by decide) (by decide) k) ?_
    refine GoW.sg (mkF m 13 #[.val (.int q1)] [(.int q1)]) (fun t k => XS.iloadN X0.here hx rfl (hb hby d1_12) rfl k) ?_
    refine GoW.sg (mkF m 15 #[.val (.int q1)] [(.int 65), (.int q1)]) (fun t k => XS.bipush X0.here hx rfl (hb hby d1_13) k) ?_
    by_cases c2 : q1 < (65 : Int32)
    · refine GoW.sg (mkF m 24 #[.val (.int q1)] []) (fun t k => XS.icmpYes X0.here hx rfl (pc0 := 15) (pc' := 24) rfl (hb hby d1_15) rfl (tlt c2).1 (by decide) (by decide) k) ?_
      refine GoW.sg (mkF m 25 #[.val (.int q1)] [(.int q1)]) (fun t k => XS.iloadN X0.here hx rfl (hb hby d1_24) rfl k) ?_
      refine GoW.sg (mkF m 27 #[.val (.int q1)] [(.int 48), (.int q1)]) (fun t k => XS.bipush X0.here hx rfl (hb hby d1_25) k) ?_
      by_cases c3 : q1 < (48 : Int32)
      · refine GoW.sg (mkF m 40 #[.val (.int q1)] []) (fun t k => XS.icmpYes X0.here hx rfl (pc0 := 27) (pc' := 40) rfl (hb hby d1_27) rfl (tlt c3).1 (by decide) (by decide) k) ?_
        refine GoW.sg (mkF m 41 #[.val (.int q1)] [(.int 0)]) (fun t k => XS.iconst X0.here hx rfl (hb hby d1_40) k) ?_
        refine GoW.retN X0 hx (t := .boolean) Bd.returns (by simp) (hb hby d1_41) Bd.notSynchronized ?_ (by decide) (by decide)
        have hq : (F1 q1) = (0 : Int32) := by unfold F1; rw [if_pos c1, if_pos c2, if_pos c3]; try rfl
        exact ⟨by rw [hq]; rfl, N0, e0⟩
      · refine GoW.sg (mkF m 30 #[.val (.int q1)] []) (fun t k => XS.icmpNo X0.here hx rfl (hb hby d1_27) rfl (flt c3).1 k) ?_
        refine GoW.sg (mkF m 31 #[.val (.int q1)] [(.int q1)]) (fun t k => XS.iloadN X0.here hx rfl (hb hby d1_30) rfl k) ?_
        refine GoW.sg (mkF m 33 #[.val (.int q1)] [(.int 57), (.int q1)]) (fun t k => XS.bipush X0.here hx rfl (hb hby d1_31) k) ?_
        by_cases c4 : (57 : Int32) < q1
        · refine GoW.sg (mkF m 40 #[.val (.int q1)] []) (fun t k => XS.icmpYes X0.here hx rfl (pc0 := 33) (pc' := 40) rfl (hb hby d1_33) rfl (tlt c4).2.2.1 (by decide) (by decide) k) ?_
          refine GoW.sg (mkF m 41 #[.val (.int q1)] [(.int 0)]) (fun t k => XS.iconst X0.here hx rfl (hb hby d1_40) k) ?_
          refine GoW.retN X0 hx (t := .boolean) Bd.returns (by simp) (hb hby d1_41) Bd.notSynchronized ?_ (by decide) (by decide)
          have hq : (F1 q1) = (0 : Int32) := by unfold F1; rw [if_pos c1, if_pos c2, if_neg c3, if_pos c4]; try rfl
          exact ⟨by rw [hq]; rfl, N0, e0⟩
        · refine GoW.sg (mkF m 36 #[.val (.int q1)] []) (fun t k => XS.icmpNo X0.here hx rfl (hb hby d1_33) rfl (flt c4).2.2.1 k) ?_
          refine GoW.sg (mkF m 37 #[.val (.int q1)] [(.int 1)]) (fun t k => XS.iconst X0.here hx rfl (hb hby d1_36) k) ?_
          refine GoW.sg (mkF m 41 #[.val (.int q1)] [(.int 1)]) (fun t k => XS.goto X0.here hx rfl (pc0 := 37) (pc' := 41) rfl (hb hby d1_37) (by decide) (by decide) k) ?_
          refine GoW.retN X0 hx (t := .boolean) Bd.returns (by simp) (hb hby d1_41) Bd.notSynchronized ?_ (by decide) (by decide)
          have hq : (F1 q1) = (1 : Int32) := by unfold F1; rw [if_pos c1, if_pos c2, if_neg c3, if_neg c4]; try rfl
          exact ⟨by rw [hq]; rfl, N0, e0⟩
    · refine GoW.sg (mkF m 18 #[.val (.int q1)] []) (fun t k => XS.icmpNo X0.here hx rfl (hb hby d1_15) rfl (flt c2).1 k) ?_
      refine GoW.sg (mkF m 19 #[.val (.int q1)] [(.int q1)]) (fun t k => XS.iloadN X0.here hx rfl (hb hby d1_18) rfl k) ?_
      refine GoW.sg (mkF m 21 #[.val (.int q1)] [(.int 90), (.int q1)]) (fun t k => XS.bipush X0.here hx rfl (hb hby d1_19) k) ?_
      by_cases c5 : (90 : Int32) < q1
      · refine GoW.sg (mkF m 24 #[.val (.int q1)] []) (fun t k => XS.icmpNo X0.here hx rfl (hb hby d1_21) rfl (tlt c5).2.2.2 k) ?_
        refine GoW.sg (mkF m 25 #[.val (.int q1)] [(.int q1)]) (fun t k => XS.iloadN X0.here hx rfl (hb hby d1_24) rfl k) ?_
        refine GoW.sg (mkF m 27 #[.val (.int q1)] [(.int 48), (.int q1)]) (fun t k => XS.bipush X0.here hx rfl (hb hby d1_25) k) ?_
        by_cases c6 : q1 < (48 : Int32)
        · refine GoW.sg (mkF m 40 #[.val (.int q1)] []) (fun t k => XS.icmpYes X0.here hx rfl (pc0 := 27) (pc' := 40) rfl (hb hby d1_27) rfl (tlt c6).1 (by decide) (by decide) k) ?_
          refine GoW.sg (mkF m 41 #[.val (.int q1)] [(.int 0)]) (fun t k => XS.iconst X0.here hx rfl (hb hby d1_40) k) ?_
          refine GoW.retN X0 hx (t := .boolean) Bd.returns (by simp) (hb hby d1_41) Bd.notSynchronized ?_ (by decide) (by decide)
          have hq : (F1 q1) = (0 : Int32) := by unfold F1; rw [if_pos c1, if_neg c2, if_pos c5, if_pos c6]; try rfl
          exact ⟨by rw [hq]; rfl, N0, e0⟩
        · refine GoW.sg (mkF m 30 #[.val (.int q1)] []) (fun t k => XS.icmpNo X0.here hx rfl (hb hby d1_27) rfl (flt c6).1 k) ?_
          refine GoW.sg (mkF m 31 #[.val (.int q1)] [(.int q1)]) (fun t k => XS.iloadN X0.here hx rfl (hb hby d1_30) rfl k) ?_
          refine GoW.sg (mkF m 33 #[.val (.int q1)] [(.int 57), (.int q1)]) (fun t k => XS.bipush X0.here hx rfl (hb hby d1_31) k) ?_
          by_cases c7 : (57 : Int32) < q1
          · refine GoW.sg (mkF m 40 #[.val (.int q1)] []) (fun t k => XS.icmpYes X0.here hx rfl (pc0 := 33) (pc' := 40) rfl (hb hby d1_33) rfl (tlt c7).2.2.1 (by decide) (by decide) k) ?_
            refine GoW.sg (mkF m 41 #[.val (.int q1)] [(.int 0)]) (fun t k => XS.iconst X0.here hx rfl (hb hby d1_40) k) ?_
            refine GoW.retN X0 hx (t := .boolean) Bd.returns (by simp) (hb hby d1_41) Bd.notSynchronized ?_ (by decide) (by decide)
            have hq : (F1 q1) = (0 : Int32) := by unfold F1; rw [if_pos c1, if_neg c2, if_pos c5, if_neg c6, if_pos c7]; try rfl
            exact ⟨by rw [hq]; rfl, N0, e0⟩
          · refine GoW.sg (mkF m 36 #[.val (.int q1)] []) (fun t k => XS.icmpNo X0.here hx rfl (hb hby d1_33) rfl (flt c7).2.2.1 k) ?_
            refine GoW.sg (mkF m 37 #[.val (.int q1)] [(.int 1)]) (fun t k => XS.iconst X0.here hx rfl (hb hby d1_36) k) ?_
            refine GoW.sg (mkF m 41 #[.val (.int q1)] [(.int 1)]) (fun t k => XS.goto X0.here hx rfl (pc0 := 37) (pc' := 41) rfl (hb hby d1_37) (by decide) (by decide) k) ?_
            refine GoW.retN X0 hx (t := .boolean) Bd.returns (by simp) (hb hby d1_41) Bd.notSynchronized ?_ (by decide) (by decide)
            have hq : (F1 q1) = (1 : Int32) := by unfold F1; rw [if_pos c1, if_neg c2, if_pos c5, if_neg c6, if_neg c7]; try rfl
            exact ⟨by rw [hq]; rfl, N0, e0⟩
      · refine GoW.sg (mkF m 36 #[.val (.int q1)] []) (fun t k => XS.icmpYes X0.here hx rfl (pc0 := 21) (pc' := 36) rfl (hb hby d1_21) rfl (flt c5).2.2.2 (by decide) (by decide) k) ?_
        refine GoW.sg (mkF m 37 #[.val (.int q1)] [(.int 1)]) (fun t k => XS.iconst X0.here hx rfl (hb hby d1_36) k) ?_
        refine GoW.sg (mkF m 41 #[.val (.int q1)] [(.int 1)]) (fun t k => XS.goto X0.here hx rfl (pc0 := 37) (pc' := 41) rfl (hb hby d1_37) (by decide) (by decide) k) ?_
        refine GoW.retN X0 hx (t := .boolean) Bd.returns (by simp) (hb hby d1_41) Bd.notSynchronized ?_ (by decide) (by decide)
        have hq : (F1 q1) = (1 : Int32) := by unfold F1; rw [if_pos c1, if_neg c2, if_neg c5]; try rfl
        exact ⟨by rw [hq]; rfl, N0, e0⟩
  · refine GoW.sg (mkF m 6 #[.val (.int q1)] []) (fun t k => XS.icmpNo X0.here hx rfl (hb hby d1_3) rfl (flt c1).1 k) ?_
    refine GoW.sg (mkF m 7 #[.val (.int q1)] [(.int q1)]) (fun t k => XS.iloadN X0.here hx rfl (hb hby d1_6) rfl k) ?_
    refine GoW.sg (mkF m 9 #[.val (.int q1)] [(.int 122), (.int q1)]) (fun t k => XS.bipush X0.here hx rfl (hb hby d1_7) k) ?_
    by_cases c8 : (122 : Int32) < q1
    · refine GoW.sg (mkF m 12 #[.val (.int q1)] []) (fun t k => XS.icmpNo X0.here hx rfl (hb hby d1_9) rfl (tlt c8).2.2.2 k) ?_
      refine GoW.sg (mkF m 13 #[.val (.int q1)] [(.int q1)]) (fun t k => XS.iloadN X0.here hx rfl (hb hby d1_12) rfl k) ?_
      refine GoW.sg (mkF m 15 #[.val (.int q1)] [(.int 65), (.int q1)]) (fun t k => XS.bipush X0.here hx rfl (hb hby d1_13) k) ?_
      by_cases c9 : q1 < (65 : Int32)
      · refine GoW.sg (mkF m 24 #[.val (.int q1)] []) (fun t k => XS.icmpYes X0.here hx rfl (pc0 := 15) (pc' := 24) rfl (hb hby d1_15) rfl (tlt c9).1 (by decide) (by decide) k) ?_
        refine GoW.sg (mkF m 25 #[.val (.int q1)] [(.int q1)]) (fun t k => XS.iloadN X0.here hx rfl (hb hby d1_24) rfl k) ?_
        refine GoW.sg (mkF m 27 #[.val (.int q1)] [(.int 48), (.int q1)]) (fun t k => XS.bipush X0.here hx rfl (hb hby d1_25) k) ?_
        by_cases c10 : q1 < (48 : Int32)
        · refine GoW.sg (mkF m 40 #[.val (.int q1)] []) (fun t k => XS.icmpYes X0.here hx rfl (pc0 := 27) (pc' := 40) rfl (hb hby d1_27) rfl (tlt c10).1 (by decide) (by decide) k) ?_
          refine GoW.sg (mkF m 41 #[.val (.int q1)] [(.int 0)]) (fun t k => XS.iconst X0.here hx rfl (hb hby d1_40) k) ?_
          refine GoW.retN X0 hx (t := .boolean) Bd.returns (by simp) (hb hby d1_41) Bd.notSynchronized ?_ (by decide) (by decide)
          have hq : (F1 q1) = (0 : Int32) := by unfold F1; rw [if_neg c1, if_pos c8, if_pos c9, if_pos c10]; try rfl
          exact ⟨by rw [hq]; rfl, N0, e0⟩
        · refine GoW.sg (mkF m 30 #[.val (.int q1)] []) (fun t k => XS.icmpNo X0.here hx rfl (hb hby d1_27) rfl (flt c10).1 k) ?_
          refine GoW.sg (mkF m 31 #[.val (.int q1)] [(.int q1)]) (fun t k => XS.iloadN X0.here hx rfl (hb hby d1_30) rfl k) ?_
          refine GoW.sg (mkF m 33 #[.val (.int q1)] [(.int 57), (.int q1)]) (fun t k => XS.bipush X0.here hx rfl (hb hby d1_31) k) ?_
          by_cases c11 : (57 : Int32) < q1
          · refine GoW.sg (mkF m 40 #[.val (.int q1)] []) (fun t k => XS.icmpYes X0.here hx rfl (pc0 := 33) (pc' := 40) rfl (hb hby d1_33) rfl (tlt c11).2.2.1 (by decide) (by decide) k) ?_
            refine GoW.sg (mkF m 41 #[.val (.int q1)] [(.int 0)]) (fun t k => XS.iconst X0.here hx rfl (hb hby d1_40) k) ?_
            refine GoW.retN X0 hx (t := .boolean) Bd.returns (by simp) (hb hby d1_41) Bd.notSynchronized ?_ (by decide) (by decide)
            have hq : (F1 q1) = (0 : Int32) := by unfold F1; rw [if_neg c1, if_pos c8, if_pos c9, if_neg c10, if_pos c11]; try rfl
            exact ⟨by rw [hq]; rfl, N0, e0⟩
          · refine GoW.sg (mkF m 36 #[.val (.int q1)] []) (fun t k => XS.icmpNo X0.here hx rfl (hb hby d1_33) rfl (flt c11).2.2.1 k) ?_
            refine GoW.sg (mkF m 37 #[.val (.int q1)] [(.int 1)]) (fun t k => XS.iconst X0.here hx rfl (hb hby d1_36) k) ?_
            refine GoW.sg (mkF m 41 #[.val (.int q1)] [(.int 1)]) (fun t k => XS.goto X0.here hx rfl (pc0 := 37) (pc' := 41) rfl (hb hby d1_37) (by decide) (by decide) k) ?_
            refine GoW.retN X0 hx (t := .boolean) Bd.returns (by simp) (hb hby d1_41) Bd.notSynchronized ?_ (by decide) (by decide)
            have hq : (F1 q1) = (1 : Int32) := by unfold F1; rw [if_neg c1, if_pos c8, if_pos c9, if_neg c10, if_neg c11]; try rfl
            exact ⟨by rw [hq]; rfl, N0, e0⟩
      · refine GoW.sg (mkF m 18 #[.val (.int q1)] []) (fun t k => XS.icmpNo X0.here hx rfl (hb hby d1_15) rfl (flt c9).1 k) ?_
        refine GoW.sg (mkF m 19 #[.val (.int q1)] [(.int q1)]) (fun t k => XS.iloadN X0.here hx rfl (hb hby d1_18) rfl k) ?_
        refine GoW.sg (mkF m 21 #[.val (.int q1)] [(.int 90), (.int q1)]) (fun t k => XS.bipush X0.here hx rfl (hb hby d1_19) k) ?_
        by_cases c12 : (90 : Int32) < q1
        · refine GoW.sg (mkF m 24 #[.val (.int q1)] []) (fun t k => XS.icmpNo X0.here hx rfl (hb hby d1_21) rfl (tlt c12).2.2.2 k) ?_
          refine GoW.sg (mkF m 25 #[.val (.int q1)] [(.int q1)]) (fun t k => XS.iloadN X0.here hx rfl (hb hby d1_24) rfl k) ?_
          refine GoW.sg (mkF m 27 #[.val (.int q1)] [(.int 48), (.int q1)]) (fun t k => XS.bipush X0.here hx rfl (hb hby d1_25) k) ?_
          by_cases c13 : q1 < (48 : Int32)
          · refine GoW.sg (mkF m 40 #[.val (.int q1)] []) (fun t k => XS.icmpYes X0.here hx rfl (pc0 := 27) (pc' := 40) rfl (hb hby d1_27) rfl (tlt c13).1 (by decide) (by decide) k) ?_
            refine GoW.sg (mkF m 41 #[.val (.int q1)] [(.int 0)]) (fun t k => XS.iconst X0.here hx rfl (hb hby d1_40) k) ?_
            refine GoW.retN X0 hx (t := .boolean) Bd.returns (by simp) (hb hby d1_41) Bd.notSynchronized ?_ (by decide) (by decide)
            have hq : (F1 q1) = (0 : Int32) := by unfold F1; rw [if_neg c1, if_pos c8, if_neg c9, if_pos c12, if_pos c13]; try rfl
            exact ⟨by rw [hq]; rfl, N0, e0⟩
          · refine GoW.sg (mkF m 30 #[.val (.int q1)] []) (fun t k => XS.icmpNo X0.here hx rfl (hb hby d1_27) rfl (flt c13).1 k) ?_
            refine GoW.sg (mkF m 31 #[.val (.int q1)] [(.int q1)]) (fun t k => XS.iloadN X0.here hx rfl (hb hby d1_30) rfl k) ?_
            refine GoW.sg (mkF m 33 #[.val (.int q1)] [(.int 57), (.int q1)]) (fun t k => XS.bipush X0.here hx rfl (hb hby d1_31) k) ?_
            by_cases c14 : (57 : Int32) < q1
            · refine GoW.sg (mkF m 40 #[.val (.int q1)] []) (fun t k => XS.icmpYes X0.here hx rfl (pc0 := 33) (pc' := 40) rfl (hb hby d1_33) rfl (tlt c14).2.2.1 (by decide) (by decide) k) ?_
              refine GoW.sg (mkF m 41 #[.val (.int q1)] [(.int 0)]) (fun t k => XS.iconst X0.here hx rfl (hb hby d1_40) k) ?_
              refine GoW.retN X0 hx (t := .boolean) Bd.returns (by simp) (hb hby d1_41) Bd.notSynchronized ?_ (by decide) (by decide)
              have hq : (F1 q1) = (0 : Int32) := by unfold F1; rw [if_neg c1, if_pos c8, if_neg c9, if_pos c12, if_neg c13, if_pos c14]; try rfl
              exact ⟨by rw [hq]; rfl, N0, e0⟩
            · refine GoW.sg (mkF m 36 #[.val (.int q1)] []) (fun t k => XS.icmpNo X0.here hx rfl (hb hby d1_33) rfl (flt c14).2.2.1 k) ?_
              refine GoW.sg (mkF m 37 #[.val (.int q1)] [(.int 1)]) (fun t k => XS.iconst X0.here hx rfl (hb hby d1_36) k) ?_
              refine GoW.sg (mkF m 41 #[.val (.int q1)] [(.int 1)]) (fun t k => XS.goto X0.here hx rfl (pc0 := 37) (pc' := 41) rfl (hb hby d1_37) (by decide) (by decide) k) ?_
              refine GoW.retN X0 hx (t := .boolean) Bd.returns (by simp) (hb hby d1_41) Bd.notSynchronized ?_ (by decide) (by decide)
              have hq : (F1 q1) = (1 : Int32) := by unfold F1; rw [if_neg c1, if_pos c8, if_neg c9, if_pos c12, if_neg c13, if_neg c14]; try rfl
              exact ⟨by rw [hq]; rfl, N0, e0⟩
        · refine GoW.sg (mkF m 36 #[.val (.int q1)] []) (fun t k => XS.icmpYes X0.here hx rfl (pc0 := 21) (pc' := 36) rfl (hb hby d1_21) rfl (flt c12).2.2.2 (by decide) (by decide) k) ?_
          refine GoW.sg (mkF m 37 #[.val (.int q1)] [(.int 1)]) (fun t k => XS.iconst X0.here hx rfl (hb hby d1_36) k) ?_
          refine GoW.sg (mkF m 41 #[.val (.int q1)] [(.int 1)]) (fun t k => XS.goto X0.here hx rfl (pc0 := 37) (pc' := 41) rfl (hb hby d1_37) (by decide) (by decide) k) ?_
          refine GoW.retN X0 hx (t := .boolean) Bd.returns (by simp) (hb hby d1_41) Bd.notSynchronized ?_ (by decide) (by decide)
          have hq : (F1 q1) = (1 : Int32) := by unfold F1; rw [if_neg c1, if_pos c8, if_neg c9, if_neg c12]; try rfl
          exact ⟨by rw [hq]; rfl, N0, e0⟩
    · refine GoW.sg (mkF m 36 #[.val (.int q1)] []) (fun t k => XS.icmpYes X0.here hx rfl (pc0 := 9) (pc' := 36) rfl (hb hby d1_9) rfl (flt c8).2.2.2 (by decide) (by decide) k) ?_
      refine GoW.sg (mkF m 37 #[.val (.int q1)] [(.int 1)]) (fun t k => XS.iconst X0.here hx rfl (hb hby d1_36) k) ?_
      refine GoW.sg (mkF m 41 #[.val (.int q1)] [(.int 1)]) (fun t k => XS.goto X0.here hx rfl (pc0 := 37) (pc' := 41) rfl (hb hby d1_37) (by decide) (by decide) k) ?_
      refine GoW.retN X0 hx (t := .boolean) Bd.returns (by simp) (hb hby d1_41) Bd.notSynchronized ?_ (by decide) (by decide)
      have hq : (F1 q1) = (1 : Int32) := by unfold F1; rw [if_neg c1, if_neg c8]; try rfl
      exact ⟨by rw [hq]; rfl, N0, e0⟩
def F0_7 (q1 : Int32) (z15 : Int32) (z16 : Int32) (z17 : Int32) (b20 : Int32) (z24 : Int32) (b27 : Int32) (b33 : Int32) : Int32 := (if (F1 z15) = b33 then (1 : Int32) else (0 : Int32))
def F0_6 (q1 : Int32) (z15 : Int32) (z16 : Int32) (z17 : Int32) (b20 : Int32) (z24 : Int32) (b27 : Int32) : Int32 := (F0_7 q1 z15 z16 z17 b20 z24 b27 (if b20 = (0 : Int32) then (if b27 = (0 : Int32) then (0 : Int32) else (1 : Int32)) else (1 : Int32)))
def F0_5 (q1 : Int32) (z15 : Int32) (z16 : Int32) (z17 : Int32) (b20 : Int32) (z24 : Int32) : Int32 := (F0_6 q1 z15 z16 z17 b20 z24 (if z24 < (0 : Int32) then (0 : Int32) else (if z24 < (10 : Int32) then (1 : Int32) else (0 : Int32))))
def F0_4 (q1 : Int32) (z15 : Int32) (z16 : Int32) (z17 : Int32) (b20 : Int32) : Int32 := (F0_5 q1 z15 z16 z17 b20 (z15 - (48 : Int32)))
def F0_3 (q1 : Int32) (z15 : Int32) (z16 : Int32) (z17 : Int32) : Int32 := (F0_4 q1 z15 z16 z17 (if z17 < (0 : Int32) then (0 : Int32) else (if z17 < (26 : Int32) then (1 : Int32) else (0 : Int32))))
def F0_2 (q1 : Int32) (z15 : Int32) (z16 : Int32) : Int32 := (F0_3 q1 z15 z16 (z16 - (97 : Int32)))
def F0_1 (q1 : Int32) (z15 : Int32) : Int32 := (F0_2 q1 z15 (z15 ||| (32 : Int32)))
def F0 (q1 : Int32) : Int32 := (F0_1 q1 (q1 &&& (65535 : Int32)).toUInt32.toUInt16.toUInt32.toInt32)
theorem ef0_rm0 (m : MethodId) (q1 : Int32) : entryFrame m #[(.int q1)] maxLocals = (mkF m 0 #[.val (.int q1), .unset, .unset, .unset, .unset, .unset, .unset, .unset] []) := by first | (simp [entryFrame, mkF, argsToLocals, Value.category, maxLocals]; done) | rfl
set_option maxRecDepth 65536 in
set_option maxHeartbeats 40000000 in
theorem rm0 (l : Launch) (Z : State) (a0 : Array Value) (hw : ∀ d ∈ tables_1, d.before a0 Z = true) (ws : List Jvm.Cond) (q1 : Int32)  (h0 : Heap) (n0 : Nat)  :
    MetFree l x (head1 (Jvm.Cond.code x code maxLocals ret :: ws) room_1) (fun a U => a = #[(.int q1)] ∧ Z.Warmed39 U.vm ∧ U.heap = h0) (fun _ _ _ _ _ => True) (fun _ U o U' => ∃ v L, o = .returned v ∧ (ValQ (.int (F0 q1)) n0) v U'.heap L ∧ FrameEnd U o U' L room_1.cells room_1.slots) := by
  refine MetFree.of_bodySF (plainFor_of_name pn_com_example_throttle_throttle_SipSyntaxIsAlphanumericPinLaw) hisR ?_
  intro p e s m args below meth c s₁ Bd hml0 hP hK
  obtain ⟨rfl, hZ, hh⟩ := hP
  have hx := Bd.exec
  have hby := Bd.bytes
  have hml : c.maxLocals = 8 := hml0
  have hown : s.vm.findClass "com/example/throttle/throttle/SipSyntaxIsAlphanumericPinLaw" = some m.cls := findClass_of_methodNamed Bd.named
  have hnm := (name_of_methodNamed Bd.named Bd.method).1
  have X0 : Stand p l e room_1 s m #[(.int q1)] below meth c s₁ [] 0 0 := Stand.of_body Bd
  have e0 : s₁.heap = h0 := by rw [← hh, Bd.state]; rfl
  have N0 := Fr.nil n0
  refine GoW.mk ?_
  refine GoW.st (fun t k => castTop (ef0_rm0 m q1) k) ?_
  show GoW p e below s (ValQ (.int (F0 q1)) n0) room_1.cells room_1.slots (s₁.setTop (mkF m 0 (K0 q1) []))
  refine GoW.sg (mkF m 1 (K0 q1) [(.int q1)]) (fun t k => XS.iloadN X0.here hx rfl (hb hby at_0) rfl k) ?_
  refine GoW.sg (mkF m 3 (K0 q1) [(.int 65535), (.int q1)]) (fun t k => X0.ldcInt hx hown (mvT hZ (ww hw 0 rfl)) (g := (mkF m 1 (K0 q1) [(.int q1)])) rfl (hb hby at_1) t k) ?_
  refine GoW.sg (mkF m 4 (K0 q1) [(.int (q1 &&& (65535 : Int32)))]) (fun t k => XS.iand X0.here hx rfl (hb hby at_3) rfl k) ?_
  refine GoW.sg (mkF m 5 (K0 q1) [(.int (q1 &&& (65535 : Int32)).toUInt32.toUInt16.toUInt32.toInt32)]) (fun t k => XS.i2c X0.here hx rfl (hb hby at_4) rfl k) ?_
  refine GoW.sg (mkF m 6 (K1 q1 ((q1 &&& (65535 : Int32)).toUInt32.toUInt16.toUInt32.toInt32)) []) (fun t k => XS.istoreN X0.here hx rfl (hb hby at_5) rfl (l' := (K1 q1 ((q1 &&& (65535 : Int32)).toUInt32.toUInt16.toUInt32.toInt32))) rfl k) ?_
  obtain ⟨z15, hz15⟩ : ∃ z : Int32, z = (q1 &&& (65535 : Int32)).toUInt32.toUInt16.toUInt32.toInt32 := ⟨_, rfl⟩
  rw [← hz15]
  have hFz15 : (F0 q1) = (F0_1 q1 z15) := by unfold F0; rw [hz15]
  show GoW p e below s (ValQ (.int (F0 q1)) n0) room_1.cells room_1.slots (s₁.setTop (mkF m 6 (K1 q1 z15) []))
  refine GoW.sg (mkF m 7 (K1 q1 z15) [(.int z15)]) (fun t k => XS.iloadN X0.here hx rfl (hb hby at_6) rfl k) ?_
  refine GoW.sg (mkF m 9 (K1 q1 z15) [(.int 32), (.int z15)]) (fun t k => XS.bipush X0.here hx rfl (hb hby at_7) k) ?_
  refine GoW.sg (mkF m 10 (K1 q1 z15) [(.int (z15 ||| (32 : Int32)))]) (fun t k => XS.ior X0.here hx rfl (hb hby at_9) rfl k) ?_
  refine GoW.sg (mkF m 11 (K2 q1 z15 (z15 ||| (32 : Int32))) []) (fun t k => XS.istoreN X0.here hx rfl (hb hby at_10) rfl (l' := (K2 q1 z15 (z15 ||| (32 : Int32)))) rfl k) ?_
  obtain ⟨z16, hz16⟩ : ∃ z : Int32, z = (z15 ||| (32 : Int32)) := ⟨_, rfl⟩
  rw [← hz16]
  have hFz16 : (F0_1 q1 z15) = (F0_2 q1 z15 z16) := by unfold F0_1; rw [hz16]
  show GoW p e below s (ValQ (.int (F0 q1)) n0) room_1.cells room_1.slots (s₁.setTop (mkF m 11 (K2 q1 z15 z16) []))
  refine GoW.sg (mkF m 12 (K2 q1 z15 z16) [(.int z16)]) (fun t k => XS.iloadN X0.here hx rfl (hb hby at_11) rfl k) ?_
  refine GoW.sg (mkF m 14 (K2 q1 z15 z16) [(.int 97), (.int z16)]) (fun t k => XS.bipush X0.here hx rfl (hb hby at_12) k) ?_
  refine GoW.sg (mkF m 15 (K2 q1 z15 z16) [(.int (z16 - (97 : Int32)))]) (fun t k => XS.isub X0.here hx rfl (hb hby at_14) rfl k) ?_
  refine GoW.sg (mkF m 16 (K3 q1 z15 z16 (z16 - (97 : Int32))) []) (fun t k => XS.istoreN X0.here hx rfl (hb hby at_15) rfl (l' := (K3 q1 z15 z16 (z16 - (97 : Int32)))) rfl k) ?_
  obtain ⟨z17, hz17⟩ : ∃ z : Int32, z = (z16 - (97 : Int32)) := ⟨_, rfl⟩
  rw [← hz17]
  have hFz17 : (F0_2 q1 z15 z16) = (F0_3 q1 z15 z16 z17) := by unfold F0_2; rw [hz17]
  show GoW p e below s (ValQ (.int (F0 q1)) n0) room_1.cells room_1.slots (s₁.setTop (mkF m 16 (K3 q1 z15 z16 z17) []))
  refine GoW.sg (mkF m 17 (K3 q1 z15 z16 z17) [(.int z17)]) (fun t k => XS.iloadN X0.here hx rfl (hb hby at_16) rfl k) ?_
  have J31_21 : ∀ b20 : Int32, b20 = (if z17 < (0 : Int32) then (0 : Int32) else (if z17 < (26 : Int32) then (1 : Int32) else (0 : Int32))) → GoW p e below s (ValQ (.int (F0 q1)) n0) room_1.cells room_1.slots (s₁.setTop (mkF m 31 (K3 q1 z15 z16 z17) [(.int b20)])) := by
    intro b20 hb20
    have hFb20 : (F0_3 q1 z15 z16 z17) = (F0_4 q1 z15 z16 z17 b20) := by unfold F0_3; rw [hb20]
    refine GoW.sg (mkF m 33 (K4 q1 z15 z16 z17 b20) []) (fun t k => XS.istore X0.here hx rfl (hb hby at_31) rfl (l' := (K4 q1 z15 z16 z17 b20)) rfl k) ?_
    refine GoW.sg (mkF m 34 (K4 q1 z15 z16 z17 b20) [(.int z15)]) (fun t k => XS.iloadN X0.here hx rfl (hb hby at_33) rfl k) ?_
    refine GoW.sg (mkF m 36 (K4 q1 z15 z16 z17 b20) [(.int 48), (.int z15)]) (fun t k => XS.bipush X0.here hx rfl (hb hby at_34) k) ?_
    refine GoW.sg (mkF m 37 (K4 q1 z15 z16 z17 b20) [(.int (z15 - (48 : Int32)))]) (fun t k => XS.isub X0.here hx rfl (hb hby at_36) rfl k) ?_
    refine GoW.sg (mkF m 39 (K5 q1 z15 z16 z17 b20 (z15 - (48 : Int32))) []) (fun t k => XS.istore X0.here hx rfl (hb hby at_37) rfl (l' := (K5 q1 z15 z16 z17 b20 (z15 - (48 : Int32)))) rfl k) ?_
    obtain ⟨z24, hz24⟩ : ∃ z : Int32, z = (z15 - (48 : Int32)) := ⟨_, rfl⟩
    rw [← hz24]
    have hFz24 : (F0_4 q1 z15 z16 z17 b20) = (F0_5 q1 z15 z16 z17 b20 z24) := by unfold F0_4; rw [hz24]
    show GoW p e below s (ValQ (.int (F0 q1)) n0) room_1.cells room_1.slots (s₁.setTop (mkF m 39 (K5 q1 z15 z16 z17 b20 z24) []))
    refine GoW.sg (mkF m 41 (K5 q1 z15 z16 z17 b20 z24) [(.int z24)]) (fun t k => XS.iload X0.here hx rfl (hb hby at_39) rfl k) ?_
    have J56_28 : ∀ b27 : Int32, b27 = (if z24 < (0 : Int32) then (0 : Int32) else (if z24 < (10 : Int32) then (1 : Int32) else (0 : Int32))) → GoW p e below s (ValQ (.int (F0 q1)) n0) room_1.cells room_1.slots (s₁.setTop (mkF m 56 (K5 q1 z15 z16 z17 b20 z24) [(.int b27)])) := by
      intro b27 hb27
      have hFb27 : (F0_5 q1 z15 z16 z17 b20 z24) = (F0_6 q1 z15 z16 z17 b20 z24 b27) := by unfold F0_5; rw [hb27]
      refine GoW.sg (mkF m 58 (K6 q1 z15 z16 z17 b20 z24 b27) []) (fun t k => XS.istore X0.here hx rfl (hb hby at_56) rfl (l' := (K6 q1 z15 z16 z17 b20 z24 b27)) rfl k) ?_
      refine GoW.sg (mkF m 60 (K6 q1 z15 z16 z17 b20 z24 b27) [(.int b20)]) (fun t k => XS.iload X0.here hx rfl (hb hby at_58) rfl k) ?_
      have J73_34 : ∀ b33 : Int32, b33 = (if b20 = (0 : Int32) then (if b27 = (0 : Int32) then (0 : Int32) else (1 : Int32)) else (1 : Int32)) → GoW p e below s (ValQ (.int (F0 q1)) n0) room_1.cells room_1.slots (s₁.setTop (mkF m 73 (K6 q1 z15 z16 z17 b20 z24 b27) [(.int b33)])) := by
        intro b33 hb33
        have hFb33 : (F0_6 q1 z15 z16 z17 b20 z24 b27) = (F0_7 q1 z15 z16 z17 b20 z24 b27 b33) := by unfold F0_6; rw [hb33]
        refine GoW.sg (mkF m 75 (K7 q1 z15 z16 z17 b20 z24 b27 b33) []) (fun t k => XS.istore X0.here hx rfl (hb hby at_73) rfl (l' := (K7 q1 z15 z16 z17 b20 z24 b27 b33)) rfl k) ?_
        refine GoW.sg (mkF m 76 (K7 q1 z15 z16 z17 b20 z24 b27 b33) [(.int z15)]) (fun t k => XS.iloadN X0.here hx rfl (hb hby at_75) rfl k) ?_
        obtain ⟨_, _, ⟨T37, L37, k37, n37⟩, -, X37, ⟨Lc37, hQ37, l37, y37, z37⟩, st37⟩ := Jvm.LawKit.callS X0 hx (y := (⟨"com/example/throttle/throttle/SipSyntax", "isAlphanumeric", "(C)Z"⟩ : MethodName)) hown (mvT hZ (ww hw 1 rfl)) (mvT hZ (ww hw 2 rfl)) (mvT hZ (ww hw 3 rfl)) (mvT hZ (ww hw 4 rfl)) (by decide) (backOf (W := 0) (rm1 l Z a0 hw [] z15 h0 n0) hZ (ww hw 4 rfl) (ww hw 3 rfl) (by decide) (by decide)) (g := (mkF m 76 (K7 q1 z15 z16 z17 b20 z24 b27 b33) [(.int z15)])) rfl (by rw [hml]; rfl) (argsL := [(.int z15)]) (rest := []) (lenOf pd_28C29Z rfl) rfl (by show 2 * 0 + _ ≤ _; exact Nat.le_of_eq rfl) (hb hby at_76) (fun _ _ => ⟨rfl, e0, (by decide : 0 + 0 ≤ _), (by decide : 0 + 0 ≤ _)⟩)
        dsimp only [Pt.U, Pt.locs, Pt.cells, Pt.slots] at X37 l37 y37 z37 st37 hQ37
        subst l37 y37 z37
        obtain ⟨rfl, N37q, e37⟩ := hQ37
        have N37 := Fr.app N0 N37q
        refine GoW.sg (mkF m 79 (K7 q1 z15 z16 z17 b20 z24 b27 b33) [(.int (F1 z15))]) (fun t k => st37 t k) ?_
        refine GoW.sg (mkF m 81 (K7 q1 z15 z16 z17 b20 z24 b27 b33) [(.int b33), (.int (F1 z15))]) (fun t k => XS.iload X37.here hx rfl (hb hby at_79) rfl k) ?_
        by_cases c38 : (F1 z15) = b33
        · refine GoW.sg (mkF m 84 (K7 q1 z15 z16 z17 b20 z24 b27 b33) []) (fun t k => XS.icmpNo X37.here hx rfl (hb hby at_81) rfl (teq c38).2 k) ?_
          refine GoW.sg (mkF m 85 (K7 q1 z15 z16 z17 b20 z24 b27 b33) [(.int 1)]) (fun t k => XS.iconst X37.here hx rfl (hb hby at_84) k) ?_
          refine GoW.sg (mkF m 89 (K7 q1 z15 z16 z17 b20 z24 b27 b33) [(.int 1)]) (fun t k => XS.goto X37.here hx rfl (pc0 := 85) (pc' := 89) rfl (hb hby at_85) (by decide) (by decide) k) ?_
          refine GoW.retN X37 hx (t := .boolean) Bd.returns (by simp) (hb hby at_89) Bd.notSynchronized ?_ (by decide) (by decide)
          have hq : (F0 q1) = (1 : Int32) := by rw [hFz15, hFz16, hFz17, hFb20, hFz24, hFb27, hFb33]; unfold F0_7; rw [if_pos c38]; try rfl
          exact ⟨by rw [hq]; rfl, N37⟩
        · refine GoW.sg (mkF m 88 (K7 q1 z15 z16 z17 b20 z24 b27 b33) []) (fun t k => XS.icmpYes X37.here hx rfl (pc0 := 81) (pc' := 88) rfl (hb hby at_81) rfl (feq c38).2 (by decide) (by decide) k) ?_
          refine GoW.sg (mkF m 89 (K7 q1 z15 z16 z17 b20 z24 b27 b33) [(.int 0)]) (fun t k => XS.iconst X37.here hx rfl (hb hby at_88) k) ?_
          refine GoW.retN X37 hx (t := .boolean) Bd.returns (by simp) (hb hby at_89) Bd.notSynchronized ?_ (by decide) (by decide)
          have hq : (F0 q1) = (0 : Int32) := by rw [hFz15, hFz16, hFz17, hFb20, hFz24, hFb27, hFb33]; unfold F0_7; rw [if_neg c38]; try rfl
          exact ⟨by rw [hq]; rfl, N37⟩
      by_cases c35 : b20 = (0 : Int32)
      · refine GoW.sg (mkF m 63 (K6 q1 z15 z16 z17 b20 z24 b27) []) (fun t k => XS.ifNo X0.here hx rfl (hb hby at_60) rfl ((if0 _ _).trans (teq c35).2) k) ?_
        refine GoW.sg (mkF m 65 (K6 q1 z15 z16 z17 b20 z24 b27) [(.int b27)]) (fun t k => XS.iload X0.here hx rfl (hb hby at_63) rfl k) ?_
        by_cases c36 : b27 = (0 : Int32)
        · refine GoW.sg (mkF m 72 (K6 q1 z15 z16 z17 b20 z24 b27) []) (fun t k => XS.ifYes X0.here hx rfl (pc0 := 65) (pc' := 72) rfl (hb hby at_65) rfl ((if0 _ _).trans (teq c36).1) (by decide) (by decide) k) ?_
          refine GoW.sg (mkF m 73 (K6 q1 z15 z16 z17 b20 z24 b27) [(.int 0)]) (fun t k => XS.iconst X0.here hx rfl (hb hby at_72) k) ?_
          exact J73_34 _ (by rw [if_pos c35, if_pos c36])
        · refine GoW.sg (mkF m 68 (K6 q1 z15 z16 z17 b20 z24 b27) []) (fun t k => XS.ifNo X0.here hx rfl (hb hby at_65) rfl ((if0 _ _).trans (feq c36).1) k) ?_
          refine GoW.sg (mkF m 69 (K6 q1 z15 z16 z17 b20 z24 b27) [(.int 1)]) (fun t k => XS.iconst X0.here hx rfl (hb hby at_68) k) ?_
          refine GoW.sg (mkF m 73 (K6 q1 z15 z16 z17 b20 z24 b27) [(.int 1)]) (fun t k => XS.goto X0.here hx rfl (pc0 := 69) (pc' := 73) rfl (hb hby at_69) (by decide) (by decide) k) ?_
          exact J73_34 _ (by rw [if_pos c35, if_neg c36])
      · refine GoW.sg (mkF m 68 (K6 q1 z15 z16 z17 b20 z24 b27) []) (fun t k => XS.ifYes X0.here hx rfl (pc0 := 60) (pc' := 68) rfl (hb hby at_60) rfl ((if0 _ _).trans (feq c35).2) (by decide) (by decide) k) ?_
        refine GoW.sg (mkF m 69 (K6 q1 z15 z16 z17 b20 z24 b27) [(.int 1)]) (fun t k => XS.iconst X0.here hx rfl (hb hby at_68) k) ?_
        refine GoW.sg (mkF m 73 (K6 q1 z15 z16 z17 b20 z24 b27) [(.int 1)]) (fun t k => XS.goto X0.here hx rfl (pc0 := 69) (pc' := 73) rfl (hb hby at_69) (by decide) (by decide) k) ?_
        exact J73_34 _ (by rw [if_neg c35])
    by_cases c29 : z24 < (0 : Int32)
    · refine GoW.sg (mkF m 55 (K5 q1 z15 z16 z17 b20 z24) []) (fun t k => XS.ifYes X0.here hx rfl (pc0 := 41) (pc' := 55) rfl (hb hby at_41) rfl ((if0 _ _).trans (tlt c29).1) (by decide) (by decide) k) ?_
      refine GoW.sg (mkF m 56 (K5 q1 z15 z16 z17 b20 z24) [(.int 0)]) (fun t k => XS.iconst X0.here hx rfl (hb hby at_55) k) ?_
      exact J56_28 _ (by rw [if_pos c29])
    · refine GoW.sg (mkF m 44 (K5 q1 z15 z16 z17 b20 z24) []) (fun t k => XS.ifNo X0.here hx rfl (hb hby at_41) rfl ((if0 _ _).trans (flt c29).1) k) ?_
      refine GoW.sg (mkF m 46 (K5 q1 z15 z16 z17 b20 z24) [(.int z24)]) (fun t k => XS.iload X0.here hx rfl (hb hby at_44) rfl k) ?_
      refine GoW.sg (mkF m 48 (K5 q1 z15 z16 z17 b20 z24) [(.int 10), (.int z24)]) (fun t k => XS.bipush X0.here hx rfl (hb hby at_46) k) ?_
      by_cases c30 : z24 < (10 : Int32)
      · refine GoW.sg (mkF m 51 (K5 q1 z15 z16 z17 b20 z24) []) (fun t k => XS.icmpNo X0.here hx rfl (hb hby at_48) rfl (tlt c30).2.1 k) ?_
        refine GoW.sg (mkF m 52 (K5 q1 z15 z16 z17 b20 z24) [(.int 1)]) (fun t k => XS.iconst X0.here hx rfl (hb hby at_51) k) ?_
        refine GoW.sg (mkF m 56 (K5 q1 z15 z16 z17 b20 z24) [(.int 1)]) (fun t k => XS.goto X0.here hx rfl (pc0 := 52) (pc' := 56) rfl (hb hby at_52) (by decide) (by decide) k) ?_
        exact J56_28 _ (by rw [if_neg c29, if_pos c30])
      · refine GoW.sg (mkF m 55 (K5 q1 z15 z16 z17 b20 z24) []) (fun t k => XS.icmpYes X0.here hx rfl (pc0 := 48) (pc' := 55) rfl (hb hby at_48) rfl (flt c30).2.1 (by decide) (by decide) k) ?_
        refine GoW.sg (mkF m 56 (K5 q1 z15 z16 z17 b20 z24) [(.int 0)]) (fun t k => XS.iconst X0.here hx rfl (hb hby at_55) k) ?_
        exact J56_28 _ (by rw [if_neg c29, if_neg c30])
  by_cases c22 : z17 < (0 : Int32)
  · refine GoW.sg (mkF m 30 (K3 q1 z15 z16 z17) []) (fun t k => XS.ifYes X0.here hx rfl (pc0 := 17) (pc' := 30) rfl (hb hby at_17) rfl ((if0 _ _).trans (tlt c22).1) (by decide) (by decide) k) ?_
    refine GoW.sg (mkF m 31 (K3 q1 z15 z16 z17) [(.int 0)]) (fun t k => XS.iconst X0.here hx rfl (hb hby at_30) k) ?_
    exact J31_21 _ (by rw [if_pos c22])
  · refine GoW.sg (mkF m 20 (K3 q1 z15 z16 z17) []) (fun t k => XS.ifNo X0.here hx rfl (hb hby at_17) rfl ((if0 _ _).trans (flt c22).1) k) ?_
    refine GoW.sg (mkF m 21 (K3 q1 z15 z16 z17) [(.int z17)]) (fun t k => XS.iloadN X0.here hx rfl (hb hby at_20) rfl k) ?_
    refine GoW.sg (mkF m 23 (K3 q1 z15 z16 z17) [(.int 26), (.int z17)]) (fun t k => XS.bipush X0.here hx rfl (hb hby at_21) k) ?_
    by_cases c23 : z17 < (26 : Int32)
    · refine GoW.sg (mkF m 26 (K3 q1 z15 z16 z17) []) (fun t k => XS.icmpNo X0.here hx rfl (hb hby at_23) rfl (tlt c23).2.1 k) ?_
      refine GoW.sg (mkF m 27 (K3 q1 z15 z16 z17) [(.int 1)]) (fun t k => XS.iconst X0.here hx rfl (hb hby at_26) k) ?_
      refine GoW.sg (mkF m 31 (K3 q1 z15 z16 z17) [(.int 1)]) (fun t k => XS.goto X0.here hx rfl (pc0 := 27) (pc' := 31) rfl (hb hby at_27) (by decide) (by decide) k) ?_
      exact J31_21 _ (by rw [if_neg c22, if_pos c23])
    · refine GoW.sg (mkF m 30 (K3 q1 z15 z16 z17) []) (fun t k => XS.icmpYes X0.here hx rfl (pc0 := 23) (pc' := 30) rfl (hb hby at_23) rfl (flt c23).2.1 (by decide) (by decide) k) ?_
      refine GoW.sg (mkF m 31 (K3 q1 z15 z16 z17) [(.int 0)]) (fun t k => XS.iconst X0.here hx rfl (hb hby at_30) k) ?_
      exact J31_21 _ (by rw [if_neg c22, if_neg c23])
theorem own_small : ∀ k : Fin 128, F0_1 0 (Int32.ofNat k.val) = 1 := by decide +kernel
theorem own_or (c : Int32) (h : 0 ≤ c.toInt) : c.toInt ≤ (c ||| 32).toInt := by
  have h1 : (c ||| 32).toBitVec.toNat = c.toBitVec.toNat ||| 32 := by show (c.toBitVec ||| (32 : Int32).toBitVec).toNat = _; rw [BitVec.toNat_or]; rfl
  have h2 : c.toBitVec.toNat ≤ c.toBitVec.toNat ||| 32 := Nat.left_le_or
  have h3 := c.toBitVec.isLt
  change 0 ≤ c.toBitVec.toInt at h
  show c.toBitVec.toInt ≤ (c ||| 32).toBitVec.toInt
  have h4 : c.toBitVec.toNat < 2 ^ 31 := by rw [BitVec.toInt_eq_toNat_cond] at h; split at h <;> omega
  have h5 : c.toBitVec.toNat ||| 32 < 2 ^ 31 := Nat.or_lt_two_pow h4 (by decide)
  rw [BitVec.toInt_eq_toNat_cond, BitVec.toInt_eq_toNat_cond, h1, if_pos (by omega), if_pos (by omega)]
  omega
theorem own_law (q1 : Int32) : F0 q1 = 1 := by
  have h := c_i2c (q1 &&& 65535)
  unfold F0
  generalize (q1 &&& (65535 : Int32)).toUInt32.toUInt16.toUInt32.toInt32 = c at *
  rw [show F0_1 q1 c = F0_1 0 c from rfl]
  by_cases hc : c.toInt < 128
  · have hk : c = Int32.ofNat c.toInt.toNat := Int32.toInt_inj.mp (by rw [Int32.toInt_ofNat_small (by omega)]; omega)
    rw [hk]; exact own_small ⟨c.toInt.toNat, by omega⟩
  · have h1 := own_or c (by omega)
    have h2 := c_isub (c ||| 32) 97
    have h3 := c_isub c 48
    have h4 := rng32 (c ||| 32)
    have h5 := rng32 ((c ||| 32) - 97)
    have h6 := rng32 (c - 48)
    have e97 : (97 : Int32).toInt = 97 := rfl
    have e48 : (48 : Int32).toInt = 48 := rfl
    rw [e97] at h2; rw [e48] at h3
    unfold F0_1 F0_2 F0_3 F0_4 F0_5 F0_6 F0_7 F1
    generalize (c ||| 32) - 97 = u at *
    generalize c - 48 = v at *
    have n1 : ¬ c < (97 : Int32) := by rw [Int32.lt_iff_toInt_lt]; show ¬ c.toInt < 97; omega
    have n2 : (122 : Int32) < c := by rw [Int32.lt_iff_toInt_lt]; show 122 < c.toInt; omega
    have n3 : ¬ c < (65 : Int32) := by rw [Int32.lt_iff_toInt_lt]; show ¬ c.toInt < 65; omega
    have n4 : (90 : Int32) < c := by rw [Int32.lt_iff_toInt_lt]; show 90 < c.toInt; omega
    have n5 : ¬ c < (48 : Int32) := by rw [Int32.lt_iff_toInt_lt]; show ¬ c.toInt < 48; omega
    have n6 : (57 : Int32) < c := by rw [Int32.lt_iff_toInt_lt]; show 57 < c.toInt; omega
    have m1 : ¬ u < (0 : Int32) := by rw [Int32.lt_iff_toInt_lt]; show ¬ u.toInt < 0; omega
    have m2 : ¬ u < (26 : Int32) := by rw [Int32.lt_iff_toInt_lt]; show ¬ u.toInt < 26; omega
    have m3 : ¬ v < (0 : Int32) := by rw [Int32.lt_iff_toInt_lt]; show ¬ v.toInt < 0; omega
    have m4 : ¬ v < (10 : Int32) := by rw [Int32.lt_iff_toInt_lt]; show ¬ v.toInt < 10; omega
    simp only [if_neg n1, if_pos n2, if_neg n3, if_pos n4, if_neg n5, if_pos n6, if_neg m1, if_neg m2, if_neg m3, if_neg m4, if_true]

set_option maxRecDepth 65536 in
set_option maxHeartbeats 40000000 in
theorem comes_1 {Post : Tables → Env → Array Value → State → Outcome → State → Prop} (hpost : ∀ tb e args s v u, (limb_1_1.after args s (.returned v) u = true ∧ limb_1_2.after args s (.returned v) u = true ∧ True) → FrameEnd s (.returned v) u (Jvm.fieldLocs frame_1_writes args s ++ Jvm.arrayLocs frame_1_arrays args s ++ Jvm.staticLocs frame_1_statics s) 0 0 → Post tb e args s (.returned v) u) :
    ArmFor flags0 classFile x code maxLocals ret World_1 tables_1 room_1 Calls_1 rest_1 Pre_1 Post := by
  intro l hfl _ _ p e ha hc hk s m args below hf hA hF happ hP
  obtain ⟨hcalls, hrest, hpre⟩ := hP
  obtain ⟨-, -, -, hnamed, -, -, -, hat⟩ := (Spec.applies_iff hf).mp happ
  obtain ⟨hg, hn⟩ := and_e (Cond.before_iff.mp (show (Jvm.Cond.and given_1 narrow_1).before args s = true from hpre))
  obtain ⟨ga0, gb0⟩ := and_e hg
  obtain ⟨w0, rfl⟩ : ∃ w0 : Value, args = #[w0] := by
    have hs : args.size = 1 := by simpa [Cond.value, given_1] using ga0
    obtain ⟨L⟩ := args
    match L, hs with
    | [w0], _ => exact ⟨w0, rfl⟩
  have hw := fun d (hd : d ∈ tables_1) => atoms_spec (ws := Jvm.Cond.code x code maxLocals ret :: tables_1) hat d (List.mem_cons_of_mem _ hd)
  have hfit : Fit s := fun {y c} hc i hi => by
    obtain ⟨ha, rfl⟩ := Array.getElem?_eq_some_iff.mp hc
    have q := List.all_eq_true.mp ((Array.all_eq_true_iff_forall_mem.mp hF) _ (Array.getElem_mem ha)) i (List.mem_range.mpr hi)
    simpa [Array.getElem?_eq_getElem hi] using q
  obtain ⟨i0, ei0⟩ := is_v gb0
  obtain rfl : w0 = (.int i0) := Option.some.inj ei0
  obtain ⟨n, o, h1, h2, h3, v, L, rfl, ⟨hv, N⟩, hq⟩ := rm0 l s _ hw tables_1 i0  s.heap s.heap.size   p e ha hc hk s m _ below hf ((Spec.applies_iff_loose hf).mp happ).1 ⟨rfl, State.Warmed39.refl s, rfl⟩ trivial
  rw [own_law i0] at hv
  subst hv
  refine ⟨n, _, h1, h2, h3, hpost _ _ _ _ _ _ ⟨Cond.after_iff.mpr rfl, Cond.after_iff.mpr (eq_i res_at (Term.int_eval (1)) rfl), trivial⟩ ⟨hq.1, hq.2.1, (hq.2.2.sift fun y hy => Or.inr (N y hy)).mono (by decide) (by decide)⟩⟩
theorem main_1_1 : Claimed_1_1 := comes_1 fun _ _ _ _ _ _ h hF => ⟨h.1, hF⟩
theorem main_1_2 : Claimed_1_2 := comes_1 fun _ _ _ _ _ _ h hF => ⟨h.2.1, hF⟩
end Jvm.Pilot.@@N@@
namespace Jvm.Pilot.@@N@@
open Jvm Jvm.ClassFile Sem Op Lib Jvm.Free Jvm.Stand Jvm.Pilot.@@N@@.Jvm.D
/-! MADE BY PROGRAM (witnessworld.py) out of the Statement's table words and the real class files: 7 classes; the members and pool entries that the words name. The judged class is class 1, her method 1. -/
namespace start1
open Jvm.ClassFile
def u (s : String) : CpInfo := .utf8 (stringToUtf16 s)
/-- a pool by its gaps: so many unusable entries, then the entry; so many at the end -/
def gap : Nat → List CpInfo → List CpInfo
  | 0, r => r
  | n + 1, r => .unusable :: gap n r
def poolList (es : List (Nat × CpInfo)) (last : Nat) : List CpInfo := es.foldr (fun e r => gap e.1 (e.2 :: r)) (gap last [])
def pool (es : List (Nat × CpInfo)) (last : Nat) : Array CpInfo := ⟨poolList es last⟩
def fileOf (pool : Array CpInfo) (this : Nat) (attrs : Array Attribute := #[]) (ms : Array MethodInfo := #[]) (fl : Nat := 33) (sup : Nat := 0) (ifs : Array Nat := #[]) (fds : Array FieldInfo := #[]) : ClassFile where
  minorVersion := 0
  majorVersion := 65
  constantPool := pool
  accessFlags := fl
  thisClass := this
  superClass := sup
  interfaces := ifs
  fields := fds
  methods := ms
  attributes := attrs
def plain (name : String) (sup : Option ClassId) : Class where
  name := name
  kind := .ordinary
  loader := none
  accessFlags := 33
  super := sup
  interfaces := #[]
  cf := none
  fields := #[]
  methods := #[]
  instanceTypes := #[]
  staticTypes := #[]
  resolved := #[]
  callSites := []
  init := .initialized
  statics := none
  mirror := none

def pool0 : Array CpInfo := pool [(5, u "<init>"), (0, u "()V"), (1, .class_ 10), (1, u "java/lang/Object")] 113

def k0m0 : Method := { name := "<init>", desc := "()V", sig := { parameters := [], returnType := none }, accessFlags := 1, code := none }
/-- java/lang/Object -/
def k0 : Class := { plain "java/lang/Object" none with
  accessFlags := 33
  interfaces := #[]
  cf := some (fileOf pool0 8 #[] #[{ accessFlags := 1, nameIndex := 5, descriptorIndex := 6, attributes := #[] }] 33 0 #[] #[])
  fields := #[]
  methods := #[k0m0]
  instanceTypes := #[]
  staticTypes := #[]
  resolved := Array.replicate 124 none
  statics := none }

def pool1 : Array CpInfo := pool [(2, .class_ 4), (1, u "java/lang/Object"), (0, u "<init>"), (0, u "()V"), (0, .integer 65535), (0, .methodref 9 10), (0, .class_ 11), (0, .nameAndType 12 13), (0, u "com/example/throttle/throttle/SipSyntax"), (0, u "isAlphanumeric"), (0, u "(C)Z"), (0, .class_ 15), (0, u "com/example/throttle/throttle/SipSyntaxIsAlphanumericPinLaw"), (2, u "law"), (0, u "(I)Z")] 3

def k1m0 : Method := { name := "<init>", desc := "()V", sig := { parameters := [], returnType := none }, accessFlags := 2, code := none }
def k1c1 : Code := { maxStack := 2, maxLocals := 8, code := code, exceptionTable := #[], attributes := #[] }
def k1m1 : Method := { name := "law", desc := "(I)Z", sig := { parameters := [.int], returnType := some .boolean }, accessFlags := 9, code := some k1c1 }
/-- com/example/throttle/throttle/SipSyntaxIsAlphanumericPinLaw -/
def k1 : Class := { plain "com/example/throttle/throttle/SipSyntaxIsAlphanumericPinLaw" (some 0) with
  accessFlags := 49
  interfaces := #[]
  cf := some (fileOf pool1 14 #[] #[{ accessFlags := 2, nameIndex := 5, descriptorIndex := 6, attributes := #[] }, { accessFlags := 9, nameIndex := 18, descriptorIndex := 19, attributes := #[] }] 49 2 #[] #[])
  fields := #[]
  methods := #[k1m0, k1m1]
  instanceTypes := #[]
  staticTypes := #[]
  resolved := Array.replicate 23 none
  statics := none }

def pool2 : Array CpInfo := pool [(2, .class_ 4), (1, u "java/lang/Object"), (0, u "<init>"), (0, u "()V"), (15, .class_ 24), (1, u "com/example/throttle/throttle/SipSyntax"), (0, u "isAlphanumeric"), (0, u "(C)Z")] 17

def k2m0 : Method := { name := "<init>", desc := "()V", sig := { parameters := [], returnType := none }, accessFlags := 2, code := none }
def k2c1 : Code := { maxStack := 2, maxLocals := 1, code := prog_10_method_4_code, exceptionTable := #[], attributes := #[] }
def k2m1 : Method := { name := "isAlphanumeric", desc := "(C)Z", sig := { parameters := [.char], returnType := some .boolean }, accessFlags := 8, code := some k2c1 }
/-- com/example/throttle/throttle/SipSyntax -/
def k2 : Class := { plain "com/example/throttle/throttle/SipSyntax" (some 0) with
  accessFlags := 32
  interfaces := #[]
  cf := some (fileOf pool2 22 #[] #[{ accessFlags := 2, nameIndex := 5, descriptorIndex := 6, attributes := #[] }, { accessFlags := 8, nameIndex := 25, descriptorIndex := 26, attributes := #[] }] 32 2 #[] #[])
  fields := #[]
  methods := #[k2m0, k2m1]
  instanceTypes := #[]
  staticTypes := #[]
  resolved := Array.replicate 44 none
  statics := none }

def pool3 : Array CpInfo := pool [(1, u "java/lang/Cloneable"), (0, .class_ 1), (0, u "java/lang/Object"), (0, .class_ 3)] 3

/-- java/lang/Cloneable -/
def k3 : Class := { plain "java/lang/Cloneable" (some 0) with
  accessFlags := 1537
  interfaces := #[]
  cf := some (fileOf pool3 2 #[] #[] 1537 4 #[] #[])
  fields := #[]
  methods := #[]
  instanceTypes := #[]
  staticTypes := #[]
  resolved := Array.replicate 8 none
  statics := none }

def pool4 : Array CpInfo := pool [(1, u "java/io/Serializable"), (0, .class_ 1), (0, u "java/lang/Object"), (0, .class_ 3)] 3

/-- java/io/Serializable -/
def k4 : Class := { plain "java/io/Serializable" (some 0) with
  accessFlags := 1537
  interfaces := #[]
  cf := some (fileOf pool4 2 #[] #[] 1537 4 #[] #[])
  fields := #[]
  methods := #[]
  instanceTypes := #[]
  staticTypes := #[]
  resolved := Array.replicate 8 none
  statics := none }

/-- the primitive byte -/
def k5 : Class := { plain "byte" none with kind := .primitive 'B', accessFlags := 0x411 }
/-- [B -/
def k6 : Class := { plain "[B" (some 0) with kind := .array 5 .byte, interfaces := #[3, 4], accessFlags := 1041 }

def heap : Heap := #[]
def classes : Array Class := #[k0, k1, k2, k3, k4, k5, k6]
def interned : List (Array UInt16 × Addr) := []
def slotsUsed : Nat := 0
def theMethod : MethodId := ⟨1, 1⟩
def args0 : Array Value := #[.int 65]
def aboutOver (below : List Frame) : State where
  vm := { classes := classes, interned := interned.toArray }
  heap := heap
  slotsUsed := slotsUsed
  threads := #[{ frames := .invoking theMethod args0 :: below }]
def below0 : List Frame := [.native { method := ⟨0, 0⟩, args := #[] }]
def about1 : State := aboutOver below0
def p0 : Program := .bare "" "" ""
def e0 : Env := launch0.env 0 0 0
theorem w_frames : about1.frames = Frame.invoking theMethod args0 :: below0 := rfl
set_option maxRecDepth 65536 in
theorem w_args : argsFit about1.vm theMethod args0 = true := by decide +kernel
set_option maxRecDepth 65536 in
theorem w_heap : heapFits about1 = true := by decide +kernel
set_option maxRecDepth 65536 in
theorem w_runnable : about1.curStatus? = some .runnable := by decide +kernel
set_option maxRecDepth 65536 in
theorem w_alone : about1.alone = true := by decide +kernel
set_option maxRecDepth 65536 in
theorem w_named : about1.methodNamed? x = some theMethod := by decide +kernel
set_option maxRecDepth 65536 in
theorem w_hears : about1.hears theMethod below0 = true := by decide +kernel
set_option maxRecDepth 65536 in
theorem w_ripe : about1.ripe theMethod args0 below0 = true := by decide +kernel
theorem w_running : about1.status = .running := rfl
set_option maxRecDepth 65536 in
theorem w_room : about1.hasRoom e0.platform room_1 = true :=
  launch0.hasRoom_least _ room_1 (by decide +kernel) (by decide +kernel) (by decide +kernel) (by decide +kernel) (by decide +kernel) (by decide +kernel)
theorem allAtoms_all (ts : List Jvm.Cond) (a : Array Jvm.Value) (st : Jvm.State) : (allAtoms ts).before a st = ts.all (fun c => c.before a st) := by
  induction ts with
  | nil => rfl
  | cons c t ih =>
    show (Jvm.Cond.and c (allAtoms t)).before a st = _
    rw [Jvm.Cond.before_and, ih, List.all_cons]
def words1 : List Jvm.Cond := Jvm.Cond.code x code maxLocals ret :: tables_1
/-- a 'code' word, met by the world's own term for the bytes: nothing is compared byte by byte -/
theorem code_word {y : MethodName} {bytes : ByteArray} {mx : Nat} {rt : Option FieldType} {a : Array Value} {s : State} {m : MethodId} {meth : Method} {c : Code} (h1 : s.methodNamed? y = some m) (h2 : s.vm.method? m = some meth) (h3 : meth.code = some c) (h4 : c.code = bytes)
    (h5 : (c.maxLocals == mx && c.exceptionTable.isEmpty && decide (c.maxStack ≤ mostOperands) && decide (meth.sig.returnType = rt) && !meth.locks && decide (parseMethodDescriptor y.desc = some meth.sig)) = true) : (Jvm.Cond.code y bytes mx rt).before a s = true := by
  simp only [Bool.and_eq_true, beq_iff_eq, Bool.not_eq_true', decide_eq_true_eq] at h5
  obtain ⟨⟨⟨⟨⟨g1, g2⟩, g3⟩, g4⟩, g5⟩, g6⟩ := h5
  simp [Cond.before, Cond.holds, Cond.value, h1, h2, h3, h4, g1, g2, g3, g4, g5, g6]
def isCode : Jvm.Cond → Bool
  | .code _ _ _ _ => true
  | _ => false
theorem all_split {L : List Jvm.Cond} {P : Jvm.Cond → Bool} (h1 : L.all (fun c => isCode c || P c) = true) (h2 : ∀ c ∈ L.filter isCode, P c = true) : L.all P = true := by
  refine List.all_eq_true.mpr fun c hc => ?_
  have h := List.all_eq_true.mp h1 c hc
  rcases Bool.eq_false_or_eq_true (isCode c) with hi | hi
  · exact h2 c (List.mem_filter.mpr ⟨hc, hi⟩)
  · simpa [hi] using h
set_option maxRecDepth 65536 in
theorem w_c0 : (Jvm.Cond.code x code maxLocals ret).before args0 about1 = true := code_word (m := ⟨1, 1⟩) (meth := k1m1) (c := k1c1) (by decide +kernel) rfl rfl rfl (by decide +kernel)
set_option maxRecDepth 65536 in
theorem w_c1 : (Jvm.Cond.code ({ cls := "com/example/throttle/throttle/SipSyntax", name := "isAlphanumeric", desc := "(C)Z" } : Jvm.MethodName) prog_10_method_4_code (1 : Nat) (Option.some Jvm.ClassFile.FieldType.boolean)).before args0 about1 = true := code_word (m := ⟨2, 1⟩) (meth := k2m1) (c := k2c1) (by decide +kernel) rfl rfl rfl (by decide +kernel)
def codes1 : List Jvm.Cond := [Jvm.Cond.code x code maxLocals ret, Jvm.Cond.code ({ cls := "com/example/throttle/throttle/SipSyntax", name := "isAlphanumeric", desc := "(C)Z" } : Jvm.MethodName) prog_10_method_4_code (1 : Nat) (Option.some Jvm.ClassFile.FieldType.boolean)]
set_option maxRecDepth 65536 in
theorem codes_eq : words1.filter isCode = codes1 := rfl
theorem w_codes : ∀ c ∈ words1.filter isCode, c.before args0 about1 = true := by
  rw [codes_eq]
  intro c hc
  simp only [codes1, List.mem_cons, List.not_mem_nil, or_false] at hc
  rcases hc with rfl | rfl
  · exact w_c0
  · exact w_c1
set_option maxRecDepth 65536 in
theorem w_t1 : words1.all (fun c => isCode c || c.before args0 about1) = true := by decide +kernel
theorem w_tables : (allAtoms (Jvm.Cond.code x code maxLocals ret :: tables_1)).before args0 about1 = true := by
  rw [allAtoms_all]
  show words1.all (fun c => c.before args0 about1) = true
  refine all_split ?_ w_codes
  rw [w_t1]
set_option maxRecDepth 65536 in
theorem w_case : (Jvm.Cond.and given_1 narrow_1).before args0 about1 = true := by decide +kernel
theorem w_applies : (headSpec (Jvm.Cond.code x code maxLocals ret :: tables_1) room_1).applies x e0.platform about1 = true :=
  (Spec.applies_iff w_frames).mpr ⟨w_running, w_runnable, w_alone, w_named, w_hears, w_ripe, w_room, w_tables⟩
theorem atStart : AtStart classFile x code maxLocals ret World_1 tables_1 room_1 Calls_1 rest_1 Pre_1 launch0 p0 e0 about1 theMethod args0 below0 :=
  ⟨lists_1, trivial, launch0.admits_env _ _ _, launch0.least_env, fairChoices_fair.cas, fairChoices_fair.clock, w_frames, w_args, w_heap, w_applies, trivial, trivial, w_case⟩
end start1
theorem witness_1 : WitnessClaimed_1 := ⟨start1.p0, start1.e0, start1.about1, start1.theMethod, start1.args0, start1.below0, start1.atStart⟩
end Jvm.Pilot.@@N@@
