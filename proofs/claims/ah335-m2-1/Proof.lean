import JvmDerived
import JvmDerived.Pilot.@@N@@Statement
import JvmDerived.Pilot.@@N@@Code
set_option linter.unusedVariables false
set_option linter.unusedSimpArgs false
namespace Jvm.RoadKit
open Sem ClassFile Op Lib Jvm.Stand Jvm.Free Jvm.LawKit
def GoW (p : Program) (e : Env) (below : List Frame) (s : State) (Q : Option Value → Heap → List Loc → Prop) (k n : Nat) (u : State) : Prop :=
  ∃ s₂ o, Steps p.tables e below u s₂ ∧ s₂.status = .running ∧ Ended s₂ below o ∧ ∃ v L, o = .returned v ∧ Q v s₂.heap L ∧ FrameEnd s o s₂ L k n
def PureQ (r : Value) (h0 : Heap) (n0 : Nat) (v : Option Value) (h : Heap) (L : List Loc) : Prop := v = some r ∧ Fr n0 L ∧ h = h0
def ValQ (r : Value) (n0 : Nat) (v : Option Value) (h : Heap) (L : List Loc) : Prop := v = some r ∧ Fr n0 L
section New
variable {p : Program} {l : Launch} {e : Env} {R : Room} {s : State} {m : MethodId} {args : Array Value} {below : List Frame} {meth : Method} {c : Code} {T : State} {locs : List Loc} {cells slots : Nat} {Q : Option Value → Heap → List Loc → Prop} {k n : Nat} {u v : State}
theorem GoW.mk (h : GoW p e below s Q k n u) : ∃ s₂ o, Steps p.tables e below u s₂ ∧ s₂.status = .running ∧ Ended s₂ below o ∧ ∃ v L, o = .returned v ∧ Q v s₂.heap L ∧ FrameEnd s o s₂ L k n := h
theorem GoW.st (h : ∀ t, Steps p.tables e below u t → Steps p.tables e below v t) (q : GoW p e below s Q k n u) : GoW p e below s Q k n v := by
  obtain ⟨s₂, o, h1, h2⟩ := q; exact ⟨s₂, o, h _ h1, h2⟩
theorem GoW.sg {T' : State} (g' : JFrame) (h : ∀ t, Steps p.tables e below (T'.setTop g') t → Steps p.tables e below v t) (q : GoW p e below s Q k n (T'.setTop g')) : GoW p e below s Q k n v := GoW.st h q
theorem retI (X : Stand p l e R s m args below meth c T locs cells slots) (hx : p.tables.exec = Jvm.exec) {pc : Nat} {Ls : Array Slot} {z : Int32} {rest : List Value} (hret : meth.sig.returnType = some .int) (hd : decode c.code pc = .ok (.ireturn, 1)) {fs : List Frame}
    (hl : ∀ (f : JFrame) (acts : List Action), f.method = m → f.locked = none → f.entered = [] → (doReturn e (T.setTop f) acts (some (.int z))).1 = T.setFrames fs) : Steps p.tables e below (T.setTop (mkF m pc Ls (.int z :: rest))) (T.setFrames fs) := by
  have hm' : T.vm.method? m = some meth := X.method'
  have hn : narrow .int (.int z) = .int z := rfl
  show Steps p.tables e below (T.setTop { method := m, pc := pc, locals := Ls, stack := _ :: rest, locked := none }) _
  jvm_step X.here [X.here.top, hx, hd, hm', hret, hn]
  first | (intro acts; rw [hl _ acts rfl rfl rfl]) | rw [hl _ _ rfl rfl rfl]
  exact Steps.refl _
theorem GoW.retN (X : Stand p l e R s m args below meth c T locs cells slots) (hx : p.tables.exec = Jvm.exec) {pc : Nat} {Ls : Array Slot} {z : Int32} {t : FieldType} {rest : List Value} (hret : meth.sig.returnType = some t) (ht : t = .boolean ∨ t = .byte ∨ t = .char ∨ t = .short)
    (hd : decode c.code pc = .ok (.ireturn, 1)) (hlk : meth.locks = false) (hq : Q (some (.int (nar t z))) T.heap locs) (hk : cells ≤ k) (hn : slots ≤ n) : GoW p e below s Q k n (T.setTop (mkF m pc Ls (.int z :: rest))) := by
  obtain ⟨fs, hr, hrun, hended, hW, hsame⟩ := X.leave (v := some (.int (nar t z))) (fun h => by rw [hret] at h; cases h) hlk
  exact ⟨_, _, Jvm.RoadKit.retN X hx hret ht hd hr, hrun, hended, _, _, rfl, hq, ⟨_, rfl⟩, hW, hsame.mono hk hn⟩
theorem GoW.retI (X : Stand p l e R s m args below meth c T locs cells slots) (hx : p.tables.exec = Jvm.exec) {pc : Nat} {Ls : Array Slot} {z : Int32} {rest : List Value} (hret : meth.sig.returnType = some .int)
    (hd : decode c.code pc = .ok (.ireturn, 1)) (hlk : meth.locks = false) (hq : Q (some (.int z)) T.heap locs) (hk : cells ≤ k) (hn : slots ≤ n) : GoW p e below s Q k n (T.setTop (mkF m pc Ls (.int z :: rest))) := by
  obtain ⟨fs, hr, hrun, hended, hW, hsame⟩ := X.leave (v := some (.int z)) (fun h => by rw [hret] at h; cases h) hlk
  exact ⟨_, _, Jvm.RoadKit.retI X hx hret hd hr, hrun, hended, _, _, rfl, hq, ⟨_, rfl⟩, hW, hsame.mono hk hn⟩
theorem GoW.retL (X : Stand p l e R s m args below meth c T locs cells slots) (hx : p.tables.exec = Jvm.exec) {pc : Nat} {Ls : Array Slot} {z : Int64} {rest : List Value} (hret : meth.sig.returnType = some .long)
    (hd : decode c.code pc = .ok (.lreturn, 1)) (hlk : meth.locks = false) (hq : Q (some (.long z)) T.heap locs) (hk : cells ≤ k) (hn : slots ≤ n) : GoW p e below s Q k n (T.setTop (mkF m pc Ls (.long z :: rest))) := by
  obtain ⟨fs, hr, hrun, hended, hW, hsame⟩ := X.leave (v := some (.long z)) (fun h => by rw [hret] at h; cases h) hlk
  exact ⟨_, _, retOut X hx hret rfl (Or.inr (Or.inl ⟨rfl, rfl, z, rfl⟩)) hd hr, hrun, hended, _, _, rfl, hq, ⟨_, rfl⟩, hW, hsame.mono hk hn⟩
theorem GoW.retA (X : Stand p l e R s m args below meth c T locs cells slots) (hx : p.tables.exec = Jvm.exec) {pc : Nat} {Ls : Array Slot} {w : Value} {t : FieldType} {rest : List Value} (hret : meth.sig.returnType = some t) (hw : w.isRef = true) (ht : t.isReference = true)
    (hn' : narrow t w = w) (hd : decode c.code pc = .ok (.areturn, 1)) (hlk : meth.locks = false) (hq : Q (some w) T.heap locs) (hk : cells ≤ k) (hn : slots ≤ n) : GoW p e below s Q k n (T.setTop (mkF m pc Ls (w :: rest))) := by
  obtain ⟨fs, hr, hrun, hended, hW, hsame⟩ := X.leave (v := some w) (fun h => by rw [hret] at h; cases h) hlk
  exact ⟨_, _, retOut X hx hret hn' (Or.inr (Or.inr (Or.inr (Or.inr ⟨rfl, ht, hw⟩)))) hd hr, hrun, hended, _, _, rfl, hq, ⟨_, rfl⟩, hW, hsame.mono hk hn⟩
theorem GoW.retV (X : Stand p l e R s m args below meth c T locs cells slots) (hx : p.tables.exec = Jvm.exec) {pc : Nat} {Ls : Array Slot} (hret : meth.sig.returnType = none)
    (hd : decode c.code pc = .ok (.return_, 1)) (hlk : meth.locks = false) (hq : Q none T.heap locs) (hk : cells ≤ k) (hn : slots ≤ n) : GoW p e below s Q k n (T.setTop (mkF m pc Ls [])) := by
  obtain ⟨fs, hr, hrun, hended, hW, hsame⟩ := X.leave (v := none) (fun _ => rfl) hlk
  exact ⟨_, _, X.returnOut hx hret hd hr, hrun, hended, _, _, rfl, hq, ⟨_, rfl⟩, hW, hsame.mono hk hn⟩
theorem own_eqI {args : Array Value} {first s : State} {o : Option Outcome} {idx : List Nat} {t : Term} {i : Int32} (h : (Jvm.Cond.eq t (.int i)).value args first o s idx = some true) : t.eval args first o idx s = some (.int i) := by
  obtain ⟨x, y, hx, hy, k1, k2⟩ := cmp_v (Or.inl h)
  rw [Term.int_eval] at hy
  cases hy
  obtain ⟨z, rfl⟩ := k2
  have q := gotT (Cond.eq_ints hx (Term.int_eval i)) h
  rw [hx, q]
theorem own_ne {args : Array Value} {first s : State} {o : Option Outcome} {idx : List Nat} {t u : Term} {C n d : String} {i j : Int32} {a b : Addr} (h1 : (Jvm.Cond.eq (.field t C n d) (.int i)).value args first o s idx = some true) (h2 : (Jvm.Cond.eq (.field u C n d) (.int j)).value args first o s idx = some true)
    (ha : t.eval args first o idx s = some (.ref a)) (hb : u.eval args first o idx s = some (.ref b)) (hij : i ≠ j) : a ≠ b := fun e => by
  subst e
  have q1 := own_eqI h1
  have q2 := own_eqI h2
  rw [fld_at ha] at q1
  rw [fld_at hb, q1] at q2
  exact hij (by cases q2; rfl)
theorem own_staK0 {Z : State} {h h' : Heap} {C n d : String} {v : Value} (F : Sta Z h C n d v) (K : Keep h h' []) : Sta Z h' C n d v := by
  obtain ⟨cf, i, k, f, st, cell, h1, h2, h3, h4, h5, r⟩ := F; exact ⟨cf, i, k, f, st, cell, h1, h2, h3, h4, K.2.1 _ _ h5 nin0, r⟩
theorem own_staK1 {Z : State} {h h' : Heap} {C n d K0 : String} {v : Value} {a : Addr} (F : Sta Z h C n d v) (K : Keep h h' [a]) (E : Exa Z h a K0) : Sta Z h' C n d v := by
  obtain ⟨cf, i, k, f, st, cell, h1, h2, h3, h4, h5, h6, r⟩ := F
  refine ⟨cf, i, k, f, st, cell, h1, h2, h3, h4, K.2.1 _ _ h5 (ninS (fun q => ?_) nin0), h6, r⟩
  subst q
  obtain ⟨cell2, k2, g1, -, -, g2, -⟩ := E
  cases h5.symm.trans g1
  rw [h6] at g2; cases g2
theorem GoW.retD (X : Stand p l e R s m args below meth c T locs cells slots) (hx : p.tables.exec = Jvm.exec) {pc : Nat} {Ls : Array Slot} {z : UInt64} {rest : List Value} (hret : meth.sig.returnType = some .double)
    (hd : decode c.code pc = .ok (.dreturn, 1)) (hlk : meth.locks = false) (hq : Q (some (.double z)) T.heap locs) (hk : cells ≤ k) (hn : slots ≤ n) : GoW p e below s Q k n (T.setTop (mkF m pc Ls (.double z :: rest))) := by
  obtain ⟨fs, hr, hrun, hended, hW, hsame⟩ := X.leave (v := some (.double z)) (fun h => by rw [hret] at h; cases h) hlk
  exact ⟨_, _, retOut X hx hret rfl (Or.inr (Or.inr (Or.inl ⟨rfl, rfl, z, rfl⟩))) hd hr, hrun, hended, _, _, rfl, hq, ⟨_, rfl⟩, hW, hsame.mono hk hn⟩
theorem own_pop2L {tb : Tables} [Ours tb] {e : Env} {below : List Frame} {T target : State} {m : MethodId} {c : Code} {g : JFrame} (h : At T m c below) (hx : tb.exec = Jvm.exec) (hg : g.method = m) {x : Int64} {rest : List Value} (hd : decode c.code g.pc = .ok (.pop2, 1)) (hs : g.stack = .long x :: rest)
    (hr : Steps tb e below (T.setTop { g with pc := g.pc + 1, stack := rest }) target) : Steps tb e below (T.setTop g) target := by
  subst hg
  jvm_step h [h.top, hx, hd, hs, Value.category]
  exact hr
end New
end Jvm.RoadKit
namespace Jvm.Pilot.@@N@@
open Jvm Jvm.ClassFile Sem Op Lib Jvm.Free Jvm.Stand Jvm.LawKit Jvm.RoadKit Bundle Jvm.Pilot.@@N@@.Jvm.D
theorem ww {Z : State} {a0 : Array Value} (hw : ∀ d ∈ tables_1, d.before a0 Z = true) (i : Nat) {d : Jvm.Cond} (h : tables_1[i]? = some d) : d.before a0 Z = true := hw _ (List.mem_of_getElem? h)
theorem pn_com_example_saunter_saunter_scenery_Rings : plainName "com/example/saunter/saunter/scenery/Rings" = true := by first | (simp [plainName, overriddenIn]; done) | decide +kernel
theorem d1_0 : decode prog_71_method_3_code 0 = .ok (.aload_n 0, 1) := by decide +kernel
theorem d1_1 : decode prog_71_method_3_code 1 = .ok (.iconst 0, 1) := by decide +kernel
theorem d1_2 : decode prog_71_method_3_code 2 = .ok (.laload, 1) := by decide +kernel
theorem d1_3 : decode prog_71_method_3_code 3 = .ok (.aload_n 0, 1) := by decide +kernel
theorem d1_4 : decode prog_71_method_3_code 4 = .ok (.aload_n 0, 1) := by decide +kernel
theorem d1_5 : decode prog_71_method_3_code 5 = .ok (.arraylength, 1) := by decide +kernel
theorem d1_6 : decode prog_71_method_3_code 6 = .ok (.iconst 1, 1) := by decide +kernel
theorem d1_7 : decode prog_71_method_3_code 7 = .ok (.isub, 1) := by decide +kernel
theorem d1_8 : decode prog_71_method_3_code 8 = .ok (.laload, 1) := by decide +kernel
theorem d1_9 : decode prog_71_method_3_code 9 = .ok (.lcmp, 1) := by decide +kernel
theorem d1_10 : decode prog_71_method_3_code 10 = .ok (.ifCond .ne 7, 3) := by decide +kernel
theorem d1_13 : decode prog_71_method_3_code 13 = .ok (.iconst 1, 1) := by decide +kernel
theorem d1_14 : decode prog_71_method_3_code 14 = .ok (.goto 4, 3) := by decide +kernel
theorem d1_18 : decode prog_71_method_3_code 18 = .ok (.ireturn, 1) := by decide +kernel
theorem d1_17 : decode prog_71_method_3_code 17 = .ok (.iconst 0, 1) := by decide +kernel
theorem pn_com_example_saunter_saunter_scenery_RingsIsClosedPinLaw : plainName "com/example/saunter/saunter/scenery/RingsIsClosedPinLaw" = true := by first | (simp [plainName, overriddenIn]; done) | decide +kernel
abbrev K0 (p0 : Int64) (p1 : Int64) (p2 : Int64) (p3 : Int64) (p4 : Int32) : Array Slot := #[.val (.long p0), .second, .val (.long p1), .second, .val (.long p2), .second, .val (.long p3), .second, .val (.int p4), .unset, .unset, .unset, .unset, .unset]
abbrev K1 (p0 : Int64) (p1 : Int64) (p2 : Int64) (p3 : Int64) (p4 : Int32) (p5 : Int32) : Array Slot := #[.val (.long p0), .second, .val (.long p1), .second, .val (.long p2), .second, .val (.long p3), .second, .val (.int p4), .val (.int p5), .unset, .unset, .unset, .unset]
abbrev K2 (p0 : Int64) (p1 : Int64) (p2 : Int64) (p3 : Int64) (p4 : Int32) (p5 : Int32) (p6 : Int64) : Array Slot := #[.val (.long p0), .second, .val (.long p1), .second, .val (.long p2), .second, .val (.long p3), .second, .val (.int p4), .val (.int p5), .val (.long p6), .second, .unset, .unset]
abbrev K3 (p0 : Int64) (p1 : Int64) (p2 : Int64) (p3 : Int64) (p4 : Int32) (p5 : Int32) (p6 : Int64) (p7 : Addr) : Array Slot := #[.val (.long p0), .second, .val (.long p1), .second, .val (.long p2), .second, .val (.long p3), .second, .val (.int p4), .val (.int p5), .val (.long p6), .second, .val (.ref p7), .unset]
abbrev K4 (p0 : Int64) (p1 : Int64) (p2 : Int64) (p3 : Int64) (p4 : Int32) (p5 : Int32) (p6 : Int64) (p7 : Addr) (p8 : Int32) : Array Slot := #[.val (.long p0), .second, .val (.long p1), .second, .val (.long p2), .second, .val (.long p3), .second, .val (.int p4), .val (.int p5), .val (.long p6), .second, .val (.ref p7), .val (.int p8)]
theorem pd_285bJ29Z : parseMethodDescriptor "([J)Z" = some ⟨[(.array .long)], some .boolean⟩ := by decide +kernel
def F1n1 (w0 : Int64) : Int32 := (1 : Int32)
def Q1n1 (Z : State) (a1 : Addr) (k1 : ClassId) (w0 : Int64) (h0 : Heap) (n0 : Nat) (v : Option Value) (h : Heap) (L : List Loc) : Prop := v = some (.int (F1n1 w0)) ∧ Fr n0 L ∧ (h = h0)
theorem ef1_rm1n1 (m : MethodId) (a1 : Addr) : entryFrame m #[(.ref a1)] 1 = (mkF m 0 #[.val (.ref a1)] []) := by first | (simp [entryFrame, mkF, argsToLocals, Value.category, maxLocals]; done) | rfl
set_option maxRecDepth 65536 in
set_option maxHeartbeats 40000000 in
theorem rm1n1 (l : Launch) (Z : State) (a0 : Array Value) (hw : ∀ d ∈ tables_1, d.before a0 Z = true) (ws : List Jvm.Cond) (a1 : Addr) (k1 : ClassId) (w0 : Int64) (h0 : Heap) (n0 : Nat) (P0 : Arv Z h0 a1 k1 .long (1 : Int32) [(.long w0)] (.long (0 : Int64)))    :
    MetFree l (⟨"com/example/saunter/saunter/scenery/Rings", "isClosed", "([J)Z"⟩ : MethodName) (head1 (Jvm.Cond.code (⟨"com/example/saunter/saunter/scenery/Rings", "isClosed", "([J)Z"⟩ : MethodName) prog_71_method_3_code 1 (some .boolean) :: ws) ({ frames := 0, cells := 0, slots := 0, locals := 0 } : Room)) (fun a U => a = #[(.ref a1)] ∧ Z.Warmed39 U.vm ∧ U.heap = h0) (fun _ _ _ _ _ => True) (fun _ U o U' => ∃ v L, o = .returned v ∧ (Q1n1 Z a1 k1 w0 h0 n0) v U'.heap L ∧ FrameEnd U o U' L 0 0) := by
  refine MetFree.of_bodySF (plainFor_of_name pn_com_example_saunter_saunter_scenery_Rings) hisR ?_
  intro p e s m args below meth c s₁ Bd hml0 hP hK
  obtain ⟨rfl, hZ, hh⟩ := hP
  have hx := Bd.exec
  have hby := Bd.bytes
  have hml : c.maxLocals = 1 := hml0
  have hown : s.vm.findClass "com/example/saunter/saunter/scenery/Rings" = some m.cls := findClass_of_methodNamed Bd.named
  have hnm := (name_of_methodNamed Bd.named Bd.method).1
  have X0 : Stand p l e ({ frames := 0, cells := 0, slots := 0, locals := 0 } : Room) s m #[(.ref a1)] below meth c s₁ [] 0 0 := Stand.of_body Bd
  have e0 : s₁.heap = h0 := by rw [← hh, Bd.state]; rfl
  have N0 := Fr.nil n0
  refine GoW.mk ?_
  refine GoW.st (fun t k => castTop (ef1_rm1n1 m a1) k) ?_
  show GoW p e below s (Q1n1 Z a1 k1 w0 h0 n0) 0 0 (s₁.setTop (mkF m 0 #[.val (.ref a1)] []))
  refine GoW.sg (mkF m 1 #[.val (.ref a1)] [(.ref a1)]) (fun t k => XS.aloadN X0.here hx rfl (hb hby d1_0) rfl rfl k) ?_
  refine GoW.sg (mkF m 2 #[.val (.ref a1)] [(.int 0), (.ref a1)]) (fun t k => XS.iconst X0.here hx rfl (hb hby d1_1) k) ?_
  obtain ⟨cl1, Ar1, q1, Sz1, Nn1, Hh1, Gg1⟩ := id P0
  have hin1 : ¬ ((0 : Int32) < 0 ∨ cl1.slots.size ≤ ((0 : Int32)).toNatClampNeg) := inb_of Sz1 ⟨by decide, by decide⟩
  refine GoW.sg (mkF m 3 #[.val (.ref a1)] [(.long w0)]) (fun t k => X0.laload hx (j := (0 : Int32)) (v := (.long w0)) (by rw [e0]; exact Ar1.1) (State.isArrayOf_alike hZ.alike Ar1.2.1) Ar1.2.2 hin1 (Hh1.at hin1 rfl) (g := (mkF m 2 #[.val (.ref a1)] [(.int 0), (.ref a1)])) rfl rfl (hb hby d1_2) t k) ?_
  refine GoW.sg (mkF m 4 #[.val (.ref a1)] [(.ref a1), (.long w0)]) (fun t k => XS.aloadN X0.here hx rfl (hb hby d1_3) rfl rfl k) ?_
  refine GoW.sg (mkF m 5 #[.val (.ref a1)] [(.ref a1), (.ref a1), (.long w0)]) (fun t k => XS.aloadN X0.here hx rfl (hb hby d1_4) rfl rfl k) ?_
  obtain ⟨cl2, Ar2, q2, Sz2, Nn2, Hh2, Gg2⟩ := id P0
  have st2 := X0.arraylength hx (by rw [e0]; exact Ar2.1) (State.isArrayOf_alike hZ.alike Ar2.2.1) (g := (mkF m 5 #[.val (.ref a1)] [(.ref a1), (.ref a1), (.long w0)])) rfl rfl (hb hby d1_5)
  rw [len_of Sz2 Nn2] at st2
  refine GoW.sg (mkF m 6 #[.val (.ref a1)] [(.int 1), (.ref a1), (.long w0)]) (fun t k => st2 t k) ?_
  refine GoW.sg (mkF m 7 #[.val (.ref a1)] [(.int 1), (.int 1), (.ref a1), (.long w0)]) (fun t k => XS.iconst X0.here hx rfl (hb hby d1_6) k) ?_
  refine GoW.st (fun t k => XS.isub X0.here hx rfl (hb hby d1_7) rfl k) ?_
  rw [show ((1 : Int32) - (1 : Int32)) = (0 : Int32) from by decide]
  show GoW p e below s (Q1n1 Z a1 k1 w0 h0 n0) 0 0 (s₁.setTop (mkF m 8 #[.val (.ref a1)] [(.int 0), (.ref a1), (.long w0)]))
  obtain ⟨cl3, Ar3, q3, Sz3, Nn3, Hh3, Gg3⟩ := id P0
  have hin3 : ¬ ((0 : Int32) < 0 ∨ cl3.slots.size ≤ ((0 : Int32)).toNatClampNeg) := inb_of Sz3 ⟨by decide, by decide⟩
  refine GoW.sg (mkF m 9 #[.val (.ref a1)] [(.long w0), (.long w0)]) (fun t k => X0.laload hx (j := (0 : Int32)) (v := (.long w0)) (by rw [e0]; exact Ar3.1) (State.isArrayOf_alike hZ.alike Ar3.2.1) Ar3.2.2 hin3 (Hh3.at hin3 rfl) (g := (mkF m 8 #[.val (.ref a1)] [(.int 0), (.ref a1), (.long w0)])) rfl rfl (hb hby d1_8) t k) ?_
  refine GoW.sg (mkF m 10 #[.val (.ref a1)] [(.int (lcmpW w0 w0))]) (fun t k => XS.lcmp X0.here hx rfl (hb hby d1_9) rfl k) ?_
  refine GoW.sg (mkF m 13 #[.val (.ref a1)] []) (fun t k => XS.ifNo X0.here hx rfl (hb hby d1_10) rfl ((if0 _ _).trans (teq ((lw_eq _ _).mpr rfl)).2) k) ?_
  refine GoW.sg (mkF m 14 #[.val (.ref a1)] [(.int 1)]) (fun t k => XS.iconst X0.here hx rfl (hb hby d1_13) k) ?_
  refine GoW.sg (mkF m 18 #[.val (.ref a1)] [(.int 1)]) (fun t k => XS.goto X0.here hx rfl (pc0 := 14) (pc' := 18) rfl (hb hby d1_14) (by decide) (by decide) k) ?_
  refine GoW.retN X0 hx (t := .boolean) Bd.returns (by simp) (hb hby d1_18) Bd.notSynchronized ?_ (by decide) (by decide)
  rw [e0]
  have hq : (F1n1 w0) = (1 : Int32) := by unfold F1n1; try rfl
  exact ⟨by rw [hq] <;> rfl, N0, rfl⟩
def F1n2 (w0 : Int64) (w1 : Int64) : Int32 := (if w0 = w1 then (1 : Int32) else (0 : Int32))
def Q1n2 (Z : State) (a1 : Addr) (k1 : ClassId) (w0 : Int64) (w1 : Int64) (h0 : Heap) (n0 : Nat) (v : Option Value) (h : Heap) (L : List Loc) : Prop := v = some (.int (F1n2 w0 w1)) ∧ Fr n0 L ∧ (h = h0)
theorem ef1_rm1n2 (m : MethodId) (a1 : Addr) : entryFrame m #[(.ref a1)] 1 = (mkF m 0 #[.val (.ref a1)] []) := by first | (simp [entryFrame, mkF, argsToLocals, Value.category, maxLocals]; done) | rfl
set_option maxRecDepth 65536 in
set_option maxHeartbeats 40000000 in
theorem rm1n2 (l : Launch) (Z : State) (a0 : Array Value) (hw : ∀ d ∈ tables_1, d.before a0 Z = true) (ws : List Jvm.Cond) (a1 : Addr) (k1 : ClassId) (w0 : Int64) (w1 : Int64) (h0 : Heap) (n0 : Nat) (P0 : Arv Z h0 a1 k1 .long (2 : Int32) [(.long w0), (.long w1)] (.long (0 : Int64)))    :
    MetFree l (⟨"com/example/saunter/saunter/scenery/Rings", "isClosed", "([J)Z"⟩ : MethodName) (head1 (Jvm.Cond.code (⟨"com/example/saunter/saunter/scenery/Rings", "isClosed", "([J)Z"⟩ : MethodName) prog_71_method_3_code 1 (some .boolean) :: ws) ({ frames := 0, cells := 0, slots := 0, locals := 0 } : Room)) (fun a U => a = #[(.ref a1)] ∧ Z.Warmed39 U.vm ∧ U.heap = h0) (fun _ _ _ _ _ => True) (fun _ U o U' => ∃ v L, o = .returned v ∧ (Q1n2 Z a1 k1 w0 w1 h0 n0) v U'.heap L ∧ FrameEnd U o U' L 0 0) := by
  refine MetFree.of_bodySF (plainFor_of_name pn_com_example_saunter_saunter_scenery_Rings) hisR ?_
  intro p e s m args below meth c s₁ Bd hml0 hP hK
  obtain ⟨rfl, hZ, hh⟩ := hP
  have hx := Bd.exec
  have hby := Bd.bytes
  have hml : c.maxLocals = 1 := hml0
  have hown : s.vm.findClass "com/example/saunter/saunter/scenery/Rings" = some m.cls := findClass_of_methodNamed Bd.named
  have hnm := (name_of_methodNamed Bd.named Bd.method).1
  have X0 : Stand p l e ({ frames := 0, cells := 0, slots := 0, locals := 0 } : Room) s m #[(.ref a1)] below meth c s₁ [] 0 0 := Stand.of_body Bd
  have e0 : s₁.heap = h0 := by rw [← hh, Bd.state]; rfl
  have N0 := Fr.nil n0
  refine GoW.mk ?_
  refine GoW.st (fun t k => castTop (ef1_rm1n2 m a1) k) ?_
  show GoW p e below s (Q1n2 Z a1 k1 w0 w1 h0 n0) 0 0 (s₁.setTop (mkF m 0 #[.val (.ref a1)] []))
  refine GoW.sg (mkF m 1 #[.val (.ref a1)] [(.ref a1)]) (fun t k => XS.aloadN X0.here hx rfl (hb hby d1_0) rfl rfl k) ?_
  refine GoW.sg (mkF m 2 #[.val (.ref a1)] [(.int 0), (.ref a1)]) (fun t k => XS.iconst X0.here hx rfl (hb hby d1_1) k) ?_
  obtain ⟨cl4, Ar4, q4, Sz4, Nn4, Hh4, Gg4⟩ := id P0
  have hin4 : ¬ ((0 : Int32) < 0 ∨ cl4.slots.size ≤ ((0 : Int32)).toNatClampNeg) := inb_of Sz4 ⟨by decide, by decide⟩
  refine GoW.sg (mkF m 3 #[.val (.ref a1)] [(.long w0)]) (fun t k => X0.laload hx (j := (0 : Int32)) (v := (.long w0)) (by rw [e0]; exact Ar4.1) (State.isArrayOf_alike hZ.alike Ar4.2.1) Ar4.2.2 hin4 (Hh4.at hin4 rfl) (g := (mkF m 2 #[.val (.ref a1)] [(.int 0), (.ref a1)])) rfl rfl (hb hby d1_2) t k) ?_
  refine GoW.sg (mkF m 4 #[.val (.ref a1)] [(.ref a1), (.long w0)]) (fun t k => XS.aloadN X0.here hx rfl (hb hby d1_3) rfl rfl k) ?_
  refine GoW.sg (mkF m 5 #[.val (.ref a1)] [(.ref a1), (.ref a1), (.long w0)]) (fun t k => XS.aloadN X0.here hx rfl (hb hby d1_4) rfl rfl k) ?_
  obtain ⟨cl5, Ar5, q5, Sz5, Nn5, Hh5, Gg5⟩ := id P0
  have st5 := X0.arraylength hx (by rw [e0]; exact Ar5.1) (State.isArrayOf_alike hZ.alike Ar5.2.1) (g := (mkF m 5 #[.val (.ref a1)] [(.ref a1), (.ref a1), (.long w0)])) rfl rfl (hb hby d1_5)
  rw [len_of Sz5 Nn5] at st5
  refine GoW.sg (mkF m 6 #[.val (.ref a1)] [(.int 2), (.ref a1), (.long w0)]) (fun t k => st5 t k) ?_
  refine GoW.sg (mkF m 7 #[.val (.ref a1)] [(.int 1), (.int 2), (.ref a1), (.long w0)]) (fun t k => XS.iconst X0.here hx rfl (hb hby d1_6) k) ?_
  refine GoW.st (fun t k => XS.isub X0.here hx rfl (hb hby d1_7) rfl k) ?_
  rw [show ((2 : Int32) - (1 : Int32)) = (1 : Int32) from by decide]
  show GoW p e below s (Q1n2 Z a1 k1 w0 w1 h0 n0) 0 0 (s₁.setTop (mkF m 8 #[.val (.ref a1)] [(.int 1), (.ref a1), (.long w0)]))
  obtain ⟨cl6, Ar6, q6, Sz6, Nn6, Hh6, Gg6⟩ := id P0
  have hin6 : ¬ ((1 : Int32) < 0 ∨ cl6.slots.size ≤ ((1 : Int32)).toNatClampNeg) := inb_of Sz6 ⟨by decide, by decide⟩
  refine GoW.sg (mkF m 9 #[.val (.ref a1)] [(.long w1), (.long w0)]) (fun t k => X0.laload hx (j := (1 : Int32)) (v := (.long w1)) (by rw [e0]; exact Ar6.1) (State.isArrayOf_alike hZ.alike Ar6.2.1) Ar6.2.2 hin6 (Hh6.at hin6 rfl) (g := (mkF m 8 #[.val (.ref a1)] [(.int 1), (.ref a1), (.long w0)])) rfl rfl (hb hby d1_8) t k) ?_
  refine GoW.sg (mkF m 10 #[.val (.ref a1)] [(.int (lcmpW w0 w1))]) (fun t k => XS.lcmp X0.here hx rfl (hb hby d1_9) rfl k) ?_
  by_cases c7 : w0 = w1
  · refine GoW.sg (mkF m 13 #[.val (.ref a1)] []) (fun t k => XS.ifNo X0.here hx rfl (hb hby d1_10) rfl ((if0 _ _).trans (teq ((lw_eq _ _).mpr c7)).2) k) ?_
    refine GoW.sg (mkF m 14 #[.val (.ref a1)] [(.int 1)]) (fun t k => XS.iconst X0.here hx rfl (hb hby d1_13) k) ?_
    refine GoW.sg (mkF m 18 #[.val (.ref a1)] [(.int 1)]) (fun t k => XS.goto X0.here hx rfl (pc0 := 14) (pc' := 18) rfl (hb hby d1_14) (by decide) (by decide) k) ?_
    refine GoW.retN X0 hx (t := .boolean) Bd.returns (by simp) (hb hby d1_18) Bd.notSynchronized ?_ (by decide) (by decide)
    rw [e0]
    have hq : (F1n2 w0 w1) = (1 : Int32) := by unfold F1n2; rw [if_pos c7]; try rfl
    exact ⟨by rw [hq] <;> rfl, N0, rfl⟩
  · refine GoW.sg (mkF m 17 #[.val (.ref a1)] []) (fun t k => XS.ifYes X0.here hx rfl (pc0 := 10) (pc' := 17) rfl (hb hby d1_10) rfl ((if0 _ _).trans (feq (mt (lw_eq _ _).mp c7)).2) (by decide) (by decide) k) ?_
    refine GoW.sg (mkF m 18 #[.val (.ref a1)] [(.int 0)]) (fun t k => XS.iconst X0.here hx rfl (hb hby d1_17) k) ?_
    refine GoW.retN X0 hx (t := .boolean) Bd.returns (by simp) (hb hby d1_18) Bd.notSynchronized ?_ (by decide) (by decide)
    rw [e0]
    have hq : (F1n2 w0 w1) = (0 : Int32) := by unfold F1n2; rw [if_neg c7]; try rfl
    exact ⟨by rw [hq] <;> rfl, N0, rfl⟩
def F1n3 (w0 : Int64) (w1 : Int64) (w2 : Int64) : Int32 := (if w0 = w2 then (1 : Int32) else (0 : Int32))
def Q1n3 (Z : State) (a1 : Addr) (k1 : ClassId) (w0 : Int64) (w1 : Int64) (w2 : Int64) (h0 : Heap) (n0 : Nat) (v : Option Value) (h : Heap) (L : List Loc) : Prop := v = some (.int (F1n3 w0 w1 w2)) ∧ Fr n0 L ∧ (h = h0)
theorem ef1_rm1n3 (m : MethodId) (a1 : Addr) : entryFrame m #[(.ref a1)] 1 = (mkF m 0 #[.val (.ref a1)] []) := by first | (simp [entryFrame, mkF, argsToLocals, Value.category, maxLocals]; done) | rfl
set_option maxRecDepth 65536 in
set_option maxHeartbeats 40000000 in
theorem rm1n3 (l : Launch) (Z : State) (a0 : Array Value) (hw : ∀ d ∈ tables_1, d.before a0 Z = true) (ws : List Jvm.Cond) (a1 : Addr) (k1 : ClassId) (w0 : Int64) (w1 : Int64) (w2 : Int64) (h0 : Heap) (n0 : Nat) (P0 : Arv Z h0 a1 k1 .long (3 : Int32) [(.long w0), (.long w1), (.long w2)] (.long (0 : Int64)))    :
    MetFree l (⟨"com/example/saunter/saunter/scenery/Rings", "isClosed", "([J)Z"⟩ : MethodName) (head1 (Jvm.Cond.code (⟨"com/example/saunter/saunter/scenery/Rings", "isClosed", "([J)Z"⟩ : MethodName) prog_71_method_3_code 1 (some .boolean) :: ws) ({ frames := 0, cells := 0, slots := 0, locals := 0 } : Room)) (fun a U => a = #[(.ref a1)] ∧ Z.Warmed39 U.vm ∧ U.heap = h0) (fun _ _ _ _ _ => True) (fun _ U o U' => ∃ v L, o = .returned v ∧ (Q1n3 Z a1 k1 w0 w1 w2 h0 n0) v U'.heap L ∧ FrameEnd U o U' L 0 0) := by
  refine MetFree.of_bodySF (plainFor_of_name pn_com_example_saunter_saunter_scenery_Rings) hisR ?_
  intro p e s m args below meth c s₁ Bd hml0 hP hK
  obtain ⟨rfl, hZ, hh⟩ := hP
  have hx := Bd.exec
  have hby := Bd.bytes
  have hml : c.maxLocals = 1 := hml0
  have hown : s.vm.findClass "com/example/saunter/saunter/scenery/Rings" = some m.cls := findClass_of_methodNamed Bd.named
  have hnm := (name_of_methodNamed Bd.named Bd.method).1
  have X0 : Stand p l e ({ frames := 0, cells := 0, slots := 0, locals := 0 } : Room) s m #[(.ref a1)] below meth c s₁ [] 0 0 := Stand.of_body Bd
  have e0 : s₁.heap = h0 := by rw [← hh, Bd.state]; rfl
  have N0 := Fr.nil n0
  refine GoW.mk ?_
  refine GoW.st (fun t k => castTop (ef1_rm1n3 m a1) k) ?_
  show GoW p e below s (Q1n3 Z a1 k1 w0 w1 w2 h0 n0) 0 0 (s₁.setTop (mkF m 0 #[.val (.ref a1)] []))
  refine GoW.sg (mkF m 1 #[.val (.ref a1)] [(.ref a1)]) (fun t k => XS.aloadN X0.here hx rfl (hb hby d1_0) rfl rfl k) ?_
  refine GoW.sg (mkF m 2 #[.val (.ref a1)] [(.int 0), (.ref a1)]) (fun t k => XS.iconst X0.here hx rfl (hb hby d1_1) k) ?_
  obtain ⟨cl8, Ar8, q8, Sz8, Nn8, Hh8, Gg8⟩ := id P0
  have hin8 : ¬ ((0 : Int32) < 0 ∨ cl8.slots.size ≤ ((0 : Int32)).toNatClampNeg) := inb_of Sz8 ⟨by decide, by decide⟩
  refine GoW.sg (mkF m 3 #[.val (.ref a1)] [(.long w0)]) (fun t k => X0.laload hx (j := (0 : Int32)) (v := (.long w0)) (by rw [e0]; exact Ar8.1) (State.isArrayOf_alike hZ.alike Ar8.2.1) Ar8.2.2 hin8 (Hh8.at hin8 rfl) (g := (mkF m 2 #[.val (.ref a1)] [(.int 0), (.ref a1)])) rfl rfl (hb hby d1_2) t k) ?_
  refine GoW.sg (mkF m 4 #[.val (.ref a1)] [(.ref a1), (.long w0)]) (fun t k => XS.aloadN X0.here hx rfl (hb hby d1_3) rfl rfl k) ?_
  refine GoW.sg (mkF m 5 #[.val (.ref a1)] [(.ref a1), (.ref a1), (.long w0)]) (fun t k => XS.aloadN X0.here hx rfl (hb hby d1_4) rfl rfl k) ?_
  obtain ⟨cl9, Ar9, q9, Sz9, Nn9, Hh9, Gg9⟩ := id P0
  have st9 := X0.arraylength hx (by rw [e0]; exact Ar9.1) (State.isArrayOf_alike hZ.alike Ar9.2.1) (g := (mkF m 5 #[.val (.ref a1)] [(.ref a1), (.ref a1), (.long w0)])) rfl rfl (hb hby d1_5)
  rw [len_of Sz9 Nn9] at st9
  refine GoW.sg (mkF m 6 #[.val (.ref a1)] [(.int 3), (.ref a1), (.long w0)]) (fun t k => st9 t k) ?_
  refine GoW.sg (mkF m 7 #[.val (.ref a1)] [(.int 1), (.int 3), (.ref a1), (.long w0)]) (fun t k => XS.iconst X0.here hx rfl (hb hby d1_6) k) ?_
  refine GoW.st (fun t k => XS.isub X0.here hx rfl (hb hby d1_7) rfl k) ?_
  rw [show ((3 : Int32) - (1 : Int32)) = (2 : Int32) from by decide]
  show GoW p e below s (Q1n3 Z a1 k1 w0 w1 w2 h0 n0) 0 0 (s₁.setTop (mkF m 8 #[.val (.ref a1)] [(.int 2), (.ref a1), (.long w0)]))
  obtain ⟨cl10, Ar10, q10, Sz10, Nn10, Hh10, Gg10⟩ := id P0
  have hin10 : ¬ ((2 : Int32) < 0 ∨ cl10.slots.size ≤ ((2 : Int32)).toNatClampNeg) := inb_of Sz10 ⟨by decide, by decide⟩
  refine GoW.sg (mkF m 9 #[.val (.ref a1)] [(.long w2), (.long w0)]) (fun t k => X0.laload hx (j := (2 : Int32)) (v := (.long w2)) (by rw [e0]; exact Ar10.1) (State.isArrayOf_alike hZ.alike Ar10.2.1) Ar10.2.2 hin10 (Hh10.at hin10 rfl) (g := (mkF m 8 #[.val (.ref a1)] [(.int 2), (.ref a1), (.long w0)])) rfl rfl (hb hby d1_8) t k) ?_
  refine GoW.sg (mkF m 10 #[.val (.ref a1)] [(.int (lcmpW w0 w2))]) (fun t k => XS.lcmp X0.here hx rfl (hb hby d1_9) rfl k) ?_
  by_cases c11 : w0 = w2
  · refine GoW.sg (mkF m 13 #[.val (.ref a1)] []) (fun t k => XS.ifNo X0.here hx rfl (hb hby d1_10) rfl ((if0 _ _).trans (teq ((lw_eq _ _).mpr c11)).2) k) ?_
    refine GoW.sg (mkF m 14 #[.val (.ref a1)] [(.int 1)]) (fun t k => XS.iconst X0.here hx rfl (hb hby d1_13) k) ?_
    refine GoW.sg (mkF m 18 #[.val (.ref a1)] [(.int 1)]) (fun t k => XS.goto X0.here hx rfl (pc0 := 14) (pc' := 18) rfl (hb hby d1_14) (by decide) (by decide) k) ?_
    refine GoW.retN X0 hx (t := .boolean) Bd.returns (by simp) (hb hby d1_18) Bd.notSynchronized ?_ (by decide) (by decide)
    rw [e0]
    have hq : (F1n3 w0 w1 w2) = (1 : Int32) := by unfold F1n3; rw [if_pos c11]; try rfl
    exact ⟨by rw [hq] <;> rfl, N0, rfl⟩
  · refine GoW.sg (mkF m 17 #[.val (.ref a1)] []) (fun t k => XS.ifYes X0.here hx rfl (pc0 := 10) (pc' := 17) rfl (hb hby d1_10) rfl ((if0 _ _).trans (feq (mt (lw_eq _ _).mp c11)).2) (by decide) (by decide) k) ?_
    refine GoW.sg (mkF m 18 #[.val (.ref a1)] [(.int 0)]) (fun t k => XS.iconst X0.here hx rfl (hb hby d1_17) k) ?_
    refine GoW.retN X0 hx (t := .boolean) Bd.returns (by simp) (hb hby d1_18) Bd.notSynchronized ?_ (by decide) (by decide)
    rw [e0]
    have hq : (F1n3 w0 w1 w2) = (0 : Int32) := by unfold F1n3; rw [if_neg c11]; try rfl
    exact ⟨by rw [hq] <;> rfl, N0, rfl⟩
def F1n4 (w0 : Int64) (w1 : Int64) (w2 : Int64) (w3 : Int64) : Int32 := (if w0 = w3 then (1 : Int32) else (0 : Int32))
def Q1n4 (Z : State) (a1 : Addr) (k1 : ClassId) (w0 : Int64) (w1 : Int64) (w2 : Int64) (w3 : Int64) (h0 : Heap) (n0 : Nat) (v : Option Value) (h : Heap) (L : List Loc) : Prop := v = some (.int (F1n4 w0 w1 w2 w3)) ∧ Fr n0 L ∧ (h = h0)
theorem ef1_rm1n4 (m : MethodId) (a1 : Addr) : entryFrame m #[(.ref a1)] 1 = (mkF m 0 #[.val (.ref a1)] []) := by first | (simp [entryFrame, mkF, argsToLocals, Value.category, maxLocals]; done) | rfl
set_option maxRecDepth 65536 in
set_option maxHeartbeats 40000000 in
theorem rm1n4 (l : Launch) (Z : State) (a0 : Array Value) (hw : ∀ d ∈ tables_1, d.before a0 Z = true) (ws : List Jvm.Cond) (a1 : Addr) (k1 : ClassId) (w0 : Int64) (w1 : Int64) (w2 : Int64) (w3 : Int64) (h0 : Heap) (n0 : Nat) (P0 : Arv Z h0 a1 k1 .long (4 : Int32) [(.long w0), (.long w1), (.long w2), (.long w3)] (.long (0 : Int64)))    :
    MetFree l (⟨"com/example/saunter/saunter/scenery/Rings", "isClosed", "([J)Z"⟩ : MethodName) (head1 (Jvm.Cond.code (⟨"com/example/saunter/saunter/scenery/Rings", "isClosed", "([J)Z"⟩ : MethodName) prog_71_method_3_code 1 (some .boolean) :: ws) ({ frames := 0, cells := 0, slots := 0, locals := 0 } : Room)) (fun a U => a = #[(.ref a1)] ∧ Z.Warmed39 U.vm ∧ U.heap = h0) (fun _ _ _ _ _ => True) (fun _ U o U' => ∃ v L, o = .returned v ∧ (Q1n4 Z a1 k1 w0 w1 w2 w3 h0 n0) v U'.heap L ∧ FrameEnd U o U' L 0 0) := by
  refine MetFree.of_bodySF (plainFor_of_name pn_com_example_saunter_saunter_scenery_Rings) hisR ?_
  intro p e s m args below meth c s₁ Bd hml0 hP hK
  obtain ⟨rfl, hZ, hh⟩ := hP
  have hx := Bd.exec
  have hby := Bd.bytes
  have hml : c.maxLocals = 1 := hml0
  have hown : s.vm.findClass "com/example/saunter/saunter/scenery/Rings" = some m.cls := findClass_of_methodNamed Bd.named
  have hnm := (name_of_methodNamed Bd.named Bd.method).1
  have X0 : Stand p l e ({ frames := 0, cells := 0, slots := 0, locals := 0 } : Room) s m #[(.ref a1)] below meth c s₁ [] 0 0 := Stand.of_body Bd
  have e0 : s₁.heap = h0 := by rw [← hh, Bd.state]; rfl
  have N0 := Fr.nil n0
  refine GoW.mk ?_
  refine GoW.st (fun t k => castTop (ef1_rm1n4 m a1) k) ?_
  show GoW p e below s (Q1n4 Z a1 k1 w0 w1 w2 w3 h0 n0) 0 0 (s₁.setTop (mkF m 0 #[.val (.ref a1)] []))
  refine GoW.sg (mkF m 1 #[.val (.ref a1)] [(.ref a1)]) (fun t k => XS.aloadN X0.here hx rfl (hb hby d1_0) rfl rfl k) ?_
  refine GoW.sg (mkF m 2 #[.val (.ref a1)] [(.int 0), (.ref a1)]) (fun t k => XS.iconst X0.here hx rfl (hb hby d1_1) k) ?_
  obtain ⟨cl12, Ar12, q12, Sz12, Nn12, Hh12, Gg12⟩ := id P0
  have hin12 : ¬ ((0 : Int32) < 0 ∨ cl12.slots.size ≤ ((0 : Int32)).toNatClampNeg) := inb_of Sz12 ⟨by decide, by decide⟩
  refine GoW.sg (mkF m 3 #[.val (.ref a1)] [(.long w0)]) (fun t k => X0.laload hx (j := (0 : Int32)) (v := (.long w0)) (by rw [e0]; exact Ar12.1) (State.isArrayOf_alike hZ.alike Ar12.2.1) Ar12.2.2 hin12 (Hh12.at hin12 rfl) (g := (mkF m 2 #[.val (.ref a1)] [(.int 0), (.ref a1)])) rfl rfl (hb hby d1_2) t k) ?_
  refine GoW.sg (mkF m 4 #[.val (.ref a1)] [(.ref a1), (.long w0)]) (fun t k => XS.aloadN X0.here hx rfl (hb hby d1_3) rfl rfl k) ?_
  refine GoW.sg (mkF m 5 #[.val (.ref a1)] [(.ref a1), (.ref a1), (.long w0)]) (fun t k => XS.aloadN X0.here hx rfl (hb hby d1_4) rfl rfl k) ?_
  obtain ⟨cl13, Ar13, q13, Sz13, Nn13, Hh13, Gg13⟩ := id P0
  have st13 := X0.arraylength hx (by rw [e0]; exact Ar13.1) (State.isArrayOf_alike hZ.alike Ar13.2.1) (g := (mkF m 5 #[.val (.ref a1)] [(.ref a1), (.ref a1), (.long w0)])) rfl rfl (hb hby d1_5)
  rw [len_of Sz13 Nn13] at st13
  refine GoW.sg (mkF m 6 #[.val (.ref a1)] [(.int 4), (.ref a1), (.long w0)]) (fun t k => st13 t k) ?_
  refine GoW.sg (mkF m 7 #[.val (.ref a1)] [(.int 1), (.int 4), (.ref a1), (.long w0)]) (fun t k => XS.iconst X0.here hx rfl (hb hby d1_6) k) ?_
  refine GoW.st (fun t k => XS.isub X0.here hx rfl (hb hby d1_7) rfl k) ?_
  rw [show ((4 : Int32) - (1 : Int32)) = (3 : Int32) from by decide]
  show GoW p e below s (Q1n4 Z a1 k1 w0 w1 w2 w3 h0 n0) 0 0 (s₁.setTop (mkF m 8 #[.val (.ref a1)] [(.int 3), (.ref a1), (.long w0)]))
  obtain ⟨cl14, Ar14, q14, Sz14, Nn14, Hh14, Gg14⟩ := id P0
  have hin14 : ¬ ((3 : Int32) < 0 ∨ cl14.slots.size ≤ ((3 : Int32)).toNatClampNeg) := inb_of Sz14 ⟨by decide, by decide⟩
  refine GoW.sg (mkF m 9 #[.val (.ref a1)] [(.long w3), (.long w0)]) (fun t k => X0.laload hx (j := (3 : Int32)) (v := (.long w3)) (by rw [e0]; exact Ar14.1) (State.isArrayOf_alike hZ.alike Ar14.2.1) Ar14.2.2 hin14 (Hh14.at hin14 rfl) (g := (mkF m 8 #[.val (.ref a1)] [(.int 3), (.ref a1), (.long w0)])) rfl rfl (hb hby d1_8) t k) ?_
  refine GoW.sg (mkF m 10 #[.val (.ref a1)] [(.int (lcmpW w0 w3))]) (fun t k => XS.lcmp X0.here hx rfl (hb hby d1_9) rfl k) ?_
  by_cases c15 : w0 = w3
  · refine GoW.sg (mkF m 13 #[.val (.ref a1)] []) (fun t k => XS.ifNo X0.here hx rfl (hb hby d1_10) rfl ((if0 _ _).trans (teq ((lw_eq _ _).mpr c15)).2) k) ?_
    refine GoW.sg (mkF m 14 #[.val (.ref a1)] [(.int 1)]) (fun t k => XS.iconst X0.here hx rfl (hb hby d1_13) k) ?_
    refine GoW.sg (mkF m 18 #[.val (.ref a1)] [(.int 1)]) (fun t k => XS.goto X0.here hx rfl (pc0 := 14) (pc' := 18) rfl (hb hby d1_14) (by decide) (by decide) k) ?_
    refine GoW.retN X0 hx (t := .boolean) Bd.returns (by simp) (hb hby d1_18) Bd.notSynchronized ?_ (by decide) (by decide)
    rw [e0]
    have hq : (F1n4 w0 w1 w2 w3) = (1 : Int32) := by unfold F1n4; rw [if_pos c15]; try rfl
    exact ⟨by rw [hq] <;> rfl, N0, rfl⟩
  · refine GoW.sg (mkF m 17 #[.val (.ref a1)] []) (fun t k => XS.ifYes X0.here hx rfl (pc0 := 10) (pc' := 17) rfl (hb hby d1_10) rfl ((if0 _ _).trans (feq (mt (lw_eq _ _).mp c15)).2) (by decide) (by decide) k) ?_
    refine GoW.sg (mkF m 18 #[.val (.ref a1)] [(.int 0)]) (fun t k => XS.iconst X0.here hx rfl (hb hby d1_17) k) ?_
    refine GoW.retN X0 hx (t := .boolean) Bd.returns (by simp) (hb hby d1_18) Bd.notSynchronized ?_ (by decide) (by decide)
    rw [e0]
    have hq : (F1n4 w0 w1 w2 w3) = (0 : Int32) := by unfold F1n4; rw [if_neg c15]; try rfl
    exact ⟨by rw [hq] <;> rfl, N0, rfl⟩
def F0_5 (q1 : Int64) (q2 : Int64) (q3 : Int64) (q4 : Int64) (q5 : Int32) (z16 : Int32) (z17 : Int64) (b50 : Int32) : Int32 := (if (F1n4 q1 q3 q4 z17) = b50 then (1 : Int32) else (0 : Int32))
def F0_4 (q1 : Int64) (q2 : Int64) (q3 : Int64) (q4 : Int64) (q5 : Int32) (z16 : Int32) (z17 : Int64) (b39 : Int32) : Int32 := (if (F1n3 q1 q3 z17) = b39 then (1 : Int32) else (0 : Int32))
def F0_3 (q1 : Int64) (q2 : Int64) (q3 : Int64) (q4 : Int64) (q5 : Int32) (z16 : Int32) (z17 : Int64) (b28 : Int32) : Int32 := (if (F1n2 q1 z17) = b28 then (1 : Int32) else (0 : Int32))
def F0_2 (q1 : Int64) (q2 : Int64) (q3 : Int64) (q4 : Int64) (q5 : Int32) (z16 : Int32) (z17 : Int64) : Int32 := (if z16 = (1 : Int32) then (if (F1n1 q1) = (1 : Int32) then (1 : Int32) else (0 : Int32)) else (if z16 = (2 : Int32) then (F0_3 q1 q2 q3 q4 q5 z16 z17 (if q2 = (0 : Int64) then (1 : Int32) else (0 : Int32))) else (if z16 = (3 : Int32) then (F0_4 q1 q2 q3 q4 q5 z16 z17 (if q2 = (0 : Int64) then (1 : Int32) else (0 : Int32))) else (F0_5 q1 q2 q3 q4 q5 z16 z17 (if q2 = (0 : Int64) then (1 : Int32) else (0 : Int32))))))
def F0_1 (q1 : Int64) (q2 : Int64) (q3 : Int64) (q4 : Int64) (q5 : Int32) (z16 : Int32) : Int32 := (F0_2 q1 q2 q3 q4 q5 z16 (q1 ^^^ q2))
def F0 (q1 : Int64) (q2 : Int64) (q3 : Int64) (q4 : Int64) (q5 : Int32) : Int32 := (F0_1 q1 q2 q3 q4 q5 ((q5 &&& (3 : Int32)) + (1 : Int32)))
theorem ef0_rm0 (m : MethodId) (q1 : Int64) (q2 : Int64) (q3 : Int64) (q4 : Int64) (q5 : Int32) : entryFrame m #[(.long q1), (.long q2), (.long q3), (.long q4), (.int q5)] maxLocals = (mkF m 0 #[.val (.long q1), .second, .val (.long q2), .second, .val (.long q3), .second, .val (.long q4), .second, .val (.int q5), .unset, .unset, .unset, .unset, .unset] []) := by first | (simp [entryFrame, mkF, argsToLocals, Value.category, maxLocals]; done) | rfl
set_option maxRecDepth 65536 in
set_option maxHeartbeats 40000000 in
theorem rm0 (l : Launch) (Z : State) (a0 : Array Value) (hw : ∀ d ∈ tables_1, d.before a0 Z = true) (ws : List Jvm.Cond) (q1 : Int64) (q2 : Int64) (q3 : Int64) (q4 : Int64) (q5 : Int32)  (h0 : Heap) (n0 : Nat) (Z0 : n0 ≤ h0.size)    :
    MetFree l x (head1 (Jvm.Cond.code x code maxLocals ret :: ws) room_1) (fun a U => a = #[(.long q1), (.long q2), (.long q3), (.long q4), (.int q5)] ∧ Z.Warmed39 U.vm ∧ U.heap = h0) (fun _ _ _ _ _ => True) (fun _ U o U' => ∃ v L, o = .returned v ∧ (ValQ (.int (F0 q1 q2 q3 q4 q5)) n0) v U'.heap L ∧ FrameEnd U o U' L room_1.cells room_1.slots) := by
  refine MetFree.of_bodySF (plainFor_of_name pn_com_example_saunter_saunter_scenery_RingsIsClosedPinLaw) hisR ?_
  intro p e s m args below meth c s₁ Bd hml0 hP hK
  obtain ⟨rfl, hZ, hh⟩ := hP
  have hx := Bd.exec
  have hby := Bd.bytes
  have hml : c.maxLocals = 14 := hml0
  have hown : s.vm.findClass "com/example/saunter/saunter/scenery/RingsIsClosedPinLaw" = some m.cls := findClass_of_methodNamed Bd.named
  have hnm := (name_of_methodNamed Bd.named Bd.method).1
  have X0 : Stand p l e room_1 s m #[(.long q1), (.long q2), (.long q3), (.long q4), (.int q5)] below meth c s₁ [] 0 0 := Stand.of_body Bd
  have e0 : s₁.heap = h0 := by rw [← hh, Bd.state]; rfl
  have N0 := Fr.nil n0
  refine GoW.mk ?_
  refine GoW.st (fun t k => castTop (ef0_rm0 m q1 q2 q3 q4 q5) k) ?_
  show GoW p e below s (ValQ (.int (F0 q1 q2 q3 q4 q5)) n0) room_1.cells room_1.slots (s₁.setTop (mkF m 0 (K0 q1 q2 q3 q4 q5) []))
  refine GoW.sg (mkF m 2 (K0 q1 q2 q3 q4 q5) [(.int q5)]) (fun t k => XS.iload X0.here hx rfl (hb hby at_0) rfl k) ?_
  refine GoW.sg (mkF m 3 (K0 q1 q2 q3 q4 q5) [(.int 3), (.int q5)]) (fun t k => XS.iconst X0.here hx rfl (hb hby at_2) k) ?_
  refine GoW.sg (mkF m 4 (K0 q1 q2 q3 q4 q5) [(.int (q5 &&& (3 : Int32)))]) (fun t k => XS.iand X0.here hx rfl (hb hby at_3) rfl k) ?_
  refine GoW.sg (mkF m 5 (K0 q1 q2 q3 q4 q5) [(.int 1), (.int (q5 &&& (3 : Int32)))]) (fun t k => XS.iconst X0.here hx rfl (hb hby at_4) k) ?_
  refine GoW.sg (mkF m 6 (K0 q1 q2 q3 q4 q5) [(.int ((q5 &&& (3 : Int32)) + (1 : Int32)))]) (fun t k => XS.iadd X0.here hx rfl (hb hby at_5) rfl k) ?_
  refine GoW.sg (mkF m 8 (K1 q1 q2 q3 q4 q5 ((q5 &&& (3 : Int32)) + (1 : Int32))) []) (fun t k => XS.istore X0.here hx rfl (hb hby at_6) rfl (l' := (K1 q1 q2 q3 q4 q5 ((q5 &&& (3 : Int32)) + (1 : Int32)))) rfl k) ?_
  obtain ⟨z16, hz16⟩ : ∃ z : Int32, z = ((q5 &&& (3 : Int32)) + (1 : Int32)) := ⟨_, rfl⟩
  rw [← hz16]
  have hFz16 : (F0 q1 q2 q3 q4 q5) = (F0_1 q1 q2 q3 q4 q5 z16) := by unfold F0; rw [hz16]
  show GoW p e below s (ValQ (.int (F0 q1 q2 q3 q4 q5)) n0) room_1.cells room_1.slots (s₁.setTop (mkF m 8 (K1 q1 q2 q3 q4 q5 z16) []))
  refine GoW.sg (mkF m 9 (K1 q1 q2 q3 q4 q5 z16) [(.long q1)]) (fun t k => XS.lloadN X0.here hx rfl (hb hby at_8) rfl k) ?_
  refine GoW.sg (mkF m 10 (K1 q1 q2 q3 q4 q5 z16) [(.long q2), (.long q1)]) (fun t k => XS.lloadN X0.here hx rfl (hb hby at_9) rfl k) ?_
  refine GoW.sg (mkF m 11 (K1 q1 q2 q3 q4 q5 z16) [(.long (q1 ^^^ q2))]) (fun t k => XS.lxor X0.here hx rfl (hb hby at_10) rfl k) ?_
  refine GoW.sg (mkF m 13 (K2 q1 q2 q3 q4 q5 z16 (q1 ^^^ q2)) []) (fun t k => XS.lstore X0.here hx rfl (hb hby at_11) rfl (l' := (K2 q1 q2 q3 q4 q5 z16 (q1 ^^^ q2))) rfl k) ?_
  obtain ⟨z17, hz17⟩ : ∃ z : Int64, z = (q1 ^^^ q2) := ⟨_, rfl⟩
  rw [← hz17]
  have hFz17 : (F0_1 q1 q2 q3 q4 q5 z16) = (F0_2 q1 q2 q3 q4 q5 z16 z17) := by unfold F0_1; rw [hz17]
  show GoW p e below s (ValQ (.int (F0 q1 q2 q3 q4 q5)) n0) room_1.cells room_1.slots (s₁.setTop (mkF m 13 (K2 q1 q2 q3 q4 q5 z16 z17) []))
  refine GoW.sg (mkF m 15 (K2 q1 q2 q3 q4 q5 z16 z17) [(.int z16)]) (fun t k => XS.iload X0.here hx rfl (hb hby at_13) rfl k) ?_
  refine GoW.sg (mkF m 16 (K2 q1 q2 q3 q4 q5 z16 z17) [(.int 1), (.int z16)]) (fun t k => XS.iconst X0.here hx rfl (hb hby at_15) k) ?_
  by_cases c18 : z16 = (1 : Int32)
  · refine GoW.sg (mkF m 19 (K2 q1 q2 q3 q4 q5 z16 z17) []) (fun t k => XS.icmpNo X0.here hx rfl (hb hby at_16) rfl (teq c18).2 k) ?_
    refine GoW.sg (mkF m 20 (K2 q1 q2 q3 q4 q5 z16 z17) [(.int 1)]) (fun t k => XS.iconst X0.here hx rfl (hb hby at_19) k) ?_
    obtain ⟨T19, h19, k19, X19, e19, E19, A19, st19⟩ := newP X0 hx hZ (ww hw 0 rfl) e0 (g := (mkF m 20 (K2 q1 q2 q3 q4 q5 z16 z17) [(.int 1)])) rfl (hb hby at_20) rfl (by decide) (cap := 1) (by decide) (by decide) (by decide) (by decide)
    obtain ⟨b19, g19⟩ : ∃ z, z = h0.size := ⟨_, rfl⟩
    rw [← g19] at A19 st19
    have g_b19 : n0 ≤ b19 := Nat.le_trans Z0 (Nat.le_of_eq g19.symm)
    have Zs_19 : n0 ≤ h19.size := Nat.le_trans Z0 E19.1
    have Arv_b19_19 : Arv Z h19 b19 k19 .long (1 : Int32) [(.long (0 : Int64))] (.long (0 : Int64)) := (Arv.new A19 (by decide)).pad (pad_rep [] (.long (0 : Int64)) 1)
    refine GoW.sg (mkF m 22 (K2 q1 q2 q3 q4 q5 z16 z17) [(.ref b19)]) (fun t k => st19 t k) ?_
    refine GoW.sg (mkF m 23 (K2 q1 q2 q3 q4 q5 z16 z17) [(.ref b19), (.ref b19)]) (fun t k => XS.dup X19.here hx rfl (hb hby at_22) rfl rfl k) ?_
    refine GoW.sg (mkF m 24 (K2 q1 q2 q3 q4 q5 z16 z17) [(.int 0), (.ref b19), (.ref b19)]) (fun t k => XS.iconst X19.here hx rfl (hb hby at_23) k) ?_
    refine GoW.sg (mkF m 25 (K2 q1 q2 q3 q4 q5 z16 z17) [(.long q1), (.int 0), (.ref b19), (.ref b19)]) (fun t k => XS.lloadN X19.here hx rfl (hb hby at_24) rfl k) ?_
    obtain ⟨cl20, Ar20, q20, Sz20, Nn20, Hh20, Gg20⟩ := Arv_b19_19
    have hin20 : ¬ ((0 : Int32) < 0 ∨ cl20.slots.size ≤ ((0 : Int32)).toNatClampNeg) := inb_of Sz20 ⟨by decide, by decide⟩
    obtain ⟨T20, h20, X20, e20, W20, st20⟩ := stJ X19 hx hZ e19 Ar20 (j := (0 : Int32)) hin20 (g := (mkF m 25 (K2 q1 q2 q3 q4 q5 z16 z17) [(.long q1), (.int 0), (.ref b19), (.ref b19)])) rfl rfl (hb hby at_25)
    have Zs_20 : n0 ≤ h20.size := Nat.le_trans Zs_19 (Nat.le_of_eq W20.size.symm)
    have Arv_b19_20 : Arv Z h20 b19 k19 .long (1 : Int32) [(.long q1)] (.long (0 : Int64)) := Arv.set Ar20 q20 Sz20 Nn20 Hh20 Gg20 rfl W20 0 rfl (Nat.le_of_ble_eq_true rfl)
    have N20 := Fr.snoc X20 N0 g_b19
    refine GoW.sg (mkF m 26 (K2 q1 q2 q3 q4 q5 z16 z17) [(.ref b19)]) (fun t k => st20 t k) ?_
    refine GoW.sg (mkF m 28 (K3 q1 q2 q3 q4 q5 z16 z17 b19) []) (fun t k => XS.astore X20.here hx rfl (hb hby at_26) rfl rfl (l' := (K3 q1 q2 q3 q4 q5 z16 z17 b19)) rfl k) ?_
    refine GoW.sg (mkF m 106 (K3 q1 q2 q3 q4 q5 z16 z17 b19) []) (fun t k => XS.goto X20.here hx rfl (pc0 := 28) (pc' := 106) rfl (hb hby at_28) (by decide) (by decide) k) ?_
    refine GoW.sg (mkF m 108 (K3 q1 q2 q3 q4 q5 z16 z17 b19) [(.int z16)]) (fun t k => XS.iload X20.here hx rfl (hb hby at_106) rfl k) ?_
    refine GoW.sg (mkF m 109 (K3 q1 q2 q3 q4 q5 z16 z17 b19) [(.int 1), (.int z16)]) (fun t k => XS.iconst X20.here hx rfl (hb hby at_108) k) ?_
    refine GoW.sg (mkF m 118 (K3 q1 q2 q3 q4 q5 z16 z17 b19) []) (fun t k => XS.icmpYes X20.here hx rfl (pc0 := 109) (pc' := 118) rfl (hb hby at_109) rfl (teq c18).1 (by decide) (by decide) k) ?_
    refine GoW.sg (mkF m 119 (K3 q1 q2 q3 q4 q5 z16 z17 b19) [(.int 1)]) (fun t k => XS.iconst X20.here hx rfl (hb hby at_118) k) ?_
    refine GoW.sg (mkF m 123 (K3 q1 q2 q3 q4 q5 z16 z17 b19) [(.int 1)]) (fun t k => XS.goto X20.here hx rfl (pc0 := 119) (pc' := 123) rfl (hb hby at_119) (by decide) (by decide) k) ?_
    refine GoW.sg (mkF m 125 (K4 q1 q2 q3 q4 q5 z16 z17 b19 1) []) (fun t k => XS.istore X20.here hx rfl (hb hby at_123) rfl (l' := (K4 q1 q2 q3 q4 q5 z16 z17 b19 1)) rfl k) ?_
    refine GoW.sg (mkF m 127 (K4 q1 q2 q3 q4 q5 z16 z17 b19 1) [(.ref b19)]) (fun t k => XS.aload X20.here hx rfl (hb hby at_125) rfl rfl k) ?_
    obtain ⟨_, _, ⟨T21, L21, k21, n21⟩, -, X21, ⟨Lc21, hQ21, l21, y21, z21⟩, st21⟩ := Jvm.LawKit.callS X20 hx (y := (⟨"com/example/saunter/saunter/scenery/Rings", "isClosed", "([J)Z"⟩ : MethodName)) hown (mvT hZ (ww hw 1 rfl)) (mvT hZ (ww hw 2 rfl)) (mvT hZ (ww hw 3 rfl)) (mvT hZ (ww hw 4 rfl)) (by decide) (backOf (W := 0) (rm1n1 l Z a0 hw [] b19 k19 q1 h20 n0  Arv_b19_20   ) hZ (ww hw 4 rfl) (ww hw 3 rfl) (by decide) (by decide)) (g := (mkF m 127 (K4 q1 q2 q3 q4 q5 z16 z17 b19 1) [(.ref b19)])) rfl (by rw [hml]; rfl) (argsL := [(.ref b19)]) (rest := []) (lenOf pd_285bJ29Z rfl) rfl (by show 2 * 0 + _ ≤ _; exact Nat.le_of_eq rfl) (hb hby at_127) (fun _ _ => ⟨rfl, e20, (by decide : 1 + 0 ≤ _), (by decide : 1 + 0 ≤ _)⟩)
    dsimp only [Pt.U, Pt.locs, Pt.cells, Pt.slots] at X21 l21 y21 z21 st21 hQ21
    subst l21 y21 z21
    obtain ⟨rfl, N21q, e21⟩ := hQ21
    have N21 := Fr.app N20 N21q
    refine GoW.sg (mkF m 130 (K4 q1 q2 q3 q4 q5 z16 z17 b19 1) [(.int (F1n1 q1))]) (fun t k => st21 t k) ?_
    refine GoW.sg (mkF m 132 (K4 q1 q2 q3 q4 q5 z16 z17 b19 1) [(.int 1), (.int (F1n1 q1))]) (fun t k => XS.iload X21.here hx rfl (hb hby at_130) rfl k) ?_
    by_cases c22 : (F1n1 q1) = (1 : Int32)
    · refine GoW.sg (mkF m 135 (K4 q1 q2 q3 q4 q5 z16 z17 b19 1) []) (fun t k => XS.icmpNo X21.here hx rfl (hb hby at_132) rfl (teq c22).2 k) ?_
      refine GoW.sg (mkF m 136 (K4 q1 q2 q3 q4 q5 z16 z17 b19 1) [(.int 1)]) (fun t k => XS.iconst X21.here hx rfl (hb hby at_135) k) ?_
      refine GoW.sg (mkF m 140 (K4 q1 q2 q3 q4 q5 z16 z17 b19 1) [(.int 1)]) (fun t k => XS.goto X21.here hx rfl (pc0 := 136) (pc' := 140) rfl (hb hby at_136) (by decide) (by decide) k) ?_
      refine GoW.retN X21 hx (t := .boolean) Bd.returns (by simp) (hb hby at_140) Bd.notSynchronized ?_ (by decide) (by decide)
      have hq : (F0 q1 q2 q3 q4 q5) = (1 : Int32) := by rw [hFz16, hFz17]; unfold F0_2; rw [if_pos c18, if_pos c22]; try rfl
      exact ⟨by rw [hq] <;> rfl, N21⟩
    · refine GoW.sg (mkF m 139 (K4 q1 q2 q3 q4 q5 z16 z17 b19 1) []) (fun t k => XS.icmpYes X21.here hx rfl (pc0 := 132) (pc' := 139) rfl (hb hby at_132) rfl (feq c22).2 (by decide) (by decide) k) ?_
      refine GoW.sg (mkF m 140 (K4 q1 q2 q3 q4 q5 z16 z17 b19 1) [(.int 0)]) (fun t k => XS.iconst X21.here hx rfl (hb hby at_139) k) ?_
      refine GoW.retN X21 hx (t := .boolean) Bd.returns (by simp) (hb hby at_140) Bd.notSynchronized ?_ (by decide) (by decide)
      have hq : (F0 q1 q2 q3 q4 q5) = (0 : Int32) := by rw [hFz16, hFz17]; unfold F0_2; rw [if_pos c18, if_neg c22]; try rfl
      exact ⟨by rw [hq] <;> rfl, N21⟩
  · refine GoW.sg (mkF m 31 (K2 q1 q2 q3 q4 q5 z16 z17) []) (fun t k => XS.icmpYes X0.here hx rfl (pc0 := 16) (pc' := 31) rfl (hb hby at_16) rfl (feq c18).2 (by decide) (by decide) k) ?_
    refine GoW.sg (mkF m 33 (K2 q1 q2 q3 q4 q5 z16 z17) [(.int z16)]) (fun t k => XS.iload X0.here hx rfl (hb hby at_31) rfl k) ?_
    refine GoW.sg (mkF m 34 (K2 q1 q2 q3 q4 q5 z16 z17) [(.int 2), (.int z16)]) (fun t k => XS.iconst X0.here hx rfl (hb hby at_33) k) ?_
    by_cases c23 : z16 = (2 : Int32)
    · refine GoW.sg (mkF m 37 (K2 q1 q2 q3 q4 q5 z16 z17) []) (fun t k => XS.icmpNo X0.here hx rfl (hb hby at_34) rfl (teq c23).2 k) ?_
      refine GoW.sg (mkF m 38 (K2 q1 q2 q3 q4 q5 z16 z17) [(.int 2)]) (fun t k => XS.iconst X0.here hx rfl (hb hby at_37) k) ?_
      obtain ⟨T24, h24, k24, X24, e24, E24, A24, st24⟩ := newP X0 hx hZ (ww hw 0 rfl) e0 (g := (mkF m 38 (K2 q1 q2 q3 q4 q5 z16 z17) [(.int 2)])) rfl (hb hby at_38) rfl (by decide) (cap := 2) (by decide) (by decide) (by decide) (by decide)
      obtain ⟨b24, g24⟩ : ∃ z, z = h0.size := ⟨_, rfl⟩
      rw [← g24] at A24 st24
      have g_b24 : n0 ≤ b24 := Nat.le_trans Z0 (Nat.le_of_eq g24.symm)
      have Zs_24 : n0 ≤ h24.size := Nat.le_trans Z0 E24.1
      have Arv_b24_24 : Arv Z h24 b24 k24 .long (2 : Int32) [(.long (0 : Int64)), (.long (0 : Int64))] (.long (0 : Int64)) := (Arv.new A24 (by decide)).pad (pad_rep [] (.long (0 : Int64)) 2)
      refine GoW.sg (mkF m 40 (K2 q1 q2 q3 q4 q5 z16 z17) [(.ref b24)]) (fun t k => st24 t k) ?_
      refine GoW.sg (mkF m 41 (K2 q1 q2 q3 q4 q5 z16 z17) [(.ref b24), (.ref b24)]) (fun t k => XS.dup X24.here hx rfl (hb hby at_40) rfl rfl k) ?_
      refine GoW.sg (mkF m 42 (K2 q1 q2 q3 q4 q5 z16 z17) [(.int 0), (.ref b24), (.ref b24)]) (fun t k => XS.iconst X24.here hx rfl (hb hby at_41) k) ?_
      refine GoW.sg (mkF m 43 (K2 q1 q2 q3 q4 q5 z16 z17) [(.long q1), (.int 0), (.ref b24), (.ref b24)]) (fun t k => XS.lloadN X24.here hx rfl (hb hby at_42) rfl k) ?_
      obtain ⟨cl25, Ar25, q25, Sz25, Nn25, Hh25, Gg25⟩ := Arv_b24_24
      have hin25 : ¬ ((0 : Int32) < 0 ∨ cl25.slots.size ≤ ((0 : Int32)).toNatClampNeg) := inb_of Sz25 ⟨by decide, by decide⟩
      obtain ⟨T25, h25, X25, e25, W25, st25⟩ := stJ X24 hx hZ e24 Ar25 (j := (0 : Int32)) hin25 (g := (mkF m 43 (K2 q1 q2 q3 q4 q5 z16 z17) [(.long q1), (.int 0), (.ref b24), (.ref b24)])) rfl rfl (hb hby at_43)
      have Zs_25 : n0 ≤ h25.size := Nat.le_trans Zs_24 (Nat.le_of_eq W25.size.symm)
      have Arv_b24_25 : Arv Z h25 b24 k24 .long (2 : Int32) [(.long q1), (.long (0 : Int64))] (.long (0 : Int64)) := Arv.set Ar25 q25 Sz25 Nn25 Hh25 Gg25 rfl W25 0 rfl (Nat.le_of_ble_eq_true rfl)
      have N25 := Fr.snoc X25 N0 g_b24
      refine GoW.sg (mkF m 44 (K2 q1 q2 q3 q4 q5 z16 z17) [(.ref b24)]) (fun t k => st25 t k) ?_
      refine GoW.sg (mkF m 45 (K2 q1 q2 q3 q4 q5 z16 z17) [(.ref b24), (.ref b24)]) (fun t k => XS.dup X25.here hx rfl (hb hby at_44) rfl rfl k) ?_
      refine GoW.sg (mkF m 46 (K2 q1 q2 q3 q4 q5 z16 z17) [(.int 1), (.ref b24), (.ref b24)]) (fun t k => XS.iconst X25.here hx rfl (hb hby at_45) k) ?_
      refine GoW.sg (mkF m 48 (K2 q1 q2 q3 q4 q5 z16 z17) [(.long z17), (.int 1), (.ref b24), (.ref b24)]) (fun t k => XS.lload X25.here hx rfl (hb hby at_46) rfl k) ?_
      obtain ⟨cl26, Ar26, q26, Sz26, Nn26, Hh26, Gg26⟩ := Arv_b24_25
      have hin26 : ¬ ((1 : Int32) < 0 ∨ cl26.slots.size ≤ ((1 : Int32)).toNatClampNeg) := inb_of Sz26 ⟨by decide, by decide⟩
      obtain ⟨T26, h26, X26, e26, W26, st26⟩ := stJ X25 hx hZ e25 Ar26 (j := (1 : Int32)) hin26 (g := (mkF m 48 (K2 q1 q2 q3 q4 q5 z16 z17) [(.long z17), (.int 1), (.ref b24), (.ref b24)])) rfl rfl (hb hby at_48)
      have Zs_26 : n0 ≤ h26.size := Nat.le_trans Zs_25 (Nat.le_of_eq W26.size.symm)
      have Arv_b24_26 : Arv Z h26 b24 k24 .long (2 : Int32) [(.long q1), (.long z17)] (.long (0 : Int64)) := Arv.set Ar26 q26 Sz26 Nn26 Hh26 Gg26 rfl W26 1 rfl (Nat.le_of_ble_eq_true rfl)
      have N26 := Fr.snoc X26 N25 g_b24
      refine GoW.sg (mkF m 49 (K2 q1 q2 q3 q4 q5 z16 z17) [(.ref b24)]) (fun t k => st26 t k) ?_
      refine GoW.sg (mkF m 51 (K3 q1 q2 q3 q4 q5 z16 z17 b24) []) (fun t k => XS.astore X26.here hx rfl (hb hby at_49) rfl rfl (l' := (K3 q1 q2 q3 q4 q5 z16 z17 b24)) rfl k) ?_
      refine GoW.sg (mkF m 106 (K3 q1 q2 q3 q4 q5 z16 z17 b24) []) (fun t k => XS.goto X26.here hx rfl (pc0 := 51) (pc' := 106) rfl (hb hby at_51) (by decide) (by decide) k) ?_
      refine GoW.sg (mkF m 108 (K3 q1 q2 q3 q4 q5 z16 z17 b24) [(.int z16)]) (fun t k => XS.iload X26.here hx rfl (hb hby at_106) rfl k) ?_
      refine GoW.sg (mkF m 109 (K3 q1 q2 q3 q4 q5 z16 z17 b24) [(.int 1), (.int z16)]) (fun t k => XS.iconst X26.here hx rfl (hb hby at_108) k) ?_
      refine GoW.sg (mkF m 112 (K3 q1 q2 q3 q4 q5 z16 z17 b24) []) (fun t k => XS.icmpNo X26.here hx rfl (hb hby at_109) rfl (feq c18).1 k) ?_
      refine GoW.sg (mkF m 113 (K3 q1 q2 q3 q4 q5 z16 z17 b24) [(.long q2)]) (fun t k => XS.lloadN X26.here hx rfl (hb hby at_112) rfl k) ?_
      refine GoW.sg (mkF m 114 (K3 q1 q2 q3 q4 q5 z16 z17 b24) [(.long 0), (.long q2)]) (fun t k => XS.lconst X26.here hx rfl (hb hby at_113) k) ?_
      refine GoW.sg (mkF m 115 (K3 q1 q2 q3 q4 q5 z16 z17 b24) [(.int (lcmpW q2 (0 : Int64)))]) (fun t k => XS.lcmp X26.here hx rfl (hb hby at_114) rfl k) ?_
      have J123_29 : ∀ b28 : Int32, b28 = (if q2 = (0 : Int64) then (1 : Int32) else (0 : Int32)) → GoW p e below s (ValQ (.int (F0 q1 q2 q3 q4 q5)) n0) room_1.cells room_1.slots (T26.setTop (mkF m 123 (K3 q1 q2 q3 q4 q5 z16 z17 b24) [(.int b28)])) := by
        intro b28 hb28
        have hFb28 : (F0_2 q1 q2 q3 q4 q5 z16 z17) = (F0_3 q1 q2 q3 q4 q5 z16 z17 b28) := by unfold F0_2; rw [if_neg c18, if_pos c23]; rw [hb28]
        refine GoW.sg (mkF m 125 (K4 q1 q2 q3 q4 q5 z16 z17 b24 b28) []) (fun t k => XS.istore X26.here hx rfl (hb hby at_123) rfl (l' := (K4 q1 q2 q3 q4 q5 z16 z17 b24 b28)) rfl k) ?_
        refine GoW.sg (mkF m 127 (K4 q1 q2 q3 q4 q5 z16 z17 b24 b28) [(.ref b24)]) (fun t k => XS.aload X26.here hx rfl (hb hby at_125) rfl rfl k) ?_
        obtain ⟨_, _, ⟨T31, L31, k31, n31⟩, -, X31, ⟨Lc31, hQ31, l31, y31, z31⟩, st31⟩ := Jvm.LawKit.callS X26 hx (y := (⟨"com/example/saunter/saunter/scenery/Rings", "isClosed", "([J)Z"⟩ : MethodName)) hown (mvT hZ (ww hw 1 rfl)) (mvT hZ (ww hw 2 rfl)) (mvT hZ (ww hw 3 rfl)) (mvT hZ (ww hw 4 rfl)) (by decide) (backOf (W := 0) (rm1n2 l Z a0 hw [] b24 k24 q1 z17 h26 n0  Arv_b24_26   ) hZ (ww hw 4 rfl) (ww hw 3 rfl) (by decide) (by decide)) (g := (mkF m 127 (K4 q1 q2 q3 q4 q5 z16 z17 b24 b28) [(.ref b24)])) rfl (by rw [hml]; rfl) (argsL := [(.ref b24)]) (rest := []) (lenOf pd_285bJ29Z rfl) rfl (by show 2 * 0 + _ ≤ _; exact Nat.le_of_eq rfl) (hb hby at_127) (fun _ _ => ⟨rfl, e26, (by decide : 1 + 0 ≤ _), (by decide : 2 + 0 ≤ _)⟩)
        dsimp only [Pt.U, Pt.locs, Pt.cells, Pt.slots] at X31 l31 y31 z31 st31 hQ31
        subst l31 y31 z31
        obtain ⟨rfl, N31q, e31⟩ := hQ31
        have N31 := Fr.app N26 N31q
        refine GoW.sg (mkF m 130 (K4 q1 q2 q3 q4 q5 z16 z17 b24 b28) [(.int (F1n2 q1 z17))]) (fun t k => st31 t k) ?_
        refine GoW.sg (mkF m 132 (K4 q1 q2 q3 q4 q5 z16 z17 b24 b28) [(.int b28), (.int (F1n2 q1 z17))]) (fun t k => XS.iload X31.here hx rfl (hb hby at_130) rfl k) ?_
        by_cases c32 : (F1n2 q1 z17) = b28
        · refine GoW.sg (mkF m 135 (K4 q1 q2 q3 q4 q5 z16 z17 b24 b28) []) (fun t k => XS.icmpNo X31.here hx rfl (hb hby at_132) rfl (teq c32).2 k) ?_
          refine GoW.sg (mkF m 136 (K4 q1 q2 q3 q4 q5 z16 z17 b24 b28) [(.int 1)]) (fun t k => XS.iconst X31.here hx rfl (hb hby at_135) k) ?_
          refine GoW.sg (mkF m 140 (K4 q1 q2 q3 q4 q5 z16 z17 b24 b28) [(.int 1)]) (fun t k => XS.goto X31.here hx rfl (pc0 := 136) (pc' := 140) rfl (hb hby at_136) (by decide) (by decide) k) ?_
          refine GoW.retN X31 hx (t := .boolean) Bd.returns (by simp) (hb hby at_140) Bd.notSynchronized ?_ (by decide) (by decide)
          have hq : (F0 q1 q2 q3 q4 q5) = (1 : Int32) := by rw [hFz16, hFz17, hFb28]; unfold F0_3; rw [if_pos c32]; try rfl
          exact ⟨by rw [hq] <;> rfl, N31⟩
        · refine GoW.sg (mkF m 139 (K4 q1 q2 q3 q4 q5 z16 z17 b24 b28) []) (fun t k => XS.icmpYes X31.here hx rfl (pc0 := 132) (pc' := 139) rfl (hb hby at_132) rfl (feq c32).2 (by decide) (by decide) k) ?_
          refine GoW.sg (mkF m 140 (K4 q1 q2 q3 q4 q5 z16 z17 b24 b28) [(.int 0)]) (fun t k => XS.iconst X31.here hx rfl (hb hby at_139) k) ?_
          refine GoW.retN X31 hx (t := .boolean) Bd.returns (by simp) (hb hby at_140) Bd.notSynchronized ?_ (by decide) (by decide)
          have hq : (F0 q1 q2 q3 q4 q5) = (0 : Int32) := by rw [hFz16, hFz17, hFb28]; unfold F0_3; rw [if_neg c32]; try rfl
          exact ⟨by rw [hq] <;> rfl, N31⟩
      by_cases c30 : q2 = (0 : Int64)
      · refine GoW.sg (mkF m 118 (K3 q1 q2 q3 q4 q5 z16 z17 b24) []) (fun t k => XS.ifNo X26.here hx rfl (hb hby at_115) rfl ((if0 _ _).trans (teq ((lw_eq _ _).mpr c30)).2) k) ?_
        refine GoW.sg (mkF m 119 (K3 q1 q2 q3 q4 q5 z16 z17 b24) [(.int 1)]) (fun t k => XS.iconst X26.here hx rfl (hb hby at_118) k) ?_
        refine GoW.sg (mkF m 123 (K3 q1 q2 q3 q4 q5 z16 z17 b24) [(.int 1)]) (fun t k => XS.goto X26.here hx rfl (pc0 := 119) (pc' := 123) rfl (hb hby at_119) (by decide) (by decide) k) ?_
        exact J123_29 _ (by rw [if_pos c30])
      · refine GoW.sg (mkF m 122 (K3 q1 q2 q3 q4 q5 z16 z17 b24) []) (fun t k => XS.ifYes X26.here hx rfl (pc0 := 115) (pc' := 122) rfl (hb hby at_115) rfl ((if0 _ _).trans (feq (mt (lw_eq _ _).mp c30)).2) (by decide) (by decide) k) ?_
        refine GoW.sg (mkF m 123 (K3 q1 q2 q3 q4 q5 z16 z17 b24) [(.int 0)]) (fun t k => XS.iconst X26.here hx rfl (hb hby at_122) k) ?_
        exact J123_29 _ (by rw [if_neg c30])
    · refine GoW.sg (mkF m 54 (K2 q1 q2 q3 q4 q5 z16 z17) []) (fun t k => XS.icmpYes X0.here hx rfl (pc0 := 34) (pc' := 54) rfl (hb hby at_34) rfl (feq c23).2 (by decide) (by decide) k) ?_
      refine GoW.sg (mkF m 56 (K2 q1 q2 q3 q4 q5 z16 z17) [(.int z16)]) (fun t k => XS.iload X0.here hx rfl (hb hby at_54) rfl k) ?_
      refine GoW.sg (mkF m 57 (K2 q1 q2 q3 q4 q5 z16 z17) [(.int 3), (.int z16)]) (fun t k => XS.iconst X0.here hx rfl (hb hby at_56) k) ?_
      by_cases c33 : z16 = (3 : Int32)
      · refine GoW.sg (mkF m 60 (K2 q1 q2 q3 q4 q5 z16 z17) []) (fun t k => XS.icmpNo X0.here hx rfl (hb hby at_57) rfl (teq c33).2 k) ?_
        refine GoW.sg (mkF m 61 (K2 q1 q2 q3 q4 q5 z16 z17) [(.int 3)]) (fun t k => XS.iconst X0.here hx rfl (hb hby at_60) k) ?_
        obtain ⟨T34, h34, k34, X34, e34, E34, A34, st34⟩ := newP X0 hx hZ (ww hw 0 rfl) e0 (g := (mkF m 61 (K2 q1 q2 q3 q4 q5 z16 z17) [(.int 3)])) rfl (hb hby at_61) rfl (by decide) (cap := 3) (by decide) (by decide) (by decide) (by decide)
        obtain ⟨b34, g34⟩ : ∃ z, z = h0.size := ⟨_, rfl⟩
        rw [← g34] at A34 st34
        have g_b34 : n0 ≤ b34 := Nat.le_trans Z0 (Nat.le_of_eq g34.symm)
        have Zs_34 : n0 ≤ h34.size := Nat.le_trans Z0 E34.1
        have Arv_b34_34 : Arv Z h34 b34 k34 .long (3 : Int32) [(.long (0 : Int64)), (.long (0 : Int64)), (.long (0 : Int64))] (.long (0 : Int64)) := (Arv.new A34 (by decide)).pad (pad_rep [] (.long (0 : Int64)) 3)
        refine GoW.sg (mkF m 63 (K2 q1 q2 q3 q4 q5 z16 z17) [(.ref b34)]) (fun t k => st34 t k) ?_
        refine GoW.sg (mkF m 64 (K2 q1 q2 q3 q4 q5 z16 z17) [(.ref b34), (.ref b34)]) (fun t k => XS.dup X34.here hx rfl (hb hby at_63) rfl rfl k) ?_
        refine GoW.sg (mkF m 65 (K2 q1 q2 q3 q4 q5 z16 z17) [(.int 0), (.ref b34), (.ref b34)]) (fun t k => XS.iconst X34.here hx rfl (hb hby at_64) k) ?_
        refine GoW.sg (mkF m 66 (K2 q1 q2 q3 q4 q5 z16 z17) [(.long q1), (.int 0), (.ref b34), (.ref b34)]) (fun t k => XS.lloadN X34.here hx rfl (hb hby at_65) rfl k) ?_
        obtain ⟨cl35, Ar35, q35, Sz35, Nn35, Hh35, Gg35⟩ := Arv_b34_34
        have hin35 : ¬ ((0 : Int32) < 0 ∨ cl35.slots.size ≤ ((0 : Int32)).toNatClampNeg) := inb_of Sz35 ⟨by decide, by decide⟩
        obtain ⟨T35, h35, X35, e35, W35, st35⟩ := stJ X34 hx hZ e34 Ar35 (j := (0 : Int32)) hin35 (g := (mkF m 66 (K2 q1 q2 q3 q4 q5 z16 z17) [(.long q1), (.int 0), (.ref b34), (.ref b34)])) rfl rfl (hb hby at_66)
        have Zs_35 : n0 ≤ h35.size := Nat.le_trans Zs_34 (Nat.le_of_eq W35.size.symm)
        have Arv_b34_35 : Arv Z h35 b34 k34 .long (3 : Int32) [(.long q1), (.long (0 : Int64)), (.long (0 : Int64))] (.long (0 : Int64)) := Arv.set Ar35 q35 Sz35 Nn35 Hh35 Gg35 rfl W35 0 rfl (Nat.le_of_ble_eq_true rfl)
        have N35 := Fr.snoc X35 N0 g_b34
        refine GoW.sg (mkF m 67 (K2 q1 q2 q3 q4 q5 z16 z17) [(.ref b34)]) (fun t k => st35 t k) ?_
        refine GoW.sg (mkF m 68 (K2 q1 q2 q3 q4 q5 z16 z17) [(.ref b34), (.ref b34)]) (fun t k => XS.dup X35.here hx rfl (hb hby at_67) rfl rfl k) ?_
        refine GoW.sg (mkF m 69 (K2 q1 q2 q3 q4 q5 z16 z17) [(.int 1), (.ref b34), (.ref b34)]) (fun t k => XS.iconst X35.here hx rfl (hb hby at_68) k) ?_
        refine GoW.sg (mkF m 71 (K2 q1 q2 q3 q4 q5 z16 z17) [(.long q3), (.int 1), (.ref b34), (.ref b34)]) (fun t k => XS.lload X35.here hx rfl (hb hby at_69) rfl k) ?_
        obtain ⟨cl36, Ar36, q36, Sz36, Nn36, Hh36, Gg36⟩ := Arv_b34_35
        have hin36 : ¬ ((1 : Int32) < 0 ∨ cl36.slots.size ≤ ((1 : Int32)).toNatClampNeg) := inb_of Sz36 ⟨by decide, by decide⟩
        obtain ⟨T36, h36, X36, e36, W36, st36⟩ := stJ X35 hx hZ e35 Ar36 (j := (1 : Int32)) hin36 (g := (mkF m 71 (K2 q1 q2 q3 q4 q5 z16 z17) [(.long q3), (.int 1), (.ref b34), (.ref b34)])) rfl rfl (hb hby at_71)
        have Zs_36 : n0 ≤ h36.size := Nat.le_trans Zs_35 (Nat.le_of_eq W36.size.symm)
        have Arv_b34_36 : Arv Z h36 b34 k34 .long (3 : Int32) [(.long q1), (.long q3), (.long (0 : Int64))] (.long (0 : Int64)) := Arv.set Ar36 q36 Sz36 Nn36 Hh36 Gg36 rfl W36 1 rfl (Nat.le_of_ble_eq_true rfl)
        have N36 := Fr.snoc X36 N35 g_b34
        refine GoW.sg (mkF m 72 (K2 q1 q2 q3 q4 q5 z16 z17) [(.ref b34)]) (fun t k => st36 t k) ?_
        refine GoW.sg (mkF m 73 (K2 q1 q2 q3 q4 q5 z16 z17) [(.ref b34), (.ref b34)]) (fun t k => XS.dup X36.here hx rfl (hb hby at_72) rfl rfl k) ?_
        refine GoW.sg (mkF m 74 (K2 q1 q2 q3 q4 q5 z16 z17) [(.int 2), (.ref b34), (.ref b34)]) (fun t k => XS.iconst X36.here hx rfl (hb hby at_73) k) ?_
        refine GoW.sg (mkF m 76 (K2 q1 q2 q3 q4 q5 z16 z17) [(.long z17), (.int 2), (.ref b34), (.ref b34)]) (fun t k => XS.lload X36.here hx rfl (hb hby at_74) rfl k) ?_
        obtain ⟨cl37, Ar37, q37, Sz37, Nn37, Hh37, Gg37⟩ := Arv_b34_36
        have hin37 : ¬ ((2 : Int32) < 0 ∨ cl37.slots.size ≤ ((2 : Int32)).toNatClampNeg) := inb_of Sz37 ⟨by decide, by decide⟩
        obtain ⟨T37, h37, X37, e37, W37, st37⟩ := stJ X36 hx hZ e36 Ar37 (j := (2 : Int32)) hin37 (g := (mkF m 76 (K2 q1 q2 q3 q4 q5 z16 z17) [(.long z17), (.int 2), (.ref b34), (.ref b34)])) rfl rfl (hb hby at_76)
        have Zs_37 : n0 ≤ h37.size := Nat.le_trans Zs_36 (Nat.le_of_eq W37.size.symm)
        have Arv_b34_37 : Arv Z h37 b34 k34 .long (3 : Int32) [(.long q1), (.long q3), (.long z17)] (.long (0 : Int64)) := Arv.set Ar37 q37 Sz37 Nn37 Hh37 Gg37 rfl W37 2 rfl (Nat.le_of_ble_eq_true rfl)
        have N37 := Fr.snoc X37 N36 g_b34
        refine GoW.sg (mkF m 77 (K2 q1 q2 q3 q4 q5 z16 z17) [(.ref b34)]) (fun t k => st37 t k) ?_
        refine GoW.sg (mkF m 79 (K3 q1 q2 q3 q4 q5 z16 z17 b34) []) (fun t k => XS.astore X37.here hx rfl (hb hby at_77) rfl rfl (l' := (K3 q1 q2 q3 q4 q5 z16 z17 b34)) rfl k) ?_
        refine GoW.sg (mkF m 106 (K3 q1 q2 q3 q4 q5 z16 z17 b34) []) (fun t k => XS.goto X37.here hx rfl (pc0 := 79) (pc' := 106) rfl (hb hby at_79) (by decide) (by decide) k) ?_
        refine GoW.sg (mkF m 108 (K3 q1 q2 q3 q4 q5 z16 z17 b34) [(.int z16)]) (fun t k => XS.iload X37.here hx rfl (hb hby at_106) rfl k) ?_
        refine GoW.sg (mkF m 109 (K3 q1 q2 q3 q4 q5 z16 z17 b34) [(.int 1), (.int z16)]) (fun t k => XS.iconst X37.here hx rfl (hb hby at_108) k) ?_
        refine GoW.sg (mkF m 112 (K3 q1 q2 q3 q4 q5 z16 z17 b34) []) (fun t k => XS.icmpNo X37.here hx rfl (hb hby at_109) rfl (feq c18).1 k) ?_
        refine GoW.sg (mkF m 113 (K3 q1 q2 q3 q4 q5 z16 z17 b34) [(.long q2)]) (fun t k => XS.lloadN X37.here hx rfl (hb hby at_112) rfl k) ?_
        refine GoW.sg (mkF m 114 (K3 q1 q2 q3 q4 q5 z16 z17 b34) [(.long 0), (.long q2)]) (fun t k => XS.lconst X37.here hx rfl (hb hby at_113) k) ?_
        refine GoW.sg (mkF m 115 (K3 q1 q2 q3 q4 q5 z16 z17 b34) [(.int (lcmpW q2 (0 : Int64)))]) (fun t k => XS.lcmp X37.here hx rfl (hb hby at_114) rfl k) ?_
        have J123_40 : ∀ b39 : Int32, b39 = (if q2 = (0 : Int64) then (1 : Int32) else (0 : Int32)) → GoW p e below s (ValQ (.int (F0 q1 q2 q3 q4 q5)) n0) room_1.cells room_1.slots (T37.setTop (mkF m 123 (K3 q1 q2 q3 q4 q5 z16 z17 b34) [(.int b39)])) := by
          intro b39 hb39
          have hFb39 : (F0_2 q1 q2 q3 q4 q5 z16 z17) = (F0_4 q1 q2 q3 q4 q5 z16 z17 b39) := by unfold F0_2; rw [if_neg c18, if_neg c23, if_pos c33]; rw [hb39]
          refine GoW.sg (mkF m 125 (K4 q1 q2 q3 q4 q5 z16 z17 b34 b39) []) (fun t k => XS.istore X37.here hx rfl (hb hby at_123) rfl (l' := (K4 q1 q2 q3 q4 q5 z16 z17 b34 b39)) rfl k) ?_
          refine GoW.sg (mkF m 127 (K4 q1 q2 q3 q4 q5 z16 z17 b34 b39) [(.ref b34)]) (fun t k => XS.aload X37.here hx rfl (hb hby at_125) rfl rfl k) ?_
          obtain ⟨_, _, ⟨T42, L42, k42, n42⟩, -, X42, ⟨Lc42, hQ42, l42, y42, z42⟩, st42⟩ := Jvm.LawKit.callS X37 hx (y := (⟨"com/example/saunter/saunter/scenery/Rings", "isClosed", "([J)Z"⟩ : MethodName)) hown (mvT hZ (ww hw 1 rfl)) (mvT hZ (ww hw 2 rfl)) (mvT hZ (ww hw 3 rfl)) (mvT hZ (ww hw 4 rfl)) (by decide) (backOf (W := 0) (rm1n3 l Z a0 hw [] b34 k34 q1 q3 z17 h37 n0  Arv_b34_37   ) hZ (ww hw 4 rfl) (ww hw 3 rfl) (by decide) (by decide)) (g := (mkF m 127 (K4 q1 q2 q3 q4 q5 z16 z17 b34 b39) [(.ref b34)])) rfl (by rw [hml]; rfl) (argsL := [(.ref b34)]) (rest := []) (lenOf pd_285bJ29Z rfl) rfl (by show 2 * 0 + _ ≤ _; exact Nat.le_of_eq rfl) (hb hby at_127) (fun _ _ => ⟨rfl, e37, (by decide : 1 + 0 ≤ _), (by decide : 3 + 0 ≤ _)⟩)
          dsimp only [Pt.U, Pt.locs, Pt.cells, Pt.slots] at X42 l42 y42 z42 st42 hQ42
          subst l42 y42 z42
          obtain ⟨rfl, N42q, e42⟩ := hQ42
          have N42 := Fr.app N37 N42q
          refine GoW.sg (mkF m 130 (K4 q1 q2 q3 q4 q5 z16 z17 b34 b39) [(.int (F1n3 q1 q3 z17))]) (fun t k => st42 t k) ?_
          refine GoW.sg (mkF m 132 (K4 q1 q2 q3 q4 q5 z16 z17 b34 b39) [(.int b39), (.int (F1n3 q1 q3 z17))]) (fun t k => XS.iload X42.here hx rfl (hb hby at_130) rfl k) ?_
          by_cases c43 : (F1n3 q1 q3 z17) = b39
          · refine GoW.sg (mkF m 135 (K4 q1 q2 q3 q4 q5 z16 z17 b34 b39) []) (fun t k => XS.icmpNo X42.here hx rfl (hb hby at_132) rfl (teq c43).2 k) ?_
            refine GoW.sg (mkF m 136 (K4 q1 q2 q3 q4 q5 z16 z17 b34 b39) [(.int 1)]) (fun t k => XS.iconst X42.here hx rfl (hb hby at_135) k) ?_
            refine GoW.sg (mkF m 140 (K4 q1 q2 q3 q4 q5 z16 z17 b34 b39) [(.int 1)]) (fun t k => XS.goto X42.here hx rfl (pc0 := 136) (pc' := 140) rfl (hb hby at_136) (by decide) (by decide) k) ?_
            refine GoW.retN X42 hx (t := .boolean) Bd.returns (by simp) (hb hby at_140) Bd.notSynchronized ?_ (by decide) (by decide)
            have hq : (F0 q1 q2 q3 q4 q5) = (1 : Int32) := by rw [hFz16, hFz17, hFb39]; unfold F0_4; rw [if_pos c43]; try rfl
            exact ⟨by rw [hq] <;> rfl, N42⟩
          · refine GoW.sg (mkF m 139 (K4 q1 q2 q3 q4 q5 z16 z17 b34 b39) []) (fun t k => XS.icmpYes X42.here hx rfl (pc0 := 132) (pc' := 139) rfl (hb hby at_132) rfl (feq c43).2 (by decide) (by decide) k) ?_
            refine GoW.sg (mkF m 140 (K4 q1 q2 q3 q4 q5 z16 z17 b34 b39) [(.int 0)]) (fun t k => XS.iconst X42.here hx rfl (hb hby at_139) k) ?_
            refine GoW.retN X42 hx (t := .boolean) Bd.returns (by simp) (hb hby at_140) Bd.notSynchronized ?_ (by decide) (by decide)
            have hq : (F0 q1 q2 q3 q4 q5) = (0 : Int32) := by rw [hFz16, hFz17, hFb39]; unfold F0_4; rw [if_neg c43]; try rfl
            exact ⟨by rw [hq] <;> rfl, N42⟩
        by_cases c41 : q2 = (0 : Int64)
        · refine GoW.sg (mkF m 118 (K3 q1 q2 q3 q4 q5 z16 z17 b34) []) (fun t k => XS.ifNo X37.here hx rfl (hb hby at_115) rfl ((if0 _ _).trans (teq ((lw_eq _ _).mpr c41)).2) k) ?_
          refine GoW.sg (mkF m 119 (K3 q1 q2 q3 q4 q5 z16 z17 b34) [(.int 1)]) (fun t k => XS.iconst X37.here hx rfl (hb hby at_118) k) ?_
          refine GoW.sg (mkF m 123 (K3 q1 q2 q3 q4 q5 z16 z17 b34) [(.int 1)]) (fun t k => XS.goto X37.here hx rfl (pc0 := 119) (pc' := 123) rfl (hb hby at_119) (by decide) (by decide) k) ?_
          exact J123_40 _ (by rw [if_pos c41])
        · refine GoW.sg (mkF m 122 (K3 q1 q2 q3 q4 q5 z16 z17 b34) []) (fun t k => XS.ifYes X37.here hx rfl (pc0 := 115) (pc' := 122) rfl (hb hby at_115) rfl ((if0 _ _).trans (feq (mt (lw_eq _ _).mp c41)).2) (by decide) (by decide) k) ?_
          refine GoW.sg (mkF m 123 (K3 q1 q2 q3 q4 q5 z16 z17 b34) [(.int 0)]) (fun t k => XS.iconst X37.here hx rfl (hb hby at_122) k) ?_
          exact J123_40 _ (by rw [if_neg c41])
      · refine GoW.sg (mkF m 82 (K2 q1 q2 q3 q4 q5 z16 z17) []) (fun t k => XS.icmpYes X0.here hx rfl (pc0 := 57) (pc' := 82) rfl (hb hby at_57) rfl (feq c33).2 (by decide) (by decide) k) ?_
        refine GoW.sg (mkF m 83 (K2 q1 q2 q3 q4 q5 z16 z17) [(.int 4)]) (fun t k => XS.iconst X0.here hx rfl (hb hby at_82) k) ?_
        obtain ⟨T44, h44, k44, X44, e44, E44, A44, st44⟩ := newP X0 hx hZ (ww hw 0 rfl) e0 (g := (mkF m 83 (K2 q1 q2 q3 q4 q5 z16 z17) [(.int 4)])) rfl (hb hby at_83) rfl (by decide) (cap := 4) (by decide) (by decide) (by decide) (by decide)
        obtain ⟨b44, g44⟩ : ∃ z, z = h0.size := ⟨_, rfl⟩
        rw [← g44] at A44 st44
        have g_b44 : n0 ≤ b44 := Nat.le_trans Z0 (Nat.le_of_eq g44.symm)
        have Zs_44 : n0 ≤ h44.size := Nat.le_trans Z0 E44.1
        have Arv_b44_44 : Arv Z h44 b44 k44 .long (4 : Int32) [(.long (0 : Int64)), (.long (0 : Int64)), (.long (0 : Int64)), (.long (0 : Int64))] (.long (0 : Int64)) := (Arv.new A44 (by decide)).pad (pad_rep [] (.long (0 : Int64)) 4)
        refine GoW.sg (mkF m 85 (K2 q1 q2 q3 q4 q5 z16 z17) [(.ref b44)]) (fun t k => st44 t k) ?_
        refine GoW.sg (mkF m 86 (K2 q1 q2 q3 q4 q5 z16 z17) [(.ref b44), (.ref b44)]) (fun t k => XS.dup X44.here hx rfl (hb hby at_85) rfl rfl k) ?_
        refine GoW.sg (mkF m 87 (K2 q1 q2 q3 q4 q5 z16 z17) [(.int 0), (.ref b44), (.ref b44)]) (fun t k => XS.iconst X44.here hx rfl (hb hby at_86) k) ?_
        refine GoW.sg (mkF m 88 (K2 q1 q2 q3 q4 q5 z16 z17) [(.long q1), (.int 0), (.ref b44), (.ref b44)]) (fun t k => XS.lloadN X44.here hx rfl (hb hby at_87) rfl k) ?_
        obtain ⟨cl45, Ar45, q45, Sz45, Nn45, Hh45, Gg45⟩ := Arv_b44_44
        have hin45 : ¬ ((0 : Int32) < 0 ∨ cl45.slots.size ≤ ((0 : Int32)).toNatClampNeg) := inb_of Sz45 ⟨by decide, by decide⟩
        obtain ⟨T45, h45, X45, e45, W45, st45⟩ := stJ X44 hx hZ e44 Ar45 (j := (0 : Int32)) hin45 (g := (mkF m 88 (K2 q1 q2 q3 q4 q5 z16 z17) [(.long q1), (.int 0), (.ref b44), (.ref b44)])) rfl rfl (hb hby at_88)
        have Zs_45 : n0 ≤ h45.size := Nat.le_trans Zs_44 (Nat.le_of_eq W45.size.symm)
        have Arv_b44_45 : Arv Z h45 b44 k44 .long (4 : Int32) [(.long q1), (.long (0 : Int64)), (.long (0 : Int64)), (.long (0 : Int64))] (.long (0 : Int64)) := Arv.set Ar45 q45 Sz45 Nn45 Hh45 Gg45 rfl W45 0 rfl (Nat.le_of_ble_eq_true rfl)
        have N45 := Fr.snoc X45 N0 g_b44
        refine GoW.sg (mkF m 89 (K2 q1 q2 q3 q4 q5 z16 z17) [(.ref b44)]) (fun t k => st45 t k) ?_
        refine GoW.sg (mkF m 90 (K2 q1 q2 q3 q4 q5 z16 z17) [(.ref b44), (.ref b44)]) (fun t k => XS.dup X45.here hx rfl (hb hby at_89) rfl rfl k) ?_
        refine GoW.sg (mkF m 91 (K2 q1 q2 q3 q4 q5 z16 z17) [(.int 1), (.ref b44), (.ref b44)]) (fun t k => XS.iconst X45.here hx rfl (hb hby at_90) k) ?_
        refine GoW.sg (mkF m 93 (K2 q1 q2 q3 q4 q5 z16 z17) [(.long q3), (.int 1), (.ref b44), (.ref b44)]) (fun t k => XS.lload X45.here hx rfl (hb hby at_91) rfl k) ?_
        obtain ⟨cl46, Ar46, q46, Sz46, Nn46, Hh46, Gg46⟩ := Arv_b44_45
        have hin46 : ¬ ((1 : Int32) < 0 ∨ cl46.slots.size ≤ ((1 : Int32)).toNatClampNeg) := inb_of Sz46 ⟨by decide, by decide⟩
        obtain ⟨T46, h46, X46, e46, W46, st46⟩ := stJ X45 hx hZ e45 Ar46 (j := (1 : Int32)) hin46 (g := (mkF m 93 (K2 q1 q2 q3 q4 q5 z16 z17) [(.long q3), (.int 1), (.ref b44), (.ref b44)])) rfl rfl (hb hby at_93)
        have Zs_46 : n0 ≤ h46.size := Nat.le_trans Zs_45 (Nat.le_of_eq W46.size.symm)
        have Arv_b44_46 : Arv Z h46 b44 k44 .long (4 : Int32) [(.long q1), (.long q3), (.long (0 : Int64)), (.long (0 : Int64))] (.long (0 : Int64)) := Arv.set Ar46 q46 Sz46 Nn46 Hh46 Gg46 rfl W46 1 rfl (Nat.le_of_ble_eq_true rfl)
        have N46 := Fr.snoc X46 N45 g_b44
        refine GoW.sg (mkF m 94 (K2 q1 q2 q3 q4 q5 z16 z17) [(.ref b44)]) (fun t k => st46 t k) ?_
        refine GoW.sg (mkF m 95 (K2 q1 q2 q3 q4 q5 z16 z17) [(.ref b44), (.ref b44)]) (fun t k => XS.dup X46.here hx rfl (hb hby at_94) rfl rfl k) ?_
        refine GoW.sg (mkF m 96 (K2 q1 q2 q3 q4 q5 z16 z17) [(.int 2), (.ref b44), (.ref b44)]) (fun t k => XS.iconst X46.here hx rfl (hb hby at_95) k) ?_
        refine GoW.sg (mkF m 98 (K2 q1 q2 q3 q4 q5 z16 z17) [(.long q4), (.int 2), (.ref b44), (.ref b44)]) (fun t k => XS.lload X46.here hx rfl (hb hby at_96) rfl k) ?_
        obtain ⟨cl47, Ar47, q47, Sz47, Nn47, Hh47, Gg47⟩ := Arv_b44_46
        have hin47 : ¬ ((2 : Int32) < 0 ∨ cl47.slots.size ≤ ((2 : Int32)).toNatClampNeg) := inb_of Sz47 ⟨by decide, by decide⟩
        obtain ⟨T47, h47, X47, e47, W47, st47⟩ := stJ X46 hx hZ e46 Ar47 (j := (2 : Int32)) hin47 (g := (mkF m 98 (K2 q1 q2 q3 q4 q5 z16 z17) [(.long q4), (.int 2), (.ref b44), (.ref b44)])) rfl rfl (hb hby at_98)
        have Zs_47 : n0 ≤ h47.size := Nat.le_trans Zs_46 (Nat.le_of_eq W47.size.symm)
        have Arv_b44_47 : Arv Z h47 b44 k44 .long (4 : Int32) [(.long q1), (.long q3), (.long q4), (.long (0 : Int64))] (.long (0 : Int64)) := Arv.set Ar47 q47 Sz47 Nn47 Hh47 Gg47 rfl W47 2 rfl (Nat.le_of_ble_eq_true rfl)
        have N47 := Fr.snoc X47 N46 g_b44
        refine GoW.sg (mkF m 99 (K2 q1 q2 q3 q4 q5 z16 z17) [(.ref b44)]) (fun t k => st47 t k) ?_
        refine GoW.sg (mkF m 100 (K2 q1 q2 q3 q4 q5 z16 z17) [(.ref b44), (.ref b44)]) (fun t k => XS.dup X47.here hx rfl (hb hby at_99) rfl rfl k) ?_
        refine GoW.sg (mkF m 101 (K2 q1 q2 q3 q4 q5 z16 z17) [(.int 3), (.ref b44), (.ref b44)]) (fun t k => XS.iconst X47.here hx rfl (hb hby at_100) k) ?_
        refine GoW.sg (mkF m 103 (K2 q1 q2 q3 q4 q5 z16 z17) [(.long z17), (.int 3), (.ref b44), (.ref b44)]) (fun t k => XS.lload X47.here hx rfl (hb hby at_101) rfl k) ?_
        obtain ⟨cl48, Ar48, q48, Sz48, Nn48, Hh48, Gg48⟩ := Arv_b44_47
        have hin48 : ¬ ((3 : Int32) < 0 ∨ cl48.slots.size ≤ ((3 : Int32)).toNatClampNeg) := inb_of Sz48 ⟨by decide, by decide⟩
        obtain ⟨T48, h48, X48, e48, W48, st48⟩ := stJ X47 hx hZ e47 Ar48 (j := (3 : Int32)) hin48 (g := (mkF m 103 (K2 q1 q2 q3 q4 q5 z16 z17) [(.long z17), (.int 3), (.ref b44), (.ref b44)])) rfl rfl (hb hby at_103)
        have Zs_48 : n0 ≤ h48.size := Nat.le_trans Zs_47 (Nat.le_of_eq W48.size.symm)
        have Arv_b44_48 : Arv Z h48 b44 k44 .long (4 : Int32) [(.long q1), (.long q3), (.long q4), (.long z17)] (.long (0 : Int64)) := Arv.set Ar48 q48 Sz48 Nn48 Hh48 Gg48 rfl W48 3 rfl (Nat.le_of_ble_eq_true rfl)
        have N48 := Fr.snoc X48 N47 g_b44
        refine GoW.sg (mkF m 104 (K2 q1 q2 q3 q4 q5 z16 z17) [(.ref b44)]) (fun t k => st48 t k) ?_
        refine GoW.sg (mkF m 106 (K3 q1 q2 q3 q4 q5 z16 z17 b44) []) (fun t k => XS.astore X48.here hx rfl (hb hby at_104) rfl rfl (l' := (K3 q1 q2 q3 q4 q5 z16 z17 b44)) rfl k) ?_
        refine GoW.sg (mkF m 108 (K3 q1 q2 q3 q4 q5 z16 z17 b44) [(.int z16)]) (fun t k => XS.iload X48.here hx rfl (hb hby at_106) rfl k) ?_
        refine GoW.sg (mkF m 109 (K3 q1 q2 q3 q4 q5 z16 z17 b44) [(.int 1), (.int z16)]) (fun t k => XS.iconst X48.here hx rfl (hb hby at_108) k) ?_
        refine GoW.sg (mkF m 112 (K3 q1 q2 q3 q4 q5 z16 z17 b44) []) (fun t k => XS.icmpNo X48.here hx rfl (hb hby at_109) rfl (feq c18).1 k) ?_
        refine GoW.sg (mkF m 113 (K3 q1 q2 q3 q4 q5 z16 z17 b44) [(.long q2)]) (fun t k => XS.lloadN X48.here hx rfl (hb hby at_112) rfl k) ?_
        refine GoW.sg (mkF m 114 (K3 q1 q2 q3 q4 q5 z16 z17 b44) [(.long 0), (.long q2)]) (fun t k => XS.lconst X48.here hx rfl (hb hby at_113) k) ?_
        refine GoW.sg (mkF m 115 (K3 q1 q2 q3 q4 q5 z16 z17 b44) [(.int (lcmpW q2 (0 : Int64)))]) (fun t k => XS.lcmp X48.here hx rfl (hb hby at_114) rfl k) ?_
        have J123_51 : ∀ b50 : Int32, b50 = (if q2 = (0 : Int64) then (1 : Int32) else (0 : Int32)) → GoW p e below s (ValQ (.int (F0 q1 q2 q3 q4 q5)) n0) room_1.cells room_1.slots (T48.setTop (mkF m 123 (K3 q1 q2 q3 q4 q5 z16 z17 b44) [(.int b50)])) := by
          intro b50 hb50
          have hFb50 : (F0_2 q1 q2 q3 q4 q5 z16 z17) = (F0_5 q1 q2 q3 q4 q5 z16 z17 b50) := by unfold F0_2; rw [if_neg c18, if_neg c23, if_neg c33]; rw [hb50]
          refine GoW.sg (mkF m 125 (K4 q1 q2 q3 q4 q5 z16 z17 b44 b50) []) (fun t k => XS.istore X48.here hx rfl (hb hby at_123) rfl (l' := (K4 q1 q2 q3 q4 q5 z16 z17 b44 b50)) rfl k) ?_
          refine GoW.sg (mkF m 127 (K4 q1 q2 q3 q4 q5 z16 z17 b44 b50) [(.ref b44)]) (fun t k => XS.aload X48.here hx rfl (hb hby at_125) rfl rfl k) ?_
          obtain ⟨_, _, ⟨T53, L53, k53, n53⟩, -, X53, ⟨Lc53, hQ53, l53, y53, z53⟩, st53⟩ := Jvm.LawKit.callS X48 hx (y := (⟨"com/example/saunter/saunter/scenery/Rings", "isClosed", "([J)Z"⟩ : MethodName)) hown (mvT hZ (ww hw 1 rfl)) (mvT hZ (ww hw 2 rfl)) (mvT hZ (ww hw 3 rfl)) (mvT hZ (ww hw 4 rfl)) (by decide) (backOf (W := 0) (rm1n4 l Z a0 hw [] b44 k44 q1 q3 q4 z17 h48 n0  Arv_b44_48   ) hZ (ww hw 4 rfl) (ww hw 3 rfl) (by decide) (by decide)) (g := (mkF m 127 (K4 q1 q2 q3 q4 q5 z16 z17 b44 b50) [(.ref b44)])) rfl (by rw [hml]; rfl) (argsL := [(.ref b44)]) (rest := []) (lenOf pd_285bJ29Z rfl) rfl (by show 2 * 0 + _ ≤ _; exact Nat.le_of_eq rfl) (hb hby at_127) (fun _ _ => ⟨rfl, e48, (by decide : 1 + 0 ≤ _), (by decide : 4 + 0 ≤ _)⟩)
          dsimp only [Pt.U, Pt.locs, Pt.cells, Pt.slots] at X53 l53 y53 z53 st53 hQ53
          subst l53 y53 z53
          obtain ⟨rfl, N53q, e53⟩ := hQ53
          have N53 := Fr.app N48 N53q
          refine GoW.sg (mkF m 130 (K4 q1 q2 q3 q4 q5 z16 z17 b44 b50) [(.int (F1n4 q1 q3 q4 z17))]) (fun t k => st53 t k) ?_
          refine GoW.sg (mkF m 132 (K4 q1 q2 q3 q4 q5 z16 z17 b44 b50) [(.int b50), (.int (F1n4 q1 q3 q4 z17))]) (fun t k => XS.iload X53.here hx rfl (hb hby at_130) rfl k) ?_
          by_cases c54 : (F1n4 q1 q3 q4 z17) = b50
          · refine GoW.sg (mkF m 135 (K4 q1 q2 q3 q4 q5 z16 z17 b44 b50) []) (fun t k => XS.icmpNo X53.here hx rfl (hb hby at_132) rfl (teq c54).2 k) ?_
            refine GoW.sg (mkF m 136 (K4 q1 q2 q3 q4 q5 z16 z17 b44 b50) [(.int 1)]) (fun t k => XS.iconst X53.here hx rfl (hb hby at_135) k) ?_
            refine GoW.sg (mkF m 140 (K4 q1 q2 q3 q4 q5 z16 z17 b44 b50) [(.int 1)]) (fun t k => XS.goto X53.here hx rfl (pc0 := 136) (pc' := 140) rfl (hb hby at_136) (by decide) (by decide) k) ?_
            refine GoW.retN X53 hx (t := .boolean) Bd.returns (by simp) (hb hby at_140) Bd.notSynchronized ?_ (by decide) (by decide)
            have hq : (F0 q1 q2 q3 q4 q5) = (1 : Int32) := by rw [hFz16, hFz17, hFb50]; unfold F0_5; rw [if_pos c54]; try rfl
            exact ⟨by rw [hq] <;> rfl, N53⟩
          · refine GoW.sg (mkF m 139 (K4 q1 q2 q3 q4 q5 z16 z17 b44 b50) []) (fun t k => XS.icmpYes X53.here hx rfl (pc0 := 132) (pc' := 139) rfl (hb hby at_132) rfl (feq c54).2 (by decide) (by decide) k) ?_
            refine GoW.sg (mkF m 140 (K4 q1 q2 q3 q4 q5 z16 z17 b44 b50) [(.int 0)]) (fun t k => XS.iconst X53.here hx rfl (hb hby at_139) k) ?_
            refine GoW.retN X53 hx (t := .boolean) Bd.returns (by simp) (hb hby at_140) Bd.notSynchronized ?_ (by decide) (by decide)
            have hq : (F0 q1 q2 q3 q4 q5) = (0 : Int32) := by rw [hFz16, hFz17, hFb50]; unfold F0_5; rw [if_neg c54]; try rfl
            exact ⟨by rw [hq] <;> rfl, N53⟩
        by_cases c52 : q2 = (0 : Int64)
        · refine GoW.sg (mkF m 118 (K3 q1 q2 q3 q4 q5 z16 z17 b44) []) (fun t k => XS.ifNo X48.here hx rfl (hb hby at_115) rfl ((if0 _ _).trans (teq ((lw_eq _ _).mpr c52)).2) k) ?_
          refine GoW.sg (mkF m 119 (K3 q1 q2 q3 q4 q5 z16 z17 b44) [(.int 1)]) (fun t k => XS.iconst X48.here hx rfl (hb hby at_118) k) ?_
          refine GoW.sg (mkF m 123 (K3 q1 q2 q3 q4 q5 z16 z17 b44) [(.int 1)]) (fun t k => XS.goto X48.here hx rfl (pc0 := 119) (pc' := 123) rfl (hb hby at_119) (by decide) (by decide) k) ?_
          exact J123_51 _ (by rw [if_pos c52])
        · refine GoW.sg (mkF m 122 (K3 q1 q2 q3 q4 q5 z16 z17 b44) []) (fun t k => XS.ifYes X48.here hx rfl (pc0 := 115) (pc' := 122) rfl (hb hby at_115) rfl ((if0 _ _).trans (feq (mt (lw_eq _ _).mp c52)).2) (by decide) (by decide) k) ?_
          refine GoW.sg (mkF m 123 (K3 q1 q2 q3 q4 q5 z16 z17 b44) [(.int 0)]) (fun t k => XS.iconst X48.here hx rfl (hb hby at_122) k) ?_
          exact J123_51 _ (by rw [if_neg c52])
theorem own_x (a d : Int64) : (a = a ^^^ d) = (d = 0) := propext ⟨fun h => by
  have h2 : a ^^^ a = a ^^^ (a ^^^ d) := congrArg (fun z => a ^^^ z) h
  rw [← Int64.xor_assoc, Int64.xor_self, Int64.zero_xor] at h2
  exact h2.symm, fun h => by rw [h, Int64.xor_zero]⟩
theorem own_law (q1 q2 q3 q4 : Int64) (q5 : Int32) : F0 q1 q2 q3 q4 q5 = 1 := by
  unfold F0 F0_1 F0_2 F0_3 F0_4 F0_5 F1n1 F1n2 F1n3 F1n4
  simp only [own_x, if_true]
  split
  · rfl
  · split
    · rfl
    · split <;> rfl

set_option maxRecDepth 65536 in
set_option maxHeartbeats 40000000 in
theorem comes_1 {Post : Tables → Env → Array Value → State → Outcome → State → Prop} (hpost : ∀ tb e args s v u, (limb_1_1.after args s (.returned v) u = true ∧ limb_1_2.after args s (.returned v) u = true ∧ True) → FrameEnd s (.returned v) u (Jvm.fieldLocs frame_1_writes args s ++ Jvm.arrayLocs frame_1_arrays args s ++ Jvm.staticLocs frame_1_statics s) 16 128 → Post tb e args s (.returned v) u) :
    ArmFor flags0 classFile x code maxLocals ret World_1 tables_1 room_1 Calls_1 rest_1 Pre_1 Post := by
  intro l hfl _ _ p e ha hc hk s m args below hf hA hF happ hP
  obtain ⟨hcalls, hrest, hpre⟩ := hP
  obtain ⟨-, -, -, hnamed, -, -, -, hat⟩ := (Spec.applies_iff hf).mp happ
  obtain ⟨hg, hn⟩ := and_e (Cond.before_iff.mp (show (Jvm.Cond.and given_1 narrow_1).before args s = true from hpre))
  obtain ⟨ga0, gb0⟩ := and_e hg
  obtain ⟨ga1, gb1⟩ := and_e gb0
  obtain ⟨ga2, gb2⟩ := and_e gb1
  obtain ⟨ga3, gb3⟩ := and_e gb2
  obtain ⟨ga4, gb4⟩ := and_e gb3
  obtain ⟨w0, w1, w2, w3, w4, rfl⟩ : ∃ w0 w1 w2 w3 w4 : Value, args = #[w0, w1, w2, w3, w4] := by
    have hs : args.size = 5 := by simpa [Cond.value, given_1] using ga0
    obtain ⟨L⟩ := args
    match L, hs with
    | [w0, w1, w2, w3, w4], _ => exact ⟨w0, w1, w2, w3, w4, rfl⟩
  have hw := fun d (hd : d ∈ tables_1) => atoms_spec (ws := Jvm.Cond.code x code maxLocals ret :: tables_1) hat d (List.mem_cons_of_mem _ hd)
  have hfit : Fit s := fun {y c} hc i hi => by
    obtain ⟨ha, rfl⟩ := Array.getElem?_eq_some_iff.mp hc
    have q := List.all_eq_true.mp ((Array.all_eq_true_iff_forall_mem.mp hF) _ (Array.getElem_mem ha)) i (List.mem_range.mpr hi)
    simpa [Array.getElem?_eq_getElem hi] using q
  obtain ⟨i0, ei0⟩ := isL_v ga1
  obtain rfl : w0 = (.long i0) := Option.some.inj ei0
  obtain ⟨i1, ei1⟩ := isL_v ga2
  obtain rfl : w1 = (.long i1) := Option.some.inj ei1
  obtain ⟨i2, ei2⟩ := isL_v ga3
  obtain rfl : w2 = (.long i2) := Option.some.inj ei2
  obtain ⟨i3, ei3⟩ := isL_v ga4
  obtain rfl : w3 = (.long i3) := Option.some.inj ei3
  obtain ⟨i4, ei4⟩ := is_v gb4
  obtain rfl : w4 = (.int i4) := Option.some.inj ei4
  obtain ⟨n, o, h1, h2, h3, v, L, rfl, ⟨hv, N⟩, hq⟩ := rm0 l s _ hw tables_1 i0 i1 i2 i3 i4  s.heap s.heap.size (Nat.le_refl _)  p e ha hc hk s m _ below hf ((Spec.applies_iff_loose hf).mp happ).1 ⟨rfl, State.Warmed39.refl s, rfl⟩ trivial
  rw [own_law i0 i1 i2 i3 i4] at hv
  subst hv
  refine ⟨n, _, h1, h2, h3, hpost _ _ _ _ _ _ ⟨Cond.after_iff.mpr rfl, Cond.after_iff.mpr (eq_i res_at (Term.int_eval (1)) rfl), trivial⟩ ⟨hq.1, hq.2.1, (hq.2.2.sift fun y hy => Or.inr (N y hy)).mono (by decide) (by decide)⟩⟩
theorem main_1_1 : Claimed_1_1 := comes_1 fun _ _ _ _ _ _ h hF => ⟨h.1, hF⟩
theorem main_1_2 : Claimed_1_2 := comes_1 fun _ _ _ _ _ _ h hF => ⟨h.2.1, hF⟩
end Jvm.Pilot.@@N@@
namespace Jvm.Pilot.@@N@@
open Jvm Jvm.ClassFile Sem Op Lib Jvm.Free Jvm.Stand Jvm.Pilot.@@N@@.Jvm.D
/-! MADE BY PROGRAM (witnessworld.py) out of the Statement's table words and the real class files: 11 classes; the members and pool entries that the words name. The judged class is class 1, her method 1. -/
namespace start1
open Jvm.ClassFile
def u (s : String) : CpInfo := .utf8 (stringToUtf16 s)
/-- a pool by its gaps: so many unusable entries, then the entry; so many at the end -/
def gap : Nat → List CpInfo → List CpInfo
  | 0, r => r
  | n + 1, r => .unusable :: gap n r
def poolList (es : List (Nat × CpInfo)) (last : Nat) : List CpInfo := es.foldr (fun e r => gap e.1 (e.2 :: r)) (gap last [])
def pool (es : List (Nat × CpInfo)) (last : Nat) : Array CpInfo := ⟨poolList es last⟩
def fileOf (pool : Array CpInfo) (this : Nat) (attrs : Array Attribute := #[]) (ms : Array MethodInfo := #[]) (fl : Nat := 33) (sup : Nat := 0) (ifs : Array Nat := #[]) (fds : Array FieldInfo := #[]) : ClassFile where
  minorVersion := 0
  majorVersion := 65
  constantPool := pool
  accessFlags := fl
  thisClass := this
  superClass := sup
  interfaces := ifs
  fields := fds
  methods := ms
  attributes := attrs
def plain (name : String) (sup : Option ClassId) : Class where
  name := name
  kind := .ordinary
  loader := none
  accessFlags := 33
  super := sup
  interfaces := #[]
  cf := none
  fields := #[]
  methods := #[]
  instanceTypes := #[]
  staticTypes := #[]
  resolved := #[]
  callSites := []
  init := .initialized
  statics := none
  mirror := none

def pool0 : Array CpInfo := pool [(5, u "<init>"), (0, u "()V"), (1, .class_ 10), (1, u "java/lang/Object")] 113

def k0m0 : Method := { name := "<init>", desc := "()V", sig := { parameters := [], returnType := none }, accessFlags := 1, code := none }
/-- java/lang/Object -/
def k0 : Class := { plain "java/lang/Object" none with
  accessFlags := 33
  interfaces := #[]
  cf := some (fileOf pool0 8 #[] #[{ accessFlags := 1, nameIndex := 5, descriptorIndex := 6, attributes := #[] }] 33 0 #[] #[])
  fields := #[]
  methods := #[k0m0]
  instanceTypes := #[]
  staticTypes := #[]
  resolved := Array.replicate 124 none
  statics := none }

def pool1 : Array CpInfo := pool [(2, .class_ 4), (1, u "java/lang/Object"), (0, u "<init>"), (0, u "()V"), (0, .methodref 8 9), (0, .class_ 10), (0, .nameAndType 11 12), (0, u "com/example/saunter/saunter/scenery/Rings"), (0, u "isClosed"), (0, u "([J)Z"), (0, .class_ 14), (0, u "com/example/saunter/saunter/scenery/RingsIsClosedPinLaw"), (2, u "law"), (0, u "(JJJJI)Z")] 5

def k1m0 : Method := { name := "<init>", desc := "()V", sig := { parameters := [], returnType := none }, accessFlags := 2, code := none }
def k1c1 : Code := { maxStack := 5, maxLocals := 14, code := code, exceptionTable := #[], attributes := #[] }
def k1m1 : Method := { name := "law", desc := "(JJJJI)Z", sig := { parameters := [.long, .long, .long, .long, .int], returnType := some .boolean }, accessFlags := 9, code := some k1c1 }
/-- com/example/saunter/saunter/scenery/RingsIsClosedPinLaw -/
def k1 : Class := { plain "com/example/saunter/saunter/scenery/RingsIsClosedPinLaw" (some 0) with
  accessFlags := 49
  interfaces := #[]
  cf := some (fileOf pool1 13 #[] #[{ accessFlags := 2, nameIndex := 5, descriptorIndex := 6, attributes := #[] }, { accessFlags := 9, nameIndex := 17, descriptorIndex := 18, attributes := #[] }] 49 2 #[] #[])
  fields := #[]
  methods := #[k1m0, k1m1]
  instanceTypes := #[]
  staticTypes := #[]
  resolved := Array.replicate 24 none
  statics := none }

def pool2 : Array CpInfo := pool [(2, .class_ 4), (1, u "java/lang/Object"), (0, u "<init>"), (0, u "()V"), (52, .class_ 61), (1, u "com/example/saunter/saunter/scenery/Rings"), (49, u "isClosed"), (0, u "([J)Z")] 30

def k2m0 : Method := { name := "<init>", desc := "()V", sig := { parameters := [], returnType := none }, accessFlags := 2, code := none }
def k2c1 : Code := { maxStack := 5, maxLocals := 1, code := prog_71_method_3_code, exceptionTable := #[], attributes := #[] }
def k2m1 : Method := { name := "isClosed", desc := "([J)Z", sig := { parameters := [(.array .long)], returnType := some .boolean }, accessFlags := 8, code := some k2c1 }
/-- com/example/saunter/saunter/scenery/Rings -/
def k2 : Class := { plain "com/example/saunter/saunter/scenery/Rings" (some 0) with
  accessFlags := 48
  interfaces := #[]
  cf := some (fileOf pool2 59 #[] #[{ accessFlags := 2, nameIndex := 5, descriptorIndex := 6, attributes := #[] }, { accessFlags := 8, nameIndex := 111, descriptorIndex := 112, attributes := #[] }] 48 2 #[] #[])
  fields := #[]
  methods := #[k2m0, k2m1]
  instanceTypes := #[]
  staticTypes := #[]
  resolved := Array.replicate 143 none
  statics := none }

def pool3 : Array CpInfo := pool [(1, u "java/lang/Cloneable"), (0, .class_ 1), (0, u "java/lang/Object"), (0, .class_ 3)] 3

/-- java/lang/Cloneable -/
def k3 : Class := { plain "java/lang/Cloneable" (some 0) with
  accessFlags := 1537
  interfaces := #[]
  cf := some (fileOf pool3 2 #[] #[] 1537 4 #[] #[])
  fields := #[]
  methods := #[]
  instanceTypes := #[]
  staticTypes := #[]
  resolved := Array.replicate 8 none
  statics := none }

def pool4 : Array CpInfo := pool [(1, u "java/io/Serializable"), (0, .class_ 1), (0, u "java/lang/Object"), (0, .class_ 3)] 3

/-- java/io/Serializable -/
def k4 : Class := { plain "java/io/Serializable" (some 0) with
  accessFlags := 1537
  interfaces := #[]
  cf := some (fileOf pool4 2 #[] #[] 1537 4 #[] #[])
  fields := #[]
  methods := #[]
  instanceTypes := #[]
  staticTypes := #[]
  resolved := Array.replicate 8 none
  statics := none }

/-- the primitive byte -/
def k5 : Class := { plain "byte" none with kind := .primitive 'B', accessFlags := 0x411 }
/-- [B -/
def k6 : Class := { plain "[B" (some 0) with kind := .array 5 .byte, interfaces := #[3, 4], accessFlags := 1041 }

/-- the primitive int -/
def k7 : Class := { plain "int" none with kind := .primitive 'I', accessFlags := 0x411 }
/-- [I -/
def k8 : Class := { plain "[I" (some 0) with kind := .array 7 .int, interfaces := #[3, 4], accessFlags := 1041 }

/-- the primitive long -/
def k9 : Class := { plain "long" none with kind := .primitive 'J', accessFlags := 0x411 }
/-- [J -/
def k10 : Class := { plain "[J" (some 0) with kind := .array 9 .long, interfaces := #[3, 4], accessFlags := 1041 }

def heap : Heap := #[]
def classes : Array Class := #[k0, k1, k2, k3, k4, k5, k6, k7, k8, k9, k10]
def interned : List (Array UInt16 × Addr) := []
def slotsUsed : Nat := 0
def theMethod : MethodId := ⟨1, 1⟩
def args0 : Array Value := #[.long 65, .long 3, .long 4, .long 7, .int 2]
def aboutOver (below : List Frame) : State where
  vm := { classes := classes, interned := interned.toArray }
  heap := heap
  slotsUsed := slotsUsed
  threads := #[{ frames := .invoking theMethod args0 :: below }]
def below0 : List Frame := [.native { method := ⟨0, 0⟩, args := #[] }]
def about1 : State := aboutOver below0
def p0 : Program := .bare "" "" ""
def e0 : Env := launch0.env 0 0 0
theorem w_frames : about1.frames = Frame.invoking theMethod args0 :: below0 := rfl
set_option maxRecDepth 65536 in
theorem w_args : argsFit about1.vm theMethod args0 = true := by decide +kernel
set_option maxRecDepth 65536 in
theorem w_heap : heapFits about1 = true := by decide +kernel
set_option maxRecDepth 65536 in
theorem w_runnable : about1.curStatus? = some .runnable := by decide +kernel
set_option maxRecDepth 65536 in
theorem w_alone : about1.alone = true := by decide +kernel
set_option maxRecDepth 65536 in
theorem w_named : about1.methodNamed? x = some theMethod := by decide +kernel
set_option maxRecDepth 65536 in
theorem w_hears : about1.hears theMethod below0 = true := by decide +kernel
set_option maxRecDepth 65536 in
theorem w_ripe : about1.ripe theMethod args0 below0 = true := by decide +kernel
theorem w_running : about1.status = .running := rfl
set_option maxRecDepth 65536 in
theorem w_room : about1.hasRoom e0.platform room_1 = true :=
  launch0.hasRoom_least _ room_1 (by decide +kernel) (by decide +kernel) (by decide +kernel) (by decide +kernel) (by decide +kernel) (by decide +kernel)
theorem allAtoms_all (ts : List Jvm.Cond) (a : Array Jvm.Value) (st : Jvm.State) : (allAtoms ts).before a st = ts.all (fun c => c.before a st) := by
  induction ts with
  | nil => rfl
  | cons c t ih =>
    show (Jvm.Cond.and c (allAtoms t)).before a st = _
    rw [Jvm.Cond.before_and, ih, List.all_cons]
def words1 : List Jvm.Cond := Jvm.Cond.code x code maxLocals ret :: tables_1
/-- a 'code' word, met by the world's own term for the bytes: nothing is compared byte by byte -/
theorem code_word {y : MethodName} {bytes : ByteArray} {mx : Nat} {rt : Option FieldType} {a : Array Value} {s : State} {m : MethodId} {meth : Method} {c : Code} (h1 : s.methodNamed? y = some m) (h2 : s.vm.method? m = some meth) (h3 : meth.code = some c) (h4 : c.code = bytes)
    (h5 : (c.maxLocals == mx && c.exceptionTable.isEmpty && decide (c.maxStack ≤ mostOperands) && decide (meth.sig.returnType = rt) && !meth.locks && decide (parseMethodDescriptor y.desc = some meth.sig)) = true) : (Jvm.Cond.code y bytes mx rt).before a s = true := by
  simp only [Bool.and_eq_true, beq_iff_eq, Bool.not_eq_true', decide_eq_true_eq] at h5
  obtain ⟨⟨⟨⟨⟨g1, g2⟩, g3⟩, g4⟩, g5⟩, g6⟩ := h5
  simp [Cond.before, Cond.holds, Cond.value, h1, h2, h3, h4, g1, g2, g3, g4, g5, g6]
def isCode : Jvm.Cond → Bool
  | .code _ _ _ _ => true
  | _ => false
theorem all_split {L : List Jvm.Cond} {P : Jvm.Cond → Bool} (h1 : L.all (fun c => isCode c || P c) = true) (h2 : ∀ c ∈ L.filter isCode, P c = true) : L.all P = true := by
  refine List.all_eq_true.mpr fun c hc => ?_
  have h := List.all_eq_true.mp h1 c hc
  rcases Bool.eq_false_or_eq_true (isCode c) with hi | hi
  · exact h2 c (List.mem_filter.mpr ⟨hc, hi⟩)
  · simpa [hi] using h
set_option maxRecDepth 65536 in
theorem w_c0 : (Jvm.Cond.code x code maxLocals ret).before args0 about1 = true := code_word (m := ⟨1, 1⟩) (meth := k1m1) (c := k1c1) (by decide +kernel) rfl rfl rfl (by decide +kernel)
set_option maxRecDepth 65536 in
theorem w_c1 : (Jvm.Cond.code ({ cls := "com/example/saunter/saunter/scenery/Rings", name := "isClosed", desc := "([J)Z" } : Jvm.MethodName) prog_71_method_3_code (1 : Nat) (Option.some Jvm.ClassFile.FieldType.boolean)).before args0 about1 = true := code_word (m := ⟨2, 1⟩) (meth := k2m1) (c := k2c1) (by decide +kernel) rfl rfl rfl (by decide +kernel)
def codes1 : List Jvm.Cond := [Jvm.Cond.code x code maxLocals ret, Jvm.Cond.code ({ cls := "com/example/saunter/saunter/scenery/Rings", name := "isClosed", desc := "([J)Z" } : Jvm.MethodName) prog_71_method_3_code (1 : Nat) (Option.some Jvm.ClassFile.FieldType.boolean)]
set_option maxRecDepth 65536 in
theorem codes_eq : words1.filter isCode = codes1 := rfl
theorem w_codes : ∀ c ∈ words1.filter isCode, c.before args0 about1 = true := by
  rw [codes_eq]
  intro c hc
  simp only [codes1, List.mem_cons, List.not_mem_nil, or_false] at hc
  rcases hc with rfl | rfl
  · exact w_c0
  · exact w_c1
set_option maxRecDepth 65536 in
theorem w_t1 : words1.all (fun c => isCode c || c.before args0 about1) = true := by decide +kernel
theorem w_tables : (allAtoms (Jvm.Cond.code x code maxLocals ret :: tables_1)).before args0 about1 = true := by
  rw [allAtoms_all]
  show words1.all (fun c => c.before args0 about1) = true
  refine all_split ?_ w_codes
  rw [w_t1]
set_option maxRecDepth 65536 in
theorem w_case : (Jvm.Cond.and given_1 narrow_1).before args0 about1 = true := by decide +kernel
theorem w_applies : (headSpec (Jvm.Cond.code x code maxLocals ret :: tables_1) room_1).applies x e0.platform about1 = true :=
  (Spec.applies_iff w_frames).mpr ⟨w_running, w_runnable, w_alone, w_named, w_hears, w_ripe, w_room, w_tables⟩
theorem atStart : AtStart classFile x code maxLocals ret World_1 tables_1 room_1 Calls_1 rest_1 Pre_1 launch0 p0 e0 about1 theMethod args0 below0 :=
  ⟨lists_1, trivial, launch0.admits_env _ _ _, launch0.least_env, fairChoices_fair.cas, fairChoices_fair.clock, w_frames, w_args, w_heap, w_applies, trivial, trivial, w_case⟩
end start1
theorem witness_1 : WitnessClaimed_1 := ⟨start1.p0, start1.e0, start1.about1, start1.theMethod, start1.args0, start1.below0, start1.atStart⟩
end Jvm.Pilot.@@N@@
