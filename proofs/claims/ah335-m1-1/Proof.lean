import JvmDerived
import JvmDerived.Pilot.@@N@@Statement
import JvmDerived.Pilot.@@N@@Code
set_option linter.unusedVariables false
set_option linter.unusedSimpArgs false
namespace Jvm.RoadKit
open Sem ClassFile Op Lib Jvm.Stand Jvm.Free Jvm.LawKit
def GoW (p : Program) (e : Env) (below : List Frame) (s : State) (Q : Option Value → Heap → List Loc → Prop) (k n : Nat) (u : State) : Prop :=
  ∃ s₂ o, Steps p.tables e below u s₂ ∧ s₂.status = .running ∧ Ended s₂ below o ∧ ∃ v L, o = .returned v ∧ Q v s₂.heap L ∧ FrameEnd s o s₂ L k n
def PureQ (r : Value) (h0 : Heap) (n0 : Nat) (v : Option Value) (h : Heap) (L : List Loc) : Prop := v = some r ∧ Fr n0 L ∧ h = h0
def ValQ (r : Value) (n0 : Nat) (v : Option Value) (h : Heap) (L : List Loc) : Prop := v = some r ∧ Fr n0 L
section New
variable {p : Program} {l : Launch} {e : Env} {R : Room} {s : State} {m : MethodId} {args : Array Value} {below : List Frame} {meth : Method} {c : Code} {T : State} {locs : List Loc} {cells slots : Nat} {Q : Option Value → Heap → List Loc → Prop} {k n : Nat} {u v : State}
theorem GoW.mk (h : GoW p e below s Q k n u) : ∃ s₂ o, Steps p.tables e below u s₂ ∧ s₂.status = .running ∧ Ended s₂ below o ∧ ∃ v L, o = .returned v ∧ Q v s₂.heap L ∧ FrameEnd s o s₂ L k n := h
theorem GoW.st (h : ∀ t, Steps p.tables e below u t → Steps p.tables e below v t) (q : GoW p e below s Q k n u) : GoW p e below s Q k n v := by
  obtain ⟨s₂, o, h1, h2⟩ := q; exact ⟨s₂, o, h _ h1, h2⟩
theorem GoW.sg {T' : State} (g' : JFrame) (h : ∀ t, Steps p.tables e below (T'.setTop g') t → Steps p.tables e below v t) (q : GoW p e below s Q k n (T'.setTop g')) : GoW p e below s Q k n v := GoW.st h q
theorem retI (X : Stand p l e R s m args below meth c T locs cells slots) (hx : p.tables.exec = Jvm.exec) {pc : Nat} {Ls : Array Slot} {z : Int32} {rest : List Value} (hret : meth.sig.returnType = some .int) (hd : decode c.code pc = .ok (.ireturn, 1)) {fs : List Frame}
    (hl : ∀ (f : JFrame) (acts : List Action), f.method = m → f.locked = none → f.entered = [] → (doReturn e (T.setTop f) acts (some (.int z))).1 = T.setFrames fs) : Steps p.tables e below (T.setTop (mkF m pc Ls (.int z :: rest))) (T.setFrames fs) := by
  have hm' : T.vm.method? m = some meth := X.method'
  have hn : narrow .int (.int z) = .int z := rfl
  show Steps p.tables e below (T.setTop { method := m, pc := pc, locals := Ls, stack := _ :: rest, locked := none }) _
  jvm_step X.here [X.here.top, hx, hd, hm', hret, hn]
  first | (intro acts; rw [hl _ acts rfl rfl rfl]) | rw [hl _ _ rfl rfl rfl]
  exact Steps.refl _
theorem GoW.retN (X : Stand p l e R s m args below meth c T locs cells slots) (hx : p.tables.exec = Jvm.exec) {pc : Nat} {Ls : Array Slot} {z : Int32} {t : FieldType} {rest : List Value} (hret : meth.sig.returnType = some t) (ht : t = .boolean ∨ t = .byte ∨ t = .char ∨ t = .short)
    (hd : decode c.code pc = .ok (.ireturn, 1)) (hlk : meth.locks = false) (hq : Q (some (.int (nar t z))) T.heap locs) (hk : cells ≤ k) (hn : slots ≤ n) : GoW p e below s Q k n (T.setTop (mkF m pc Ls (.int z :: rest))) := by
  obtain ⟨fs, hr, hrun, hended, hW, hsame⟩ := X.leave (v := some (.int (nar t z))) (fun h => by rw [hret] at h; cases h) hlk
  exact ⟨_, _, Jvm.RoadKit.retN X hx hret ht hd hr, hrun, hended, _, _, rfl, hq, ⟨_, rfl⟩, hW, hsame.mono hk hn⟩
theorem GoW.retI (X : Stand p l e R s m args below meth c T locs cells slots) (hx : p.tables.exec = Jvm.exec) {pc : Nat} {Ls : Array Slot} {z : Int32} {rest : List Value} (hret : meth.sig.returnType = some .int)
    (hd : decode c.code pc = .ok (.ireturn, 1)) (hlk : meth.locks = false) (hq : Q (some (.int z)) T.heap locs) (hk : cells ≤ k) (hn : slots ≤ n) : GoW p e below s Q k n (T.setTop (mkF m pc Ls (.int z :: rest))) := by
  obtain ⟨fs, hr, hrun, hended, hW, hsame⟩ := X.leave (v := some (.int z)) (fun h => by rw [hret] at h; cases h) hlk
  exact ⟨_, _, Jvm.RoadKit.retI X hx hret hd hr, hrun, hended, _, _, rfl, hq, ⟨_, rfl⟩, hW, hsame.mono hk hn⟩
theorem GoW.retL (X : Stand p l e R s m args below meth c T locs cells slots) (hx : p.tables.exec = Jvm.exec) {pc : Nat} {Ls : Array Slot} {z : Int64} {rest : List Value} (hret : meth.sig.returnType = some .long)
    (hd : decode c.code pc = .ok (.lreturn, 1)) (hlk : meth.locks = false) (hq : Q (some (.long z)) T.heap locs) (hk : cells ≤ k) (hn : slots ≤ n) : GoW p e below s Q k n (T.setTop (mkF m pc Ls (.long z :: rest))) := by
  obtain ⟨fs, hr, hrun, hended, hW, hsame⟩ := X.leave (v := some (.long z)) (fun h => by rw [hret] at h; cases h) hlk
  exact ⟨_, _, retOut X hx hret rfl (Or.inr (Or.inl ⟨rfl, rfl, z, rfl⟩)) hd hr, hrun, hended, _, _, rfl, hq, ⟨_, rfl⟩, hW, hsame.mono hk hn⟩
theorem GoW.retA (X : Stand p l e R s m args below meth c T locs cells slots) (hx : p.tables.exec = Jvm.exec) {pc : Nat} {Ls : Array Slot} {w : Value} {t : FieldType} {rest : List Value} (hret : meth.sig.returnType = some t) (hw : w.isRef = true) (ht : t.isReference = true)
    (hn' : narrow t w = w) (hd : decode c.code pc = .ok (.areturn, 1)) (hlk : meth.locks = false) (hq : Q (some w) T.heap locs) (hk : cells ≤ k) (hn : slots ≤ n) : GoW p e below s Q k n (T.setTop (mkF m pc Ls (w :: rest))) := by
  obtain ⟨fs, hr, hrun, hended, hW, hsame⟩ := X.leave (v := some w) (fun h => by rw [hret] at h; cases h) hlk
  exact ⟨_, _, retOut X hx hret hn' (Or.inr (Or.inr (Or.inr (Or.inr ⟨rfl, ht, hw⟩)))) hd hr, hrun, hended, _, _, rfl, hq, ⟨_, rfl⟩, hW, hsame.mono hk hn⟩
theorem GoW.retV (X : Stand p l e R s m args below meth c T locs cells slots) (hx : p.tables.exec = Jvm.exec) {pc : Nat} {Ls : Array Slot} (hret : meth.sig.returnType = none)
    (hd : decode c.code pc = .ok (.return_, 1)) (hlk : meth.locks = false) (hq : Q none T.heap locs) (hk : cells ≤ k) (hn : slots ≤ n) : GoW p e below s Q k n (T.setTop (mkF m pc Ls [])) := by
  obtain ⟨fs, hr, hrun, hended, hW, hsame⟩ := X.leave (v := none) (fun _ => rfl) hlk
  exact ⟨_, _, X.returnOut hx hret hd hr, hrun, hended, _, _, rfl, hq, ⟨_, rfl⟩, hW, hsame.mono hk hn⟩
theorem hq_ {T : State} {h : Heap} {a : Addr} {c : Cell} (e : T.heap = h) (q : h[a]? = some c) : T.heap[a]? = some c := by rw [e]; exact q
theorem own_b53 (x : Int32) : B53 x.toInt64 := by
  have h := rng32 x
  unfold B53; rw [Int32.toInt_toInt64]; omega
theorem own_eqI {args : Array Value} {first s : State} {o : Option Outcome} {idx : List Nat} {t : Term} {i : Int32} (h : (Jvm.Cond.eq t (.int i)).value args first o s idx = some true) : t.eval args first o idx s = some (.int i) := by
  obtain ⟨x, y, hx, hy, k1, k2⟩ := cmp_v (Or.inl h)
  rw [Term.int_eval] at hy
  cases hy
  obtain ⟨z, rfl⟩ := k2
  have q := gotT (Cond.eq_ints hx (Term.int_eval i)) h
  rw [hx, q]
theorem own_ne {args : Array Value} {first s : State} {o : Option Outcome} {idx : List Nat} {t u : Term} {C n d : String} {i j : Int32} {a b : Addr} (h1 : (Jvm.Cond.eq (.field t C n d) (.int i)).value args first o s idx = some true) (h2 : (Jvm.Cond.eq (.field u C n d) (.int j)).value args first o s idx = some true)
    (ha : t.eval args first o idx s = some (.ref a)) (hb : u.eval args first o idx s = some (.ref b)) (hij : i ≠ j) : a ≠ b := fun e => by
  subst e
  have q1 := own_eqI h1
  have q2 := own_eqI h2
  rw [fld_at ha] at q1
  rw [fld_at hb, q1] at q2
  exact hij (by cases q2; rfl)
theorem own_staK0 {Z : State} {h h' : Heap} {C n d : String} {v : Value} (F : Sta Z h C n d v) (K : Keep h h' []) : Sta Z h' C n d v := by
  obtain ⟨cf, i, k, f, st, cell, h1, h2, h3, h4, h5, r⟩ := F; exact ⟨cf, i, k, f, st, cell, h1, h2, h3, h4, K.2.1 _ _ h5 nin0, r⟩
theorem own_staK1 {Z : State} {h h' : Heap} {C n d K0 : String} {v : Value} {a : Addr} (F : Sta Z h C n d v) (K : Keep h h' [a]) (E : Exa Z h a K0) : Sta Z h' C n d v := by
  obtain ⟨cf, i, k, f, st, cell, h1, h2, h3, h4, h5, h6, r⟩ := F
  refine ⟨cf, i, k, f, st, cell, h1, h2, h3, h4, K.2.1 _ _ h5 (ninS (fun q => ?_) nin0), h6, r⟩
  subst q
  obtain ⟨cell2, k2, g1, -, -, g2, -⟩ := E
  cases h5.symm.trans g1
  rw [h6] at g2; cases g2
theorem GoW.retD (X : Stand p l e R s m args below meth c T locs cells slots) (hx : p.tables.exec = Jvm.exec) {pc : Nat} {Ls : Array Slot} {z : UInt64} {rest : List Value} (hret : meth.sig.returnType = some .double)
    (hd : decode c.code pc = .ok (.dreturn, 1)) (hlk : meth.locks = false) (hq : Q (some (.double z)) T.heap locs) (hk : cells ≤ k) (hn : slots ≤ n) : GoW p e below s Q k n (T.setTop (mkF m pc Ls (.double z :: rest))) := by
  obtain ⟨fs, hr, hrun, hended, hW, hsame⟩ := X.leave (v := some (.double z)) (fun h => by rw [hret] at h; cases h) hlk
  exact ⟨_, _, retOut X hx hret rfl (Or.inr (Or.inr (Or.inl ⟨rfl, rfl, z, rfl⟩))) hd hr, hrun, hended, _, _, rfl, hq, ⟨_, rfl⟩, hW, hsame.mono hk hn⟩
theorem own_pop2L {tb : Tables} [Ours tb] {e : Env} {below : List Frame} {T target : State} {m : MethodId} {c : Code} {g : JFrame} (h : At T m c below) (hx : tb.exec = Jvm.exec) (hg : g.method = m) {x : Int64} {rest : List Value} (hd : decode c.code g.pc = .ok (.pop2, 1)) (hs : g.stack = .long x :: rest)
    (hr : Steps tb e below (T.setTop { g with pc := g.pc + 1, stack := rest }) target) : Steps tb e below (T.setTop g) target := by
  subst hg
  jvm_step h [h.top, hx, hd, hs, Value.category]
  exact hr
end New
end Jvm.RoadKit
namespace Jvm.Pilot.@@N@@
open Jvm Jvm.ClassFile Sem Op Lib Jvm.Free Jvm.Stand Jvm.LawKit Jvm.RoadKit Bundle Jvm.Pilot.@@N@@.Jvm.D
theorem ww {Z : State} {a0 : Array Value} (hw : ∀ d ∈ tables_1, d.before a0 Z = true) (i : Nat) {d : Jvm.Cond} (h : tables_1[i]? = some d) : d.before a0 Z = true := hw _ (List.mem_of_getElem? h)
theorem d1_0 : decode jdk_29_method_69_code 0 = .ok (.iload_n 0, 1) := by decide +kernel
theorem d1_1 : decode jdk_29_method_69_code 1 = .ok (.iload_n 1, 1) := by decide +kernel
theorem d1_2 : decode jdk_29_method_69_code 2 = .ok (.if_icmp .gt 7, 3) := by decide +kernel
theorem d1_9 : decode jdk_29_method_69_code 9 = .ok (.iload_n 1, 1) := by decide +kernel
theorem d1_10 : decode jdk_29_method_69_code 10 = .ok (.ireturn, 1) := by decide +kernel
theorem d1_5 : decode jdk_29_method_69_code 5 = .ok (.iload_n 0, 1) := by decide +kernel
theorem d1_6 : decode jdk_29_method_69_code 6 = .ok (.goto 4, 3) := by decide +kernel
theorem d2_0 : decode jdk_29_method_65_code 0 = .ok (.iload_n 0, 1) := by decide +kernel
theorem d2_1 : decode jdk_29_method_65_code 1 = .ok (.iload_n 1, 1) := by decide +kernel
theorem d2_2 : decode jdk_29_method_65_code 2 = .ok (.if_icmp .lt 7, 3) := by decide +kernel
theorem d2_9 : decode jdk_29_method_65_code 9 = .ok (.iload_n 1, 1) := by decide +kernel
theorem d2_10 : decode jdk_29_method_65_code 10 = .ok (.ireturn, 1) := by decide +kernel
theorem d2_5 : decode jdk_29_method_65_code 5 = .ok (.iload_n 0, 1) := by decide +kernel
theorem d2_6 : decode jdk_29_method_65_code 6 = .ok (.goto 4, 3) := by decide +kernel
theorem pn_com_example_saunter_saunter_geo_BoundsMeetsPinLaw : plainName "com/example/saunter/saunter/geo/BoundsMeetsPinLaw" = true := by first | (simp [plainName, overriddenIn]; done) | decide +kernel
abbrev Sh0 (p0 : Int32) (p1 : Int32) (p2 : Int32) (p3 : Int32) : Array Slot := #[.val (.int p0), .val (.int p1), .val (.int p2), .val (.int p3), .unset, .unset, .unset, .unset, .unset, .unset, .unset, .unset, .unset, .unset, .unset, .unset, .unset, .unset, .unset, .unset, .unset, .unset, .unset, .unset, .unset]
abbrev Sh1 (p0 : Int32) (p1 : Int32) (p2 : Int32) (p3 : Int32) (p4 : Int32) : Array Slot := #[.val (.int p0), .val (.int p1), .val (.int p2), .val (.int p3), .val (.int p4), .unset, .unset, .unset, .unset, .unset, .unset, .unset, .unset, .unset, .unset, .unset, .unset, .unset, .unset, .unset, .unset, .unset, .unset, .unset, .unset]
abbrev Sh2 (p0 : Int32) (p1 : Int32) (p2 : Int32) (p3 : Int32) (p4 : Int32) (p5 : Int32) : Array Slot := #[.val (.int p0), .val (.int p1), .val (.int p2), .val (.int p3), .val (.int p4), .val (.int p5), .unset, .unset, .unset, .unset, .unset, .unset, .unset, .unset, .unset, .unset, .unset, .unset, .unset, .unset, .unset, .unset, .unset, .unset, .unset]
abbrev Sh3 (p0 : Int32) (p1 : Int32) (p2 : Int32) (p3 : Int32) (p4 : Int32) (p5 : Int32) (p6 : Int32) : Array Slot := #[.val (.int p0), .val (.int p1), .val (.int p2), .val (.int p3), .val (.int p4), .val (.int p5), .val (.int p6), .unset, .unset, .unset, .unset, .unset, .unset, .unset, .unset, .unset, .unset, .unset, .unset, .unset, .unset, .unset, .unset, .unset, .unset]
abbrev Sh4 (p0 : Int32) (p1 : Int32) (p2 : Int32) (p3 : Int32) (p4 : Int32) (p5 : Int32) (p6 : Int32) (p7 : Int32) : Array Slot := #[.val (.int p0), .val (.int p1), .val (.int p2), .val (.int p3), .val (.int p4), .val (.int p5), .val (.int p6), .val (.int p7), .unset, .unset, .unset, .unset, .unset, .unset, .unset, .unset, .unset, .unset, .unset, .unset, .unset, .unset, .unset, .unset, .unset]
abbrev Sh5 (p0 : Int32) (p1 : Int32) (p2 : Int32) (p3 : Int32) (p4 : Int32) (p5 : Int32) (p6 : Int32) (p7 : Int32) (p8 : Int32) : Array Slot := #[.val (.int p0), .val (.int p1), .val (.int p2), .val (.int p3), .val (.int p4), .val (.int p5), .val (.int p6), .val (.int p7), .val (.int p8), .unset, .unset, .unset, .unset, .unset, .unset, .unset, .unset, .unset, .unset, .unset, .unset, .unset, .unset, .unset, .unset]
abbrev Sh6 (p0 : Int32) (p1 : Int32) (p2 : Int32) (p3 : Int32) (p4 : Int32) (p5 : Int32) (p6 : Int32) (p7 : Int32) (p8 : Int32) (p9 : Int32) : Array Slot := #[.val (.int p0), .val (.int p1), .val (.int p2), .val (.int p3), .val (.int p4), .val (.int p5), .val (.int p6), .val (.int p7), .val (.int p8), .val (.int p9), .unset, .unset, .unset, .unset, .unset, .unset, .unset, .unset, .unset, .unset, .unset, .unset, .unset, .unset, .unset]
abbrev Sh7 (p0 : Int32) (p1 : Int32) (p2 : Int32) (p3 : Int32) (p4 : Int32) (p5 : Int32) (p6 : Int32) (p7 : Int32) (p8 : Int32) (p9 : Int32) (p10 : Int32) : Array Slot := #[.val (.int p0), .val (.int p1), .val (.int p2), .val (.int p3), .val (.int p4), .val (.int p5), .val (.int p6), .val (.int p7), .val (.int p8), .val (.int p9), .val (.int p10), .unset, .unset, .unset, .unset, .unset, .unset, .unset, .unset, .unset, .unset, .unset, .unset, .unset, .unset]
abbrev Sh8 (p0 : Int32) (p1 : Int32) (p2 : Int32) (p3 : Int32) (p4 : Int32) (p5 : Int32) (p6 : Int32) (p7 : Int32) (p8 : Int32) (p9 : Int32) (p10 : Int32) (p11 : Int32) : Array Slot := #[.val (.int p0), .val (.int p1), .val (.int p2), .val (.int p3), .val (.int p4), .val (.int p5), .val (.int p6), .val (.int p7), .val (.int p8), .val (.int p9), .val (.int p10), .val (.int p11), .unset, .unset, .unset, .unset, .unset, .unset, .unset, .unset, .unset, .unset, .unset, .unset, .unset]
theorem pd_28II29I : parseMethodDescriptor "(II)I" = some ⟨[.int, .int], some .int⟩ := by decide +kernel
abbrev Sh9 (p0 : Int32) (p1 : Int32) (p2 : Int32) (p3 : Int32) (p4 : Int32) (p5 : Int32) (p6 : Int32) (p7 : Int32) (p8 : Int32) (p9 : Int32) (p10 : Int32) (p11 : Int32) (p12 : Int32) : Array Slot := #[.val (.int p0), .val (.int p1), .val (.int p2), .val (.int p3), .val (.int p4), .val (.int p5), .val (.int p6), .val (.int p7), .val (.int p8), .val (.int p9), .val (.int p10), .val (.int p11), .val (.int p12), .unset, .unset, .unset, .unset, .unset, .unset, .unset, .unset, .unset, .unset, .unset, .unset]
abbrev Sh10 (p0 : Int32) (p1 : Int32) (p2 : Int32) (p3 : Int32) (p4 : Int32) (p5 : Int32) (p6 : Int32) (p7 : Int32) (p8 : Int32) (p9 : Int32) (p10 : Int32) (p11 : Int32) (p12 : Int32) (p13 : Int32) : Array Slot := #[.val (.int p0), .val (.int p1), .val (.int p2), .val (.int p3), .val (.int p4), .val (.int p5), .val (.int p6), .val (.int p7), .val (.int p8), .val (.int p9), .val (.int p10), .val (.int p11), .val (.int p12), .val (.int p13), .unset, .unset, .unset, .unset, .unset, .unset, .unset, .unset, .unset, .unset, .unset]
abbrev Sh11 (p0 : Int32) (p1 : Int32) (p2 : Int32) (p3 : Int32) (p4 : Int32) (p5 : Int32) (p6 : Int32) (p7 : Int32) (p8 : Int32) (p9 : Int32) (p10 : Int32) (p11 : Int32) (p12 : Int32) (p13 : Int32) (p14 : Int32) : Array Slot := #[.val (.int p0), .val (.int p1), .val (.int p2), .val (.int p3), .val (.int p4), .val (.int p5), .val (.int p6), .val (.int p7), .val (.int p8), .val (.int p9), .val (.int p10), .val (.int p11), .val (.int p12), .val (.int p13), .val (.int p14), .unset, .unset, .unset, .unset, .unset, .unset, .unset, .unset, .unset, .unset]
abbrev Sh12 (p0 : Int32) (p1 : Int32) (p2 : Int32) (p3 : Int32) (p4 : Int32) (p5 : Int32) (p6 : Int32) (p7 : Int32) (p8 : Int32) (p9 : Int32) (p10 : Int32) (p11 : Int32) (p12 : Int32) (p13 : Int32) (p14 : Int32) (p15 : Int32) : Array Slot := #[.val (.int p0), .val (.int p1), .val (.int p2), .val (.int p3), .val (.int p4), .val (.int p5), .val (.int p6), .val (.int p7), .val (.int p8), .val (.int p9), .val (.int p10), .val (.int p11), .val (.int p12), .val (.int p13), .val (.int p14), .val (.int p15), .unset, .unset, .unset, .unset, .unset, .unset, .unset, .unset, .unset]
abbrev Sh13 (p0 : Int32) (p1 : Int32) (p2 : Int32) (p3 : Int32) (p4 : Int32) (p5 : Int32) (p6 : Int32) (p7 : Int32) (p8 : Int32) (p9 : Int32) (p10 : Int32) (p11 : Int32) (p12 : Int32) (p13 : Int32) (p14 : Int32) (p15 : Int32) (p16 : Int32) : Array Slot := #[.val (.int p0), .val (.int p1), .val (.int p2), .val (.int p3), .val (.int p4), .val (.int p5), .val (.int p6), .val (.int p7), .val (.int p8), .val (.int p9), .val (.int p10), .val (.int p11), .val (.int p12), .val (.int p13), .val (.int p14), .val (.int p15), .val (.int p16), .unset, .unset, .unset, .unset, .unset, .unset, .unset, .unset]
abbrev Sh14 (p0 : Int32) (p1 : Int32) (p2 : Int32) (p3 : Int32) (p4 : Int32) (p5 : Int32) (p6 : Int32) (p7 : Int32) (p8 : Int32) (p9 : Int32) (p10 : Int32) (p11 : Int32) (p12 : Int32) (p13 : Int32) (p14 : Int32) (p15 : Int32) (p16 : Int32) (p17 : Int32) : Array Slot := #[.val (.int p0), .val (.int p1), .val (.int p2), .val (.int p3), .val (.int p4), .val (.int p5), .val (.int p6), .val (.int p7), .val (.int p8), .val (.int p9), .val (.int p10), .val (.int p11), .val (.int p12), .val (.int p13), .val (.int p14), .val (.int p15), .val (.int p16), .val (.int p17), .unset, .unset, .unset, .unset, .unset, .unset, .unset]
abbrev Sh15 (p0 : Int32) (p1 : Int32) (p2 : Int32) (p3 : Int32) (p4 : Int32) (p5 : Int32) (p6 : Int32) (p7 : Int32) (p8 : Int32) (p9 : Int32) (p10 : Int32) (p11 : Int32) (p12 : Int32) (p13 : Int32) (p14 : Int32) (p15 : Int32) (p16 : Int32) (p17 : Int32) (p18 : Int32) : Array Slot := #[.val (.int p0), .val (.int p1), .val (.int p2), .val (.int p3), .val (.int p4), .val (.int p5), .val (.int p6), .val (.int p7), .val (.int p8), .val (.int p9), .val (.int p10), .val (.int p11), .val (.int p12), .val (.int p13), .val (.int p14), .val (.int p15), .val (.int p16), .val (.int p17), .val (.int p18), .unset, .unset, .unset, .unset, .unset, .unset]
abbrev Sh16 (p0 : Int32) (p1 : Int32) (p2 : Int32) (p3 : Int32) (p4 : Int32) (p5 : Int32) (p6 : Int32) (p7 : Int32) (p8 : Int32) (p9 : Int32) (p10 : Int32) (p11 : Int32) (p12 : Int32) (p13 : Int32) (p14 : Int32) (p15 : Int32) (p16 : Int32) (p17 : Int32) (p18 : Int32) (p19 : Int32) : Array Slot := #[.val (.int p0), .val (.int p1), .val (.int p2), .val (.int p3), .val (.int p4), .val (.int p5), .val (.int p6), .val (.int p7), .val (.int p8), .val (.int p9), .val (.int p10), .val (.int p11), .val (.int p12), .val (.int p13), .val (.int p14), .val (.int p15), .val (.int p16), .val (.int p17), .val (.int p18), .val (.int p19), .unset, .unset, .unset, .unset, .unset]
theorem pn_com_example_saunter_saunter_geo_Bounds : plainName "com/example/saunter/saunter/geo/Bounds" = true := by first | (simp [plainName, overriddenIn]; done) | decide +kernel
abbrev Sh17 (p0 : Addr) (p1 : UInt64) (p2 : UInt64) (p3 : UInt64) (p4 : UInt64) : Array Slot := #[.val (.ref p0), .val (.double p1), .second, .val (.double p2), .second, .val (.double p3), .second, .val (.double p4), .second]
theorem d3_0 : decode prog_2_method_1_code 0 = .ok (.aload_n 0, 1) := by decide +kernel
theorem pn_java_lang_Record : plainName "java/lang/Record" = true := by first | (simp [plainName, overriddenIn]; done) | decide +kernel
theorem d4_0 : decode jdk_30_method_1_code 0 = .ok (.aload_n 0, 1) := by decide +kernel
theorem d4_1 : decode jdk_30_method_1_code 1 = .ok (.invokespecial 1, 3) := by decide +kernel
theorem d4_4 : decode jdk_30_method_1_code 4 = .ok (.return_, 1) := by decide +kernel
theorem pd_2829V : parseMethodDescriptor "()V" = some ⟨[], none⟩ := by decide +kernel
theorem d3_1 : decode prog_2_method_1_code 1 = .ok (.invokespecial 1, 3) := by decide +kernel
theorem d3_4 : decode prog_2_method_1_code 4 = .ok (.aload_n 0, 1) := by decide +kernel
theorem d3_5 : decode prog_2_method_1_code 5 = .ok (.dload_n 1, 1) := by decide +kernel
theorem d3_6 : decode prog_2_method_1_code 6 = .ok (.putfield 7, 3) := by decide +kernel
theorem d3_9 : decode prog_2_method_1_code 9 = .ok (.aload_n 0, 1) := by decide +kernel
theorem d3_10 : decode prog_2_method_1_code 10 = .ok (.dload_n 3, 1) := by decide +kernel
theorem d3_11 : decode prog_2_method_1_code 11 = .ok (.putfield 13, 3) := by decide +kernel
theorem d3_14 : decode prog_2_method_1_code 14 = .ok (.aload_n 0, 1) := by decide +kernel
theorem d3_15 : decode prog_2_method_1_code 15 = .ok (.dload 5, 2) := by decide +kernel
theorem d3_17 : decode prog_2_method_1_code 17 = .ok (.putfield 16, 3) := by decide +kernel
theorem d3_20 : decode prog_2_method_1_code 20 = .ok (.aload_n 0, 1) := by decide +kernel
theorem d3_21 : decode prog_2_method_1_code 21 = .ok (.dload 7, 2) := by decide +kernel
theorem d3_23 : decode prog_2_method_1_code 23 = .ok (.putfield 19, 3) := by decide +kernel
theorem d3_26 : decode prog_2_method_1_code 26 = .ok (.return_, 1) := by decide +kernel
theorem pd_28DDDD29V : parseMethodDescriptor "(DDDD)V" = some ⟨[.double, .double, .double, .double], none⟩ := by decide +kernel
abbrev Sh18 (p0 : Int32) (p1 : Int32) (p2 : Int32) (p3 : Int32) (p4 : Int32) (p5 : Int32) (p6 : Int32) (p7 : Int32) (p8 : Int32) (p9 : Int32) (p10 : Int32) (p11 : Int32) (p12 : Int32) (p13 : Int32) (p14 : Int32) (p15 : Int32) (p16 : Int32) (p17 : Int32) (p18 : Int32) (p19 : Int32) (p20 : Addr) : Array Slot := #[.val (.int p0), .val (.int p1), .val (.int p2), .val (.int p3), .val (.int p4), .val (.int p5), .val (.int p6), .val (.int p7), .val (.int p8), .val (.int p9), .val (.int p10), .val (.int p11), .val (.int p12), .val (.int p13), .val (.int p14), .val (.int p15), .val (.int p16), .val (.int p17), .val (.int p18), .val (.int p19), .val (.ref p20), .unset, .unset, .unset, .unset]
abbrev Sh19 (p0 : Int32) (p1 : Int32) (p2 : Int32) (p3 : Int32) (p4 : Int32) (p5 : Int32) (p6 : Int32) (p7 : Int32) (p8 : Int32) (p9 : Int32) (p10 : Int32) (p11 : Int32) (p12 : Int32) (p13 : Int32) (p14 : Int32) (p15 : Int32) (p16 : Int32) (p17 : Int32) (p18 : Int32) (p19 : Int32) (p20 : Addr) (p21 : Addr) : Array Slot := #[.val (.int p0), .val (.int p1), .val (.int p2), .val (.int p3), .val (.int p4), .val (.int p5), .val (.int p6), .val (.int p7), .val (.int p8), .val (.int p9), .val (.int p10), .val (.int p11), .val (.int p12), .val (.int p13), .val (.int p14), .val (.int p15), .val (.int p16), .val (.int p17), .val (.int p18), .val (.int p19), .val (.ref p20), .val (.ref p21), .unset, .unset, .unset]
abbrev Sh20 (p0 : Int32) (p1 : Int32) (p2 : Int32) (p3 : Int32) (p4 : Int32) (p5 : Int32) (p6 : Int32) (p7 : Int32) (p8 : Int32) (p9 : Int32) (p10 : Int32) (p11 : Int32) (p12 : Int32) (p13 : Int32) (p14 : Int32) (p15 : Int32) (p16 : Int32) (p17 : Int32) (p18 : Int32) (p19 : Int32) (p20 : Addr) (p21 : Addr) (p22 : Int32) : Array Slot := #[.val (.int p0), .val (.int p1), .val (.int p2), .val (.int p3), .val (.int p4), .val (.int p5), .val (.int p6), .val (.int p7), .val (.int p8), .val (.int p9), .val (.int p10), .val (.int p11), .val (.int p12), .val (.int p13), .val (.int p14), .val (.int p15), .val (.int p16), .val (.int p17), .val (.int p18), .val (.int p19), .val (.ref p20), .val (.ref p21), .val (.int p22), .unset, .unset]
abbrev Sh21 (p0 : Int32) (p1 : Int32) (p2 : Int32) (p3 : Int32) (p4 : Int32) (p5 : Int32) (p6 : Int32) (p7 : Int32) (p8 : Int32) (p9 : Int32) (p10 : Int32) (p11 : Int32) (p12 : Int32) (p13 : Int32) (p14 : Int32) (p15 : Int32) (p16 : Int32) (p17 : Int32) (p18 : Int32) (p19 : Int32) (p20 : Addr) (p21 : Addr) (p22 : Int32) (p23 : Int32) : Array Slot := #[.val (.int p0), .val (.int p1), .val (.int p2), .val (.int p3), .val (.int p4), .val (.int p5), .val (.int p6), .val (.int p7), .val (.int p8), .val (.int p9), .val (.int p10), .val (.int p11), .val (.int p12), .val (.int p13), .val (.int p14), .val (.int p15), .val (.int p16), .val (.int p17), .val (.int p18), .val (.int p19), .val (.ref p20), .val (.ref p21), .val (.int p22), .val (.int p23), .unset]
abbrev Sh22 (p0 : Int32) (p1 : Int32) (p2 : Int32) (p3 : Int32) (p4 : Int32) (p5 : Int32) (p6 : Int32) (p7 : Int32) (p8 : Int32) (p9 : Int32) (p10 : Int32) (p11 : Int32) (p12 : Int32) (p13 : Int32) (p14 : Int32) (p15 : Int32) (p16 : Int32) (p17 : Int32) (p18 : Int32) (p19 : Int32) (p20 : Addr) (p21 : Addr) (p22 : Int32) (p23 : Int32) (p24 : Int32) : Array Slot := #[.val (.int p0), .val (.int p1), .val (.int p2), .val (.int p3), .val (.int p4), .val (.int p5), .val (.int p6), .val (.int p7), .val (.int p8), .val (.int p9), .val (.int p10), .val (.int p11), .val (.int p12), .val (.int p13), .val (.int p14), .val (.int p15), .val (.int p16), .val (.int p17), .val (.int p18), .val (.int p19), .val (.ref p20), .val (.ref p21), .val (.int p22), .val (.int p23), .val (.int p24)]
theorem d6_0 : decode prog_2_method_8_code 0 = .ok (.aload_n 0, 1) := by decide +kernel
theorem d6_1 : decode prog_2_method_8_code 1 = .ok (.getfield 7, 3) := by decide +kernel
theorem d6_4 : decode prog_2_method_8_code 4 = .ok (.aload_n 1, 1) := by decide +kernel
theorem d6_5 : decode prog_2_method_8_code 5 = .ok (.getfield 16, 3) := by decide +kernel
theorem d6_8 : decode prog_2_method_8_code 8 = .ok (.dcmp .g, 1) := by decide +kernel
theorem d6_9 : decode prog_2_method_8_code 9 = .ok (.ifCond .gt 43, 3) := by decide +kernel
theorem d6_52 : decode prog_2_method_8_code 52 = .ok (.iconst 0, 1) := by decide +kernel
theorem d6_53 : decode prog_2_method_8_code 53 = .ok (.ireturn, 1) := by decide +kernel
theorem d6_12 : decode prog_2_method_8_code 12 = .ok (.aload_n 0, 1) := by decide +kernel
theorem d6_13 : decode prog_2_method_8_code 13 = .ok (.getfield 16, 3) := by decide +kernel
theorem d6_16 : decode prog_2_method_8_code 16 = .ok (.aload_n 1, 1) := by decide +kernel
theorem d6_17 : decode prog_2_method_8_code 17 = .ok (.getfield 7, 3) := by decide +kernel
theorem d6_20 : decode prog_2_method_8_code 20 = .ok (.dcmp .l, 1) := by decide +kernel
theorem d6_21 : decode prog_2_method_8_code 21 = .ok (.ifCond .lt 31, 3) := by decide +kernel
theorem d6_24 : decode prog_2_method_8_code 24 = .ok (.aload_n 0, 1) := by decide +kernel
theorem d6_25 : decode prog_2_method_8_code 25 = .ok (.getfield 13, 3) := by decide +kernel
theorem d6_28 : decode prog_2_method_8_code 28 = .ok (.aload_n 1, 1) := by decide +kernel
theorem d6_29 : decode prog_2_method_8_code 29 = .ok (.getfield 19, 3) := by decide +kernel
theorem d6_32 : decode prog_2_method_8_code 32 = .ok (.dcmp .g, 1) := by decide +kernel
theorem d6_33 : decode prog_2_method_8_code 33 = .ok (.ifCond .gt 19, 3) := by decide +kernel
theorem d6_36 : decode prog_2_method_8_code 36 = .ok (.aload_n 0, 1) := by decide +kernel
theorem d6_37 : decode prog_2_method_8_code 37 = .ok (.getfield 19, 3) := by decide +kernel
theorem d6_40 : decode prog_2_method_8_code 40 = .ok (.aload_n 1, 1) := by decide +kernel
theorem d6_41 : decode prog_2_method_8_code 41 = .ok (.getfield 13, 3) := by decide +kernel
theorem d6_44 : decode prog_2_method_8_code 44 = .ok (.dcmp .l, 1) := by decide +kernel
theorem d6_45 : decode prog_2_method_8_code 45 = .ok (.ifCond .lt 7, 3) := by decide +kernel
theorem d6_48 : decode prog_2_method_8_code 48 = .ok (.iconst 1, 1) := by decide +kernel
theorem d6_49 : decode prog_2_method_8_code 49 = .ok (.goto 4, 3) := by decide +kernel
theorem pd_28Lcom2fexample2fsaunter2fsaunter2fgeo2fBounds3b29Z : parseMethodDescriptor "(Lcom/example/saunter/saunter/geo/Bounds;)Z" = some ⟨[(.object "com/example/saunter/saunter/geo/Bounds")], some .boolean⟩ := by decide +kernel
def F1 (q1 : Int32) (q2 : Int32) : Int32 := (if q2 < q1 then q2 else q1)
theorem ef1_rm1 (m : MethodId) (q1 : Int32) (q2 : Int32) : entryFrame m #[(.int q1), (.int q2)] 2 = (mkF m 0 #[.val (.int q1), .val (.int q2)] []) := by first | (simp [entryFrame, mkF, argsToLocals, Value.category, maxLocals]; done) | rfl
set_option maxRecDepth 65536 in
set_option maxHeartbeats 40000000 in
theorem rm1 (l : Launch) (Z : State) (a0 : Array Value) (hw : ∀ d ∈ tables_1, d.before a0 Z = true) (ws : List Jvm.Cond) (q1 : Int32) (q2 : Int32)  (h0 : Heap) (n0 : Nat)  :
    MetFree l (⟨"java/lang/Math", "min", "(II)I"⟩ : MethodName) (head1 (Jvm.Cond.code (⟨"java/lang/Math", "min", "(II)I"⟩ : MethodName) jdk_29_method_69_code 2 (some .int) :: ws) ({ frames := 0, cells := 0, slots := 0, locals := 0 } : Room)) (fun a U => a = #[(.int q1), (.int q2)] ∧ Z.Warmed39 U.vm ∧ U.heap = h0) (fun _ _ _ _ _ => True) (fun _ U o U' => ∃ v L, o = .returned v ∧ (PureQ (.int (F1 q1 q2)) h0 n0) v U'.heap L ∧ FrameEnd U o U' L 0 0) := by
  refine MetFree.of_bodySF (Jvm.Free.JP.mathPlain rfl (by decide +kernel)) hisR ?_
  intro p e s m args below meth c s₁ Bd hml0 hP hK
  obtain ⟨rfl, hZ, hh⟩ := hP
  have hx := Bd.exec
  have hby := Bd.bytes
  have hml : c.maxLocals = 2 := hml0
  have hown : s.vm.findClass "java/lang/Math" = some m.cls := findClass_of_methodNamed Bd.named
  have hnm := (name_of_methodNamed Bd.named Bd.method).1
  have X0 : Stand p l e ({ frames := 0, cells := 0, slots := 0, locals := 0 } : Room) s m #[(.int q1), (.int q2)] below meth c s₁ [] 0 0 := Stand.of_body Bd
  have e0 : s₁.heap = h0 := by rw [← hh, Bd.state]; rfl
  have N0 := Fr.nil n0
  refine GoW.mk ?_
  refine GoW.st (fun t k => castTop (ef1_rm1 m q1 q2) k) ?_
  show GoW p e below s (PureQ (.int (F1 q1 q2)) h0 n0) 0 0 (s₁.setTop (mkF m 0 #[.val (.int q1), .val (.int q2)] []))
  refine GoW.sg (mkF m 1 #[.val (.int q1), .val (.int q2)] [(.int q1)]) (fun t k => XS.iloadN X0.here hx rfl (hb hby d1_0) rfl k) ?_
  refine GoW.sg (mkF m 2 #[.val (.int q1), .val (.int q2)] [(.int q2), (.int q1)]) (fun t k => XS.iloadN X0.here hx rfl (hb hby d1_1) rfl k) ?_
  by_cases c1 : q2 < q1
  · refine GoW.sg (mkF m 9 #[.val (.int q1), .val (.int q2)] []) (fun t k => XS.icmpYes X0.here hx rfl (pc0 := 2) (pc' := 9) rfl (hb hby d1_2) rfl (tlt c1).2.2.1 (by decide) (by decide) k) ?_
    refine GoW.sg (mkF m 10 #[.val (.int q1), .val (.int q2)] [(.int q2)]) (fun t k => XS.iloadN X0.here hx rfl (hb hby d1_9) rfl k) ?_
    refine GoW.retI X0 hx Bd.returns (hb hby d1_10) Bd.notSynchronized ?_ (by decide) (by decide)
    have hq : (F1 q1 q2) = q2 := by unfold F1; rw [if_pos c1]; try rfl
    exact ⟨by rw [hq] <;> rfl, N0, e0⟩
  · refine GoW.sg (mkF m 5 #[.val (.int q1), .val (.int q2)] []) (fun t k => XS.icmpNo X0.here hx rfl (hb hby d1_2) rfl (flt c1).2.2.1 k) ?_
    refine GoW.sg (mkF m 6 #[.val (.int q1), .val (.int q2)] [(.int q1)]) (fun t k => XS.iloadN X0.here hx rfl (hb hby d1_5) rfl k) ?_
    refine GoW.sg (mkF m 10 #[.val (.int q1), .val (.int q2)] [(.int q1)]) (fun t k => XS.goto X0.here hx rfl (pc0 := 6) (pc' := 10) rfl (hb hby d1_6) (by decide) (by decide) k) ?_
    refine GoW.retI X0 hx Bd.returns (hb hby d1_10) Bd.notSynchronized ?_ (by decide) (by decide)
    have hq : (F1 q1 q2) = q1 := by unfold F1; rw [if_neg c1]; try rfl
    exact ⟨by rw [hq] <;> rfl, N0, e0⟩
def F2 (q1 : Int32) (q2 : Int32) : Int32 := (if q1 < q2 then q2 else q1)
theorem ef2_rm2 (m : MethodId) (q1 : Int32) (q2 : Int32) : entryFrame m #[(.int q1), (.int q2)] 2 = (mkF m 0 #[.val (.int q1), .val (.int q2)] []) := by first | (simp [entryFrame, mkF, argsToLocals, Value.category, maxLocals]; done) | rfl
set_option maxRecDepth 65536 in
set_option maxHeartbeats 40000000 in
theorem rm2 (l : Launch) (Z : State) (a0 : Array Value) (hw : ∀ d ∈ tables_1, d.before a0 Z = true) (ws : List Jvm.Cond) (q1 : Int32) (q2 : Int32)  (h0 : Heap) (n0 : Nat)  :
    MetFree l (⟨"java/lang/Math", "max", "(II)I"⟩ : MethodName) (head1 (Jvm.Cond.code (⟨"java/lang/Math", "max", "(II)I"⟩ : MethodName) jdk_29_method_65_code 2 (some .int) :: ws) ({ frames := 0, cells := 0, slots := 0, locals := 0 } : Room)) (fun a U => a = #[(.int q1), (.int q2)] ∧ Z.Warmed39 U.vm ∧ U.heap = h0) (fun _ _ _ _ _ => True) (fun _ U o U' => ∃ v L, o = .returned v ∧ (PureQ (.int (F2 q1 q2)) h0 n0) v U'.heap L ∧ FrameEnd U o U' L 0 0) := by
  refine MetFree.of_bodySF (Jvm.Free.JP.mathPlain rfl (by decide +kernel)) hisR ?_
  intro p e s m args below meth c s₁ Bd hml0 hP hK
  obtain ⟨rfl, hZ, hh⟩ := hP
  have hx := Bd.exec
  have hby := Bd.bytes
  have hml : c.maxLocals = 2 := hml0
  have hown : s.vm.findClass "java/lang/Math" = some m.cls := findClass_of_methodNamed Bd.named
  have hnm := (name_of_methodNamed Bd.named Bd.method).1
  have X0 : Stand p l e ({ frames := 0, cells := 0, slots := 0, locals := 0 } : Room) s m #[(.int q1), (.int q2)] below meth c s₁ [] 0 0 := Stand.of_body Bd
  have e0 : s₁.heap = h0 := by rw [← hh, Bd.state]; rfl
  have N0 := Fr.nil n0
  refine GoW.mk ?_
  refine GoW.st (fun t k => castTop (ef2_rm2 m q1 q2) k) ?_
  show GoW p e below s (PureQ (.int (F2 q1 q2)) h0 n0) 0 0 (s₁.setTop (mkF m 0 #[.val (.int q1), .val (.int q2)] []))
  refine GoW.sg (mkF m 1 #[.val (.int q1), .val (.int q2)] [(.int q1)]) (fun t k => XS.iloadN X0.here hx rfl (hb hby d2_0) rfl k) ?_
  refine GoW.sg (mkF m 2 #[.val (.int q1), .val (.int q2)] [(.int q2), (.int q1)]) (fun t k => XS.iloadN X0.here hx rfl (hb hby d2_1) rfl k) ?_
  by_cases c2 : q1 < q2
  · refine GoW.sg (mkF m 9 #[.val (.int q1), .val (.int q2)] []) (fun t k => XS.icmpYes X0.here hx rfl (pc0 := 2) (pc' := 9) rfl (hb hby d2_2) rfl (tlt c2).1 (by decide) (by decide) k) ?_
    refine GoW.sg (mkF m 10 #[.val (.int q1), .val (.int q2)] [(.int q2)]) (fun t k => XS.iloadN X0.here hx rfl (hb hby d2_9) rfl k) ?_
    refine GoW.retI X0 hx Bd.returns (hb hby d2_10) Bd.notSynchronized ?_ (by decide) (by decide)
    have hq : (F2 q1 q2) = q2 := by unfold F2; rw [if_pos c2]; try rfl
    exact ⟨by rw [hq] <;> rfl, N0, e0⟩
  · refine GoW.sg (mkF m 5 #[.val (.int q1), .val (.int q2)] []) (fun t k => XS.icmpNo X0.here hx rfl (hb hby d2_2) rfl (flt c2).1 k) ?_
    refine GoW.sg (mkF m 6 #[.val (.int q1), .val (.int q2)] [(.int q1)]) (fun t k => XS.iloadN X0.here hx rfl (hb hby d2_5) rfl k) ?_
    refine GoW.sg (mkF m 10 #[.val (.int q1), .val (.int q2)] [(.int q1)]) (fun t k => XS.goto X0.here hx rfl (pc0 := 6) (pc' := 10) rfl (hb hby d2_6) (by decide) (by decide) k) ?_
    refine GoW.retI X0 hx Bd.returns (hb hby d2_10) Bd.notSynchronized ?_ (by decide) (by decide)
    have hq : (F2 q1 q2) = q1 := by unfold F2; rw [if_neg c2]; try rfl
    exact ⟨by rw [hq] <;> rfl, N0, e0⟩
def Q4_1 (Z : State) (a1 : Addr) (h0 : Heap) (n0 : Nat) (v : Option Value) (h : Heap) (L : List Loc) : Prop := v = none ∧ Fr n0 L ∧ (h = h0)
theorem ef4_rm4_1 (m : MethodId) (a1 : Addr) : entryFrame m #[(.ref a1)] 1 = (mkF m 0 #[.val (.ref a1)] []) := by first | (simp [entryFrame, mkF, argsToLocals, Value.category, maxLocals]; done) | rfl
set_option maxRecDepth 65536 in
set_option maxHeartbeats 40000000 in
theorem rm4_1 (l : Launch) (Z : State) (a0 : Array Value) (hw : ∀ d ∈ tables_1, d.before a0 Z = true) (ws : List Jvm.Cond) (a1 : Addr)  (h0 : Heap) (n0 : Nat) (P0 : Exa Z h0 a1 "com/example/saunter/saunter/geo/Bounds") (P1 : Fld Z h0 a1 "com/example/saunter/saunter/geo/Bounds" "south" "D" (.double (0 : UInt64))) (P2 : Fld Z h0 a1 "com/example/saunter/saunter/geo/Bounds" "west" "D" (.double (0 : UInt64))) (P3 : Fld Z h0 a1 "com/example/saunter/saunter/geo/Bounds" "north" "D" (.double (0 : UInt64))) (P4 : Fld Z h0 a1 "com/example/saunter/saunter/geo/Bounds" "east" "D" (.double (0 : UInt64)))     :
    MetFree l (⟨"java/lang/Record", "<init>", "()V"⟩ : MethodName) (head1 (Jvm.Cond.code (⟨"java/lang/Record", "<init>", "()V"⟩ : MethodName) jdk_30_method_1_code 1 none :: ws) ({ frames := 1, cells := 0, slots := 0, locals := 12 } : Room)) (fun a U => a = #[(.ref a1)] ∧ Z.Warmed39 U.vm ∧ U.heap = h0) (fun _ _ _ _ _ => True) (fun _ U o U' => ∃ v L, o = .returned v ∧ (Q4_1 Z a1 h0 n0) v U'.heap L ∧ FrameEnd U o U' L 0 0) := by
  refine MetFree.of_bodySF (plainFor_of_name pn_java_lang_Record) hisR ?_
  intro p e s m args below meth c s₁ Bd hml0 hP hK
  obtain ⟨rfl, hZ, hh⟩ := hP
  have hx := Bd.exec
  have hby := Bd.bytes
  have hml : c.maxLocals = 1 := hml0
  have hown : s.vm.findClass "java/lang/Record" = some m.cls := findClass_of_methodNamed Bd.named
  have hnm := (name_of_methodNamed Bd.named Bd.method).1
  have X0 : Stand p l e ({ frames := 1, cells := 0, slots := 0, locals := 12 } : Room) s m #[(.ref a1)] below meth c s₁ [] 0 0 := Stand.of_body Bd
  have e0 : s₁.heap = h0 := by rw [← hh, Bd.state]; rfl
  have N0 := Fr.nil n0
  refine GoW.mk ?_
  refine GoW.st (fun t k => castTop (ef4_rm4_1 m a1) k) ?_
  show GoW p e below s (Q4_1 Z a1 h0 n0) 0 0 (s₁.setTop (mkF m 0 #[.val (.ref a1)] []))
  refine GoW.sg (mkF m 1 #[.val (.ref a1)] [(.ref a1)]) (fun t k => XS.aloadN X0.here hx rfl (hb hby d4_0) rfl rfl k) ?_
  obtain ⟨T33, X33, e33, st33⟩ := initO X0 hx hZ hown (ww hw 18 rfl) (ww hw 19 rfl) (ww hw 20 rfl) e0 (g := (mkF m 1 #[.val (.ref a1)] [(.ref a1)])) rfl (by rw [hml]; rfl) rfl (hb hby d4_1) (by decide) (W := 0) (by show 2 * 0 + _ ≤ _; exact Nat.le_of_eq rfl) (by decide)
  refine GoW.sg (mkF m 4 #[.val (.ref a1)] []) (fun t k => st33 t k) ?_
  refine GoW.retV X33 hx Bd.returns (hb hby d4_4) Bd.notSynchronized ?_ (by decide) (by decide)
  rw [e33]
  exact ⟨rfl, N0, rfl⟩
def Q3_2 (Z : State) (a1 : Addr) (x3 : UInt64) (x5 : UInt64) (x7 : UInt64) (x9 : UInt64) (x2 : Int32) (x4 : Int32) (x6 : Int32) (x8 : Int32) (h0 : Heap) (n0 : Nat) (v : Option Value) (h : Heap) (L : List Loc) : Prop := v = none ∧ Fr n0 L ∧ (Keep h0 h [a1]) ∧ (Exa Z h a1 "com/example/saunter/saunter/geo/Bounds") ∧ (Fld Z h a1 "com/example/saunter/saunter/geo/Bounds" "south" "D" (.double x3)) ∧ (Fld Z h a1 "com/example/saunter/saunter/geo/Bounds" "west" "D" (.double x5)) ∧ (Fld Z h a1 "com/example/saunter/saunter/geo/Bounds" "north" "D" (.double x7)) ∧ (Fld Z h a1 "com/example/saunter/saunter/geo/Bounds" "east" "D" (.double x9))
theorem ef3_rm3_2 (m : MethodId) (a1 : Addr) (x3 : UInt64) (x5 : UInt64) (x7 : UInt64) (x9 : UInt64) : entryFrame m #[(.ref a1), (.double x3), (.double x5), (.double x7), (.double x9)] 9 = (mkF m 0 #[.val (.ref a1), .val (.double x3), .second, .val (.double x5), .second, .val (.double x7), .second, .val (.double x9), .second] []) := by first | (simp [entryFrame, mkF, argsToLocals, Value.category, maxLocals]; done) | rfl
set_option maxRecDepth 65536 in
set_option maxHeartbeats 40000000 in
theorem rm3_2 (l : Launch) (Z : State) (a0 : Array Value) (hw : ∀ d ∈ tables_1, d.before a0 Z = true) (ws : List Jvm.Cond) (a1 : Addr) (x3 : UInt64) (x5 : UInt64) (x7 : UInt64) (x9 : UInt64) (x2 : Int32) (x4 : Int32) (x6 : Int32) (x8 : Int32) (h0 : Heap) (n0 : Nat) (P0 : Exa Z h0 a1 "com/example/saunter/saunter/geo/Bounds") (P1 : Fld Z h0 a1 "com/example/saunter/saunter/geo/Bounds" "south" "D" (.double (0 : UInt64))) (P2 : Fld Z h0 a1 "com/example/saunter/saunter/geo/Bounds" "west" "D" (.double (0 : UInt64))) (P3 : Fld Z h0 a1 "com/example/saunter/saunter/geo/Bounds" "north" "D" (.double (0 : UInt64))) (P4 : Fld Z h0 a1 "com/example/saunter/saunter/geo/Bounds" "east" "D" (.double (0 : UInt64))) (g_a1 : n0 ≤ a1)   (hx3 : x3 = FP.l2d x2.toInt64) (hx5 : x5 = FP.l2d x4.toInt64) (hx7 : x7 = FP.l2d x6.toInt64) (hx9 : x9 = FP.l2d x8.toInt64) :
    MetFree l (⟨"com/example/saunter/saunter/geo/Bounds", "<init>", "(DDDD)V"⟩ : MethodName) (head1 (Jvm.Cond.code (⟨"com/example/saunter/saunter/geo/Bounds", "<init>", "(DDDD)V"⟩ : MethodName) prog_2_method_1_code 9 none :: ws) ({ frames := 2, cells := 0, slots := 0, locals := 24 } : Room)) (fun a U => a = #[(.ref a1), (.double x3), (.double x5), (.double x7), (.double x9)] ∧ Z.Warmed39 U.vm ∧ U.heap = h0) (fun _ _ _ _ _ => True) (fun _ U o U' => ∃ v L, o = .returned v ∧ (Q3_2 Z a1 x3 x5 x7 x9 x2 x4 x6 x8 h0 n0) v U'.heap L ∧ FrameEnd U o U' L 0 0) := by
  refine MetFree.of_bodySF (plainFor_of_name pn_com_example_saunter_saunter_geo_Bounds) hisR ?_
  intro p e s m args below meth c s₁ Bd hml0 hP hK
  obtain ⟨rfl, hZ, hh⟩ := hP
  have hx := Bd.exec
  have hby := Bd.bytes
  have hml : c.maxLocals = 9 := hml0
  have hown : s.vm.findClass "com/example/saunter/saunter/geo/Bounds" = some m.cls := findClass_of_methodNamed Bd.named
  have hnm := (name_of_methodNamed Bd.named Bd.method).1
  have X0 : Stand p l e ({ frames := 2, cells := 0, slots := 0, locals := 24 } : Room) s m #[(.ref a1), (.double x3), (.double x5), (.double x7), (.double x9)] below meth c s₁ [] 0 0 := Stand.of_body Bd
  have e0 : s₁.heap = h0 := by rw [← hh, Bd.state]; rfl
  have N0 := Fr.nil n0
  refine GoW.mk ?_
  refine GoW.st (fun t k => castTop (ef3_rm3_2 m a1 x3 x5 x7 x9) k) ?_
  show GoW p e below s (Q3_2 Z a1 x3 x5 x7 x9 x2 x4 x6 x8 h0 n0) 0 0 (s₁.setTop (mkF m 0 (Sh17 a1 x3 x5 x7 x9) []))
  refine GoW.sg (mkF m 1 (Sh17 a1 x3 x5 x7 x9) [(.ref a1)]) (fun t k => XS.aloadN X0.here hx rfl (hb hby d3_0) rfl rfl k) ?_
  obtain ⟨_, _, ⟨T39, L39, k39, n39⟩, -, X39, ⟨Lc39, hQ39, l39, y39, z39⟩, st39⟩ := X0.specialBack hx (y := (⟨"java/lang/Record", "<init>", "()V"⟩ : MethodName)) rfl hown (mvT hZ (ww hw 13 rfl)) (mvT hZ (ww hw 14 rfl)) (mvT hZ (ww hw 17 rfl)) (by decide) (backOf (W := 0) (rm4_1 l Z a0 hw [] a1  h0 n0  P0 P1 P2 P3 P4    ) hZ (ww hw 17 rfl) (ww hw 16 rfl) (by decide) (by decide)) (g := (mkF m 1 (Sh17 a1 x3 x5 x7 x9) [(.ref a1)])) rfl (by rw [hml]; rfl) (Steps.refl _) (a := a1) (argsL := []) (rest := []) (lenOf pd_2829V rfl) rfl (by show 2 * 0 + _ ≤ _; exact Nat.le_of_eq rfl) (hb hby d3_1) (fun _ _ => ⟨rfl, e0, (by decide : 0 + 0 ≤ _), (by decide : 0 + 0 ≤ _)⟩)
  dsimp only [Pt.U, Pt.locs, Pt.cells, Pt.slots] at X39 l39 y39 z39 st39 hQ39
  subst l39 y39 z39
  obtain ⟨rfl, N39q, e39⟩ := hQ39
  have N39 := Fr.app N0 N39q
  refine GoW.sg (mkF m 4 (Sh17 a1 x3 x5 x7 x9) []) (fun t k => st39.trans k) ?_
  refine GoW.sg (mkF m 5 (Sh17 a1 x3 x5 x7 x9) [(.ref a1)]) (fun t k => XS.aloadN X39.here hx rfl (hb hby d3_4) rfl rfl k) ?_
  refine GoW.sg (mkF m 6 (Sh17 a1 x3 x5 x7 x9) [(.double x3), (.ref a1)]) (fun t k => XS.dloadN X39.here hx rfl (hb hby d3_5) rfl k) ?_
  obtain ⟨T40, h40, X40, e40, W40, st40⟩ := putF X39 hx hZ hown (host := "") (Or.inl (ww hw 21 rfl)) Via.refl e39 P1 P0 (Or.inr ⟨(ww hw 22 rfl), rfl, hnm⟩) (ww hw 8 rfl) (ty := .double) (by decide) rfl rfl (g := (mkF m 6 (Sh17 a1 x3 x5 x7 x9) [(.double x3), (.ref a1)])) rfl rfl (hb hby d3_6)
  have N40 := Fr.snoc X40 N39 g_a1
  have Exa_a1_40 : Exa Z h40 a1 "com/example/saunter/saunter/geo/Bounds" := P0.wr W40
  have Fld_a1_west_40 : Fld Z h40 a1 "com/example/saunter/saunter/geo/Bounds" "west" "D" (.double (0 : UInt64)) := P2.other W40 (Or.inr (slot_ne (t := .double) (t' := .double) (Or.inr (ww hw 24 rfl)) (Or.inr (ww hw 22 rfl)) (by decide) (by decide) (by decide)))
  have Fld_a1_north_40 : Fld Z h40 a1 "com/example/saunter/saunter/geo/Bounds" "north" "D" (.double (0 : UInt64)) := P3.other W40 (Or.inr (slot_ne (t := .double) (t' := .double) (Or.inr (ww hw 26 rfl)) (Or.inr (ww hw 22 rfl)) (by decide) (by decide) (by decide)))
  have Fld_a1_east_40 : Fld Z h40 a1 "com/example/saunter/saunter/geo/Bounds" "east" "D" (.double (0 : UInt64)) := P4.other W40 (Or.inr (slot_ne (t := .double) (t' := .double) (Or.inr (ww hw 28 rfl)) (Or.inr (ww hw 22 rfl)) (by decide) (by decide) (by decide)))
  have Keep_40 : Keep h0 h40 [a1] := (Keep.refl h0 [a1]).wr W40 (Or.inl (List.mem_of_getElem? (i := 0) rfl))
  have Fld_a1_south_40 : Fld Z h40 a1 "com/example/saunter/saunter/geo/Bounds" "south" "D" (.double x3) := P1.same W40
  refine GoW.sg (mkF m 9 (Sh17 a1 x3 x5 x7 x9) []) (fun t k => st40 t k) ?_
  refine GoW.sg (mkF m 10 (Sh17 a1 x3 x5 x7 x9) [(.ref a1)]) (fun t k => XS.aloadN X40.here hx rfl (hb hby d3_9) rfl rfl k) ?_
  refine GoW.sg (mkF m 11 (Sh17 a1 x3 x5 x7 x9) [(.double x5), (.ref a1)]) (fun t k => XS.dloadN X40.here hx rfl (hb hby d3_10) rfl k) ?_
  obtain ⟨T41, h41, X41, e41, W41, st41⟩ := putF X40 hx hZ hown (host := "") (Or.inl (ww hw 23 rfl)) Via.refl e40 Fld_a1_west_40 Exa_a1_40 (Or.inr ⟨(ww hw 24 rfl), rfl, hnm⟩) (ww hw 8 rfl) (ty := .double) (by decide) rfl rfl (g := (mkF m 11 (Sh17 a1 x3 x5 x7 x9) [(.double x5), (.ref a1)])) rfl rfl (hb hby d3_11)
  have N41 := Fr.snoc X41 N40 g_a1
  have Exa_a1_41 : Exa Z h41 a1 "com/example/saunter/saunter/geo/Bounds" := Exa_a1_40.wr W41
  have Fld_a1_south_41 : Fld Z h41 a1 "com/example/saunter/saunter/geo/Bounds" "south" "D" (.double x3) := Fld_a1_south_40.other W41 (Or.inr (slot_ne (t := .double) (t' := .double) (Or.inr (ww hw 22 rfl)) (Or.inr (ww hw 24 rfl)) (by decide) (by decide) (by decide)))
  have Fld_a1_north_41 : Fld Z h41 a1 "com/example/saunter/saunter/geo/Bounds" "north" "D" (.double (0 : UInt64)) := Fld_a1_north_40.other W41 (Or.inr (slot_ne (t := .double) (t' := .double) (Or.inr (ww hw 26 rfl)) (Or.inr (ww hw 24 rfl)) (by decide) (by decide) (by decide)))
  have Fld_a1_east_41 : Fld Z h41 a1 "com/example/saunter/saunter/geo/Bounds" "east" "D" (.double (0 : UInt64)) := Fld_a1_east_40.other W41 (Or.inr (slot_ne (t := .double) (t' := .double) (Or.inr (ww hw 28 rfl)) (Or.inr (ww hw 24 rfl)) (by decide) (by decide) (by decide)))
  have Keep_41 : Keep h0 h41 [a1] := Keep_40.wr W41 (Or.inl (List.mem_of_getElem? (i := 0) rfl))
  have Fld_a1_west_41 : Fld Z h41 a1 "com/example/saunter/saunter/geo/Bounds" "west" "D" (.double x5) := Fld_a1_west_40.same W41
  refine GoW.sg (mkF m 14 (Sh17 a1 x3 x5 x7 x9) []) (fun t k => st41 t k) ?_
  refine GoW.sg (mkF m 15 (Sh17 a1 x3 x5 x7 x9) [(.ref a1)]) (fun t k => XS.aloadN X41.here hx rfl (hb hby d3_14) rfl rfl k) ?_
  refine GoW.sg (mkF m 17 (Sh17 a1 x3 x5 x7 x9) [(.double x7), (.ref a1)]) (fun t k => XS.dload X41.here hx rfl (hb hby d3_15) rfl k) ?_
  obtain ⟨T42, h42, X42, e42, W42, st42⟩ := putF X41 hx hZ hown (host := "") (Or.inl (ww hw 25 rfl)) Via.refl e41 Fld_a1_north_41 Exa_a1_41 (Or.inr ⟨(ww hw 26 rfl), rfl, hnm⟩) (ww hw 8 rfl) (ty := .double) (by decide) rfl rfl (g := (mkF m 17 (Sh17 a1 x3 x5 x7 x9) [(.double x7), (.ref a1)])) rfl rfl (hb hby d3_17)
  have N42 := Fr.snoc X42 N41 g_a1
  have Exa_a1_42 : Exa Z h42 a1 "com/example/saunter/saunter/geo/Bounds" := Exa_a1_41.wr W42
  have Fld_a1_south_42 : Fld Z h42 a1 "com/example/saunter/saunter/geo/Bounds" "south" "D" (.double x3) := Fld_a1_south_41.other W42 (Or.inr (slot_ne (t := .double) (t' := .double) (Or.inr (ww hw 22 rfl)) (Or.inr (ww hw 26 rfl)) (by decide) (by decide) (by decide)))
  have Fld_a1_west_42 : Fld Z h42 a1 "com/example/saunter/saunter/geo/Bounds" "west" "D" (.double x5) := Fld_a1_west_41.other W42 (Or.inr (slot_ne (t := .double) (t' := .double) (Or.inr (ww hw 24 rfl)) (Or.inr (ww hw 26 rfl)) (by decide) (by decide) (by decide)))
  have Fld_a1_east_42 : Fld Z h42 a1 "com/example/saunter/saunter/geo/Bounds" "east" "D" (.double (0 : UInt64)) := Fld_a1_east_41.other W42 (Or.inr (slot_ne (t := .double) (t' := .double) (Or.inr (ww hw 28 rfl)) (Or.inr (ww hw 26 rfl)) (by decide) (by decide) (by decide)))
  have Keep_42 : Keep h0 h42 [a1] := Keep_41.wr W42 (Or.inl (List.mem_of_getElem? (i := 0) rfl))
  have Fld_a1_north_42 : Fld Z h42 a1 "com/example/saunter/saunter/geo/Bounds" "north" "D" (.double x7) := Fld_a1_north_41.same W42
  refine GoW.sg (mkF m 20 (Sh17 a1 x3 x5 x7 x9) []) (fun t k => st42 t k) ?_
  refine GoW.sg (mkF m 21 (Sh17 a1 x3 x5 x7 x9) [(.ref a1)]) (fun t k => XS.aloadN X42.here hx rfl (hb hby d3_20) rfl rfl k) ?_
  refine GoW.sg (mkF m 23 (Sh17 a1 x3 x5 x7 x9) [(.double x9), (.ref a1)]) (fun t k => XS.dload X42.here hx rfl (hb hby d3_21) rfl k) ?_
  obtain ⟨T43, h43, X43, e43, W43, st43⟩ := putF X42 hx hZ hown (host := "") (Or.inl (ww hw 27 rfl)) Via.refl e42 Fld_a1_east_42 Exa_a1_42 (Or.inr ⟨(ww hw 28 rfl), rfl, hnm⟩) (ww hw 8 rfl) (ty := .double) (by decide) rfl rfl (g := (mkF m 23 (Sh17 a1 x3 x5 x7 x9) [(.double x9), (.ref a1)])) rfl rfl (hb hby d3_23)
  have N43 := Fr.snoc X43 N42 g_a1
  have Exa_a1_43 : Exa Z h43 a1 "com/example/saunter/saunter/geo/Bounds" := Exa_a1_42.wr W43
  have Fld_a1_south_43 : Fld Z h43 a1 "com/example/saunter/saunter/geo/Bounds" "south" "D" (.double x3) := Fld_a1_south_42.other W43 (Or.inr (slot_ne (t := .double) (t' := .double) (Or.inr (ww hw 22 rfl)) (Or.inr (ww hw 28 rfl)) (by decide) (by decide) (by decide)))
  have Fld_a1_west_43 : Fld Z h43 a1 "com/example/saunter/saunter/geo/Bounds" "west" "D" (.double x5) := Fld_a1_west_42.other W43 (Or.inr (slot_ne (t := .double) (t' := .double) (Or.inr (ww hw 24 rfl)) (Or.inr (ww hw 28 rfl)) (by decide) (by decide) (by decide)))
  have Fld_a1_north_43 : Fld Z h43 a1 "com/example/saunter/saunter/geo/Bounds" "north" "D" (.double x7) := Fld_a1_north_42.other W43 (Or.inr (slot_ne (t := .double) (t' := .double) (Or.inr (ww hw 26 rfl)) (Or.inr (ww hw 28 rfl)) (by decide) (by decide) (by decide)))
  have Keep_43 : Keep h0 h43 [a1] := Keep_42.wr W43 (Or.inl (List.mem_of_getElem? (i := 0) rfl))
  have Fld_a1_east_43 : Fld Z h43 a1 "com/example/saunter/saunter/geo/Bounds" "east" "D" (.double x9) := Fld_a1_east_42.same W43
  refine GoW.sg (mkF m 26 (Sh17 a1 x3 x5 x7 x9) []) (fun t k => st43 t k) ?_
  refine GoW.retV X43 hx Bd.returns (hb hby d3_26) Bd.notSynchronized ?_ (by decide) (by decide)
  rw [e43]
  exact ⟨rfl, N43, Keep_43, Exa_a1_43, Fld_a1_south_43, Fld_a1_west_43, Fld_a1_north_43, Fld_a1_east_43⟩
def F6_3x (x3 : Int32) (x5 : Int32) (x7 : Int32) (x9 : Int32) (x11 : Int32) (x13 : Int32) (x15 : Int32) (x17 : Int32) : Int32 := (if x15.toInt64 < x3.toInt64 then (0 : Int32) else (if x7.toInt64 < x11.toInt64 then (0 : Int32) else (if x17.toInt64 < x5.toInt64 then (0 : Int32) else (if x9.toInt64 < x13.toInt64 then (0 : Int32) else (1 : Int32)))))
def Q6_3 (Z : State) (a1 : Addr) (a2 : Addr) (x3 : Int32) (x4 : UInt64) (x5 : Int32) (x6 : UInt64) (x7 : Int32) (x8 : UInt64) (x9 : Int32) (x10 : UInt64) (x11 : Int32) (x12 : UInt64) (x13 : Int32) (x14 : UInt64) (x15 : Int32) (x16 : UInt64) (x17 : Int32) (x18 : UInt64) (h0 : Heap) (n0 : Nat) (v : Option Value) (h : Heap) (L : List Loc) : Prop := v = some (.int (F6_3x x3 x5 x7 x9 x11 x13 x15 x17)) ∧ Fr n0 L ∧ (h = h0)
theorem ef6_rm6_3 (m : MethodId) (a1 : Addr) (a2 : Addr) : entryFrame m #[(.ref a1), (.ref a2)] 2 = (mkF m 0 #[.val (.ref a1), .val (.ref a2)] []) := by first | (simp [entryFrame, mkF, argsToLocals, Value.category, maxLocals]; done) | rfl
set_option maxRecDepth 65536 in
set_option maxHeartbeats 40000000 in
theorem rm6_3 (l : Launch) (Z : State) (a0 : Array Value) (hw : ∀ d ∈ tables_1, d.before a0 Z = true) (ws : List Jvm.Cond) (a1 : Addr) (a2 : Addr) (x3 : Int32) (x4 : UInt64) (x5 : Int32) (x6 : UInt64) (x7 : Int32) (x8 : UInt64) (x9 : Int32) (x10 : UInt64) (x11 : Int32) (x12 : UInt64) (x13 : Int32) (x14 : UInt64) (x15 : Int32) (x16 : UInt64) (x17 : Int32) (x18 : UInt64) (h0 : Heap) (n0 : Nat) (P0 : Exa Z h0 a1 "com/example/saunter/saunter/geo/Bounds") (P1 : Fld Z h0 a1 "com/example/saunter/saunter/geo/Bounds" "south" "D" (.double x4)) (P2 : Fld Z h0 a1 "com/example/saunter/saunter/geo/Bounds" "west" "D" (.double x6)) (P3 : Fld Z h0 a1 "com/example/saunter/saunter/geo/Bounds" "north" "D" (.double x8)) (P4 : Fld Z h0 a1 "com/example/saunter/saunter/geo/Bounds" "east" "D" (.double x10)) (P5 : Exa Z h0 a2 "com/example/saunter/saunter/geo/Bounds") (P6 : Fld Z h0 a2 "com/example/saunter/saunter/geo/Bounds" "south" "D" (.double x12)) (P7 : Fld Z h0 a2 "com/example/saunter/saunter/geo/Bounds" "west" "D" (.double x14)) (P8 : Fld Z h0 a2 "com/example/saunter/saunter/geo/Bounds" "north" "D" (.double x16)) (P9 : Fld Z h0 a2 "com/example/saunter/saunter/geo/Bounds" "east" "D" (.double x18))  (ne_a1_a2 : a1 ≠ a2)  (hx4 : x4 = FP.l2d x3.toInt64) (hx6 : x6 = FP.l2d x5.toInt64) (hx8 : x8 = FP.l2d x7.toInt64) (hx10 : x10 = FP.l2d x9.toInt64) (hx12 : x12 = FP.l2d x11.toInt64) (hx14 : x14 = FP.l2d x13.toInt64) (hx16 : x16 = FP.l2d x15.toInt64) (hx18 : x18 = FP.l2d x17.toInt64) :
    MetFree l (⟨"com/example/saunter/saunter/geo/Bounds", "meets", "(Lcom/example/saunter/saunter/geo/Bounds;)Z"⟩ : MethodName) (head1 (Jvm.Cond.code (⟨"com/example/saunter/saunter/geo/Bounds", "meets", "(Lcom/example/saunter/saunter/geo/Bounds;)Z"⟩ : MethodName) prog_2_method_8_code 2 (some .boolean) :: ws) ({ frames := 0, cells := 0, slots := 0, locals := 0 } : Room)) (fun a U => a = #[(.ref a1), (.ref a2)] ∧ Z.Warmed39 U.vm ∧ U.heap = h0) (fun _ _ _ _ _ => True) (fun _ U o U' => ∃ v L, o = .returned v ∧ (Q6_3 Z a1 a2 x3 x4 x5 x6 x7 x8 x9 x10 x11 x12 x13 x14 x15 x16 x17 x18 h0 n0) v U'.heap L ∧ FrameEnd U o U' L 0 0) := by
  refine MetFree.of_bodySF (plainFor_of_name pn_com_example_saunter_saunter_geo_Bounds) hisR ?_
  intro p e s m args below meth c s₁ Bd hml0 hP hK
  obtain ⟨rfl, hZ, hh⟩ := hP
  have hx := Bd.exec
  have hby := Bd.bytes
  have hml : c.maxLocals = 2 := hml0
  have hown : s.vm.findClass "com/example/saunter/saunter/geo/Bounds" = some m.cls := findClass_of_methodNamed Bd.named
  have hnm := (name_of_methodNamed Bd.named Bd.method).1
  have X0 : Stand p l e ({ frames := 0, cells := 0, slots := 0, locals := 0 } : Room) s m #[(.ref a1), (.ref a2)] below meth c s₁ [] 0 0 := Stand.of_body Bd
  have e0 : s₁.heap = h0 := by rw [← hh, Bd.state]; rfl
  have N0 := Fr.nil n0
  refine GoW.mk ?_
  refine GoW.st (fun t k => castTop (ef6_rm6_3 m a1 a2) k) ?_
  show GoW p e below s (Q6_3 Z a1 a2 x3 x4 x5 x6 x7 x8 x9 x10 x11 x12 x13 x14 x15 x16 x17 x18 h0 n0) 0 0 (s₁.setTop (mkF m 0 #[.val (.ref a1), .val (.ref a2)] []))
  refine GoW.sg (mkF m 1 #[.val (.ref a1), .val (.ref a2)] [(.ref a1)]) (fun t k => XS.aloadN X0.here hx rfl (hb hby d6_0) rfl rfl k) ?_
  obtain ⟨T81, X81, e81, st81⟩ := getF X0 hx hZ hown (host := "") (Or.inl (ww hw 21 rfl)) Via.refl e0 P1 (g := (mkF m 1 #[.val (.ref a1), .val (.ref a2)] [(.ref a1)])) rfl rfl (hb hby d6_1)
  refine GoW.sg (mkF m 4 #[.val (.ref a1), .val (.ref a2)] [(.double x4)]) (fun t k => st81 t k) ?_
  refine GoW.sg (mkF m 5 #[.val (.ref a1), .val (.ref a2)] [(.ref a2), (.double x4)]) (fun t k => XS.aloadN X81.here hx rfl (hb hby d6_4) rfl rfl k) ?_
  obtain ⟨T82, X82, e82, st82⟩ := getF X81 hx hZ hown (host := "") (Or.inl (ww hw 25 rfl)) Via.refl e81 P8 (g := (mkF m 5 #[.val (.ref a1), .val (.ref a2)] [(.ref a2), (.double x4)])) rfl rfl (hb hby d6_5)
  refine GoW.sg (mkF m 8 #[.val (.ref a1), .val (.ref a2)] [(.double x16), (.double x4)]) (fun t k => st82 t k) ?_
  refine GoW.sg (mkF m 9 #[.val (.ref a1), .val (.ref a2)] [(.int (lcmpW x3.toInt64 x15.toInt64))]) (fun t k => XS.dcmpS X82.here hx rfl (hb hby d6_8) rfl (v := (lcmpW x3.toInt64 x15.toInt64)) (by rw [hx4, hx16]; exact dcmpV_w (own_b53 _) (own_b53 _) _) k) ?_
  by_cases c83 : x15.toInt64 < x3.toInt64
  · refine GoW.sg (mkF m 52 #[.val (.ref a1), .val (.ref a2)] []) (fun t k => XS.ifYes X82.here hx rfl (pc0 := 9) (pc' := 52) rfl (hb hby d6_9) rfl ((if0 _ _).trans (tlt ((lw_gt _ _).mpr c83)).2.2.1) (by decide) (by decide) k) ?_
    refine GoW.sg (mkF m 53 #[.val (.ref a1), .val (.ref a2)] [(.int 0)]) (fun t k => XS.iconst X82.here hx rfl (hb hby d6_52) k) ?_
    refine GoW.retN X82 hx (t := .boolean) Bd.returns (by simp) (hb hby d6_53) Bd.notSynchronized ?_ (by decide) (by decide)
    rw [e82]
    have hq : (F6_3x x3 x5 x7 x9 x11 x13 x15 x17) = (0 : Int32) := by unfold F6_3x; rw [if_pos c83]; try rfl
    exact ⟨by rw [hq] <;> rfl, N0, rfl⟩
  · refine GoW.sg (mkF m 12 #[.val (.ref a1), .val (.ref a2)] []) (fun t k => XS.ifNo X82.here hx rfl (hb hby d6_9) rfl ((if0 _ _).trans (flt (mt (lw_gt _ _).mp c83)).2.2.1) k) ?_
    refine GoW.sg (mkF m 13 #[.val (.ref a1), .val (.ref a2)] [(.ref a1)]) (fun t k => XS.aloadN X82.here hx rfl (hb hby d6_12) rfl rfl k) ?_
    obtain ⟨T84, X84, e84, st84⟩ := getF X82 hx hZ hown (host := "") (Or.inl (ww hw 25 rfl)) Via.refl e82 P3 (g := (mkF m 13 #[.val (.ref a1), .val (.ref a2)] [(.ref a1)])) rfl rfl (hb hby d6_13)
    refine GoW.sg (mkF m 16 #[.val (.ref a1), .val (.ref a2)] [(.double x8)]) (fun t k => st84 t k) ?_
    refine GoW.sg (mkF m 17 #[.val (.ref a1), .val (.ref a2)] [(.ref a2), (.double x8)]) (fun t k => XS.aloadN X84.here hx rfl (hb hby d6_16) rfl rfl k) ?_
    obtain ⟨T85, X85, e85, st85⟩ := getF X84 hx hZ hown (host := "") (Or.inl (ww hw 21 rfl)) Via.refl e84 P6 (g := (mkF m 17 #[.val (.ref a1), .val (.ref a2)] [(.ref a2), (.double x8)])) rfl rfl (hb hby d6_17)
    refine GoW.sg (mkF m 20 #[.val (.ref a1), .val (.ref a2)] [(.double x12), (.double x8)]) (fun t k => st85 t k) ?_
    refine GoW.sg (mkF m 21 #[.val (.ref a1), .val (.ref a2)] [(.int (lcmpW x7.toInt64 x11.toInt64))]) (fun t k => XS.dcmpS X85.here hx rfl (hb hby d6_20) rfl (v := (lcmpW x7.toInt64 x11.toInt64)) (by rw [hx8, hx12]; exact dcmpV_w (own_b53 _) (own_b53 _) _) k) ?_
    by_cases c86 : x7.toInt64 < x11.toInt64
    · refine GoW.sg (mkF m 52 #[.val (.ref a1), .val (.ref a2)] []) (fun t k => XS.ifYes X85.here hx rfl (pc0 := 21) (pc' := 52) rfl (hb hby d6_21) rfl ((if0 _ _).trans (tlt ((lw_lt _ _).mpr c86)).1) (by decide) (by decide) k) ?_
      refine GoW.sg (mkF m 53 #[.val (.ref a1), .val (.ref a2)] [(.int 0)]) (fun t k => XS.iconst X85.here hx rfl (hb hby d6_52) k) ?_
      refine GoW.retN X85 hx (t := .boolean) Bd.returns (by simp) (hb hby d6_53) Bd.notSynchronized ?_ (by decide) (by decide)
      rw [e85]
      have hq : (F6_3x x3 x5 x7 x9 x11 x13 x15 x17) = (0 : Int32) := by unfold F6_3x; rw [if_neg c83, if_pos c86]; try rfl
      exact ⟨by rw [hq] <;> rfl, N0, rfl⟩
    · refine GoW.sg (mkF m 24 #[.val (.ref a1), .val (.ref a2)] []) (fun t k => XS.ifNo X85.here hx rfl (hb hby d6_21) rfl ((if0 _ _).trans (flt (mt (lw_lt _ _).mp c86)).1) k) ?_
      refine GoW.sg (mkF m 25 #[.val (.ref a1), .val (.ref a2)] [(.ref a1)]) (fun t k => XS.aloadN X85.here hx rfl (hb hby d6_24) rfl rfl k) ?_
      obtain ⟨T87, X87, e87, st87⟩ := getF X85 hx hZ hown (host := "") (Or.inl (ww hw 23 rfl)) Via.refl e85 P2 (g := (mkF m 25 #[.val (.ref a1), .val (.ref a2)] [(.ref a1)])) rfl rfl (hb hby d6_25)
      refine GoW.sg (mkF m 28 #[.val (.ref a1), .val (.ref a2)] [(.double x6)]) (fun t k => st87 t k) ?_
      refine GoW.sg (mkF m 29 #[.val (.ref a1), .val (.ref a2)] [(.ref a2), (.double x6)]) (fun t k => XS.aloadN X87.here hx rfl (hb hby d6_28) rfl rfl k) ?_
      obtain ⟨T88, X88, e88, st88⟩ := getF X87 hx hZ hown (host := "") (Or.inl (ww hw 27 rfl)) Via.refl e87 P9 (g := (mkF m 29 #[.val (.ref a1), .val (.ref a2)] [(.ref a2), (.double x6)])) rfl rfl (hb hby d6_29)
      refine GoW.sg (mkF m 32 #[.val (.ref a1), .val (.ref a2)] [(.double x18), (.double x6)]) (fun t k => st88 t k) ?_
      refine GoW.sg (mkF m 33 #[.val (.ref a1), .val (.ref a2)] [(.int (lcmpW x5.toInt64 x17.toInt64))]) (fun t k => XS.dcmpS X88.here hx rfl (hb hby d6_32) rfl (v := (lcmpW x5.toInt64 x17.toInt64)) (by rw [hx6, hx18]; exact dcmpV_w (own_b53 _) (own_b53 _) _) k) ?_
      by_cases c89 : x17.toInt64 < x5.toInt64
      · refine GoW.sg (mkF m 52 #[.val (.ref a1), .val (.ref a2)] []) (fun t k => XS.ifYes X88.here hx rfl (pc0 := 33) (pc' := 52) rfl (hb hby d6_33) rfl ((if0 _ _).trans (tlt ((lw_gt _ _).mpr c89)).2.2.1) (by decide) (by decide) k) ?_
        refine GoW.sg (mkF m 53 #[.val (.ref a1), .val (.ref a2)] [(.int 0)]) (fun t k => XS.iconst X88.here hx rfl (hb hby d6_52) k) ?_
        refine GoW.retN X88 hx (t := .boolean) Bd.returns (by simp) (hb hby d6_53) Bd.notSynchronized ?_ (by decide) (by decide)
        rw [e88]
        have hq : (F6_3x x3 x5 x7 x9 x11 x13 x15 x17) = (0 : Int32) := by unfold F6_3x; rw [if_neg c83, if_neg c86, if_pos c89]; try rfl
        exact ⟨by rw [hq] <;> rfl, N0, rfl⟩
      · refine GoW.sg (mkF m 36 #[.val (.ref a1), .val (.ref a2)] []) (fun t k => XS.ifNo X88.here hx rfl (hb hby d6_33) rfl ((if0 _ _).trans (flt (mt (lw_gt _ _).mp c89)).2.2.1) k) ?_
        refine GoW.sg (mkF m 37 #[.val (.ref a1), .val (.ref a2)] [(.ref a1)]) (fun t k => XS.aloadN X88.here hx rfl (hb hby d6_36) rfl rfl k) ?_
        obtain ⟨T90, X90, e90, st90⟩ := getF X88 hx hZ hown (host := "") (Or.inl (ww hw 27 rfl)) Via.refl e88 P4 (g := (mkF m 37 #[.val (.ref a1), .val (.ref a2)] [(.ref a1)])) rfl rfl (hb hby d6_37)
        refine GoW.sg (mkF m 40 #[.val (.ref a1), .val (.ref a2)] [(.double x10)]) (fun t k => st90 t k) ?_
        refine GoW.sg (mkF m 41 #[.val (.ref a1), .val (.ref a2)] [(.ref a2), (.double x10)]) (fun t k => XS.aloadN X90.here hx rfl (hb hby d6_40) rfl rfl k) ?_
        obtain ⟨T91, X91, e91, st91⟩ := getF X90 hx hZ hown (host := "") (Or.inl (ww hw 23 rfl)) Via.refl e90 P7 (g := (mkF m 41 #[.val (.ref a1), .val (.ref a2)] [(.ref a2), (.double x10)])) rfl rfl (hb hby d6_41)
        refine GoW.sg (mkF m 44 #[.val (.ref a1), .val (.ref a2)] [(.double x14), (.double x10)]) (fun t k => st91 t k) ?_
        refine GoW.sg (mkF m 45 #[.val (.ref a1), .val (.ref a2)] [(.int (lcmpW x9.toInt64 x13.toInt64))]) (fun t k => XS.dcmpS X91.here hx rfl (hb hby d6_44) rfl (v := (lcmpW x9.toInt64 x13.toInt64)) (by rw [hx10, hx14]; exact dcmpV_w (own_b53 _) (own_b53 _) _) k) ?_
        by_cases c92 : x9.toInt64 < x13.toInt64
        · refine GoW.sg (mkF m 52 #[.val (.ref a1), .val (.ref a2)] []) (fun t k => XS.ifYes X91.here hx rfl (pc0 := 45) (pc' := 52) rfl (hb hby d6_45) rfl ((if0 _ _).trans (tlt ((lw_lt _ _).mpr c92)).1) (by decide) (by decide) k) ?_
          refine GoW.sg (mkF m 53 #[.val (.ref a1), .val (.ref a2)] [(.int 0)]) (fun t k => XS.iconst X91.here hx rfl (hb hby d6_52) k) ?_
          refine GoW.retN X91 hx (t := .boolean) Bd.returns (by simp) (hb hby d6_53) Bd.notSynchronized ?_ (by decide) (by decide)
          rw [e91]
          have hq : (F6_3x x3 x5 x7 x9 x11 x13 x15 x17) = (0 : Int32) := by unfold F6_3x; rw [if_neg c83, if_neg c86, if_neg c89, if_pos c92]; try rfl
          exact ⟨by rw [hq] <;> rfl, N0, rfl⟩
        · refine GoW.sg (mkF m 48 #[.val (.ref a1), .val (.ref a2)] []) (fun t k => XS.ifNo X91.here hx rfl (hb hby d6_45) rfl ((if0 _ _).trans (flt (mt (lw_lt _ _).mp c92)).1) k) ?_
          refine GoW.sg (mkF m 49 #[.val (.ref a1), .val (.ref a2)] [(.int 1)]) (fun t k => XS.iconst X91.here hx rfl (hb hby d6_48) k) ?_
          refine GoW.sg (mkF m 53 #[.val (.ref a1), .val (.ref a2)] [(.int 1)]) (fun t k => XS.goto X91.here hx rfl (pc0 := 49) (pc' := 53) rfl (hb hby d6_49) (by decide) (by decide) k) ?_
          refine GoW.retN X91 hx (t := .boolean) Bd.returns (by simp) (hb hby d6_53) Bd.notSynchronized ?_ (by decide) (by decide)
          rw [e91]
          have hq : (F6_3x x3 x5 x7 x9 x11 x13 x15 x17) = (1 : Int32) := by unfold F6_3x; rw [if_neg c83, if_neg c86, if_neg c89, if_neg c92]; try rfl
          exact ⟨by rw [hq] <;> rfl, N0, rfl⟩
def F6_4x (x3 : Int32) (x5 : Int32) (x7 : Int32) (x9 : Int32) (x11 : Int32) (x13 : Int32) (x15 : Int32) (x17 : Int32) : Int32 := (if x7.toInt64 < x11.toInt64 then (0 : Int32) else (if x15.toInt64 < x3.toInt64 then (0 : Int32) else (if x9.toInt64 < x13.toInt64 then (0 : Int32) else (if x17.toInt64 < x5.toInt64 then (0 : Int32) else (1 : Int32)))))
def Q6_4 (Z : State) (a1 : Addr) (a2 : Addr) (x3 : Int32) (x4 : UInt64) (x5 : Int32) (x6 : UInt64) (x7 : Int32) (x8 : UInt64) (x9 : Int32) (x10 : UInt64) (x11 : Int32) (x12 : UInt64) (x13 : Int32) (x14 : UInt64) (x15 : Int32) (x16 : UInt64) (x17 : Int32) (x18 : UInt64) (h0 : Heap) (n0 : Nat) (v : Option Value) (h : Heap) (L : List Loc) : Prop := v = some (.int (F6_4x x3 x5 x7 x9 x11 x13 x15 x17)) ∧ Fr n0 L ∧ (h = h0)
theorem ef6_rm6_4 (m : MethodId) (a1 : Addr) (a2 : Addr) : entryFrame m #[(.ref a1), (.ref a2)] 2 = (mkF m 0 #[.val (.ref a1), .val (.ref a2)] []) := by first | (simp [entryFrame, mkF, argsToLocals, Value.category, maxLocals]; done) | rfl
set_option maxRecDepth 65536 in
set_option maxHeartbeats 40000000 in
theorem rm6_4 (l : Launch) (Z : State) (a0 : Array Value) (hw : ∀ d ∈ tables_1, d.before a0 Z = true) (ws : List Jvm.Cond) (a1 : Addr) (a2 : Addr) (x3 : Int32) (x4 : UInt64) (x5 : Int32) (x6 : UInt64) (x7 : Int32) (x8 : UInt64) (x9 : Int32) (x10 : UInt64) (x11 : Int32) (x12 : UInt64) (x13 : Int32) (x14 : UInt64) (x15 : Int32) (x16 : UInt64) (x17 : Int32) (x18 : UInt64) (h0 : Heap) (n0 : Nat) (P0 : Exa Z h0 a2 "com/example/saunter/saunter/geo/Bounds") (P1 : Fld Z h0 a2 "com/example/saunter/saunter/geo/Bounds" "south" "D" (.double x4)) (P2 : Fld Z h0 a2 "com/example/saunter/saunter/geo/Bounds" "west" "D" (.double x6)) (P3 : Fld Z h0 a2 "com/example/saunter/saunter/geo/Bounds" "north" "D" (.double x8)) (P4 : Fld Z h0 a2 "com/example/saunter/saunter/geo/Bounds" "east" "D" (.double x10)) (P5 : Exa Z h0 a1 "com/example/saunter/saunter/geo/Bounds") (P6 : Fld Z h0 a1 "com/example/saunter/saunter/geo/Bounds" "south" "D" (.double x12)) (P7 : Fld Z h0 a1 "com/example/saunter/saunter/geo/Bounds" "west" "D" (.double x14)) (P8 : Fld Z h0 a1 "com/example/saunter/saunter/geo/Bounds" "north" "D" (.double x16)) (P9 : Fld Z h0 a1 "com/example/saunter/saunter/geo/Bounds" "east" "D" (.double x18))  (ne_a2_a1 : a2 ≠ a1)  (hx4 : x4 = FP.l2d x3.toInt64) (hx6 : x6 = FP.l2d x5.toInt64) (hx8 : x8 = FP.l2d x7.toInt64) (hx10 : x10 = FP.l2d x9.toInt64) (hx12 : x12 = FP.l2d x11.toInt64) (hx14 : x14 = FP.l2d x13.toInt64) (hx16 : x16 = FP.l2d x15.toInt64) (hx18 : x18 = FP.l2d x17.toInt64) :
    MetFree l (⟨"com/example/saunter/saunter/geo/Bounds", "meets", "(Lcom/example/saunter/saunter/geo/Bounds;)Z"⟩ : MethodName) (head1 (Jvm.Cond.code (⟨"com/example/saunter/saunter/geo/Bounds", "meets", "(Lcom/example/saunter/saunter/geo/Bounds;)Z"⟩ : MethodName) prog_2_method_8_code 2 (some .boolean) :: ws) ({ frames := 0, cells := 0, slots := 0, locals := 0 } : Room)) (fun a U => a = #[(.ref a1), (.ref a2)] ∧ Z.Warmed39 U.vm ∧ U.heap = h0) (fun _ _ _ _ _ => True) (fun _ U o U' => ∃ v L, o = .returned v ∧ (Q6_4 Z a1 a2 x3 x4 x5 x6 x7 x8 x9 x10 x11 x12 x13 x14 x15 x16 x17 x18 h0 n0) v U'.heap L ∧ FrameEnd U o U' L 0 0) := by
  refine MetFree.of_bodySF (plainFor_of_name pn_com_example_saunter_saunter_geo_Bounds) hisR ?_
  intro p e s m args below meth c s₁ Bd hml0 hP hK
  obtain ⟨rfl, hZ, hh⟩ := hP
  have hx := Bd.exec
  have hby := Bd.bytes
  have hml : c.maxLocals = 2 := hml0
  have hown : s.vm.findClass "com/example/saunter/saunter/geo/Bounds" = some m.cls := findClass_of_methodNamed Bd.named
  have hnm := (name_of_methodNamed Bd.named Bd.method).1
  have X0 : Stand p l e ({ frames := 0, cells := 0, slots := 0, locals := 0 } : Room) s m #[(.ref a1), (.ref a2)] below meth c s₁ [] 0 0 := Stand.of_body Bd
  have e0 : s₁.heap = h0 := by rw [← hh, Bd.state]; rfl
  have N0 := Fr.nil n0
  refine GoW.mk ?_
  refine GoW.st (fun t k => castTop (ef6_rm6_4 m a1 a2) k) ?_
  show GoW p e below s (Q6_4 Z a1 a2 x3 x4 x5 x6 x7 x8 x9 x10 x11 x12 x13 x14 x15 x16 x17 x18 h0 n0) 0 0 (s₁.setTop (mkF m 0 #[.val (.ref a1), .val (.ref a2)] []))
  refine GoW.sg (mkF m 1 #[.val (.ref a1), .val (.ref a2)] [(.ref a1)]) (fun t k => XS.aloadN X0.here hx rfl (hb hby d6_0) rfl rfl k) ?_
  obtain ⟨T107, X107, e107, st107⟩ := getF X0 hx hZ hown (host := "") (Or.inl (ww hw 21 rfl)) Via.refl e0 P6 (g := (mkF m 1 #[.val (.ref a1), .val (.ref a2)] [(.ref a1)])) rfl rfl (hb hby d6_1)
  refine GoW.sg (mkF m 4 #[.val (.ref a1), .val (.ref a2)] [(.double x12)]) (fun t k => st107 t k) ?_
  refine GoW.sg (mkF m 5 #[.val (.ref a1), .val (.ref a2)] [(.ref a2), (.double x12)]) (fun t k => XS.aloadN X107.here hx rfl (hb hby d6_4) rfl rfl k) ?_
  obtain ⟨T108, X108, e108, st108⟩ := getF X107 hx hZ hown (host := "") (Or.inl (ww hw 25 rfl)) Via.refl e107 P3 (g := (mkF m 5 #[.val (.ref a1), .val (.ref a2)] [(.ref a2), (.double x12)])) rfl rfl (hb hby d6_5)
  refine GoW.sg (mkF m 8 #[.val (.ref a1), .val (.ref a2)] [(.double x8), (.double x12)]) (fun t k => st108 t k) ?_
  refine GoW.sg (mkF m 9 #[.val (.ref a1), .val (.ref a2)] [(.int (lcmpW x11.toInt64 x7.toInt64))]) (fun t k => XS.dcmpS X108.here hx rfl (hb hby d6_8) rfl (v := (lcmpW x11.toInt64 x7.toInt64)) (by rw [hx12, hx8]; exact dcmpV_w (own_b53 _) (own_b53 _) _) k) ?_
  by_cases c109 : x7.toInt64 < x11.toInt64
  · refine GoW.sg (mkF m 52 #[.val (.ref a1), .val (.ref a2)] []) (fun t k => XS.ifYes X108.here hx rfl (pc0 := 9) (pc' := 52) rfl (hb hby d6_9) rfl ((if0 _ _).trans (tlt ((lw_gt _ _).mpr c109)).2.2.1) (by decide) (by decide) k) ?_
    refine GoW.sg (mkF m 53 #[.val (.ref a1), .val (.ref a2)] [(.int 0)]) (fun t k => XS.iconst X108.here hx rfl (hb hby d6_52) k) ?_
    refine GoW.retN X108 hx (t := .boolean) Bd.returns (by simp) (hb hby d6_53) Bd.notSynchronized ?_ (by decide) (by decide)
    rw [e108]
    have hq : (F6_4x x3 x5 x7 x9 x11 x13 x15 x17) = (0 : Int32) := by unfold F6_4x; rw [if_pos c109]; try rfl
    exact ⟨by rw [hq] <;> rfl, N0, rfl⟩
  · refine GoW.sg (mkF m 12 #[.val (.ref a1), .val (.ref a2)] []) (fun t k => XS.ifNo X108.here hx rfl (hb hby d6_9) rfl ((if0 _ _).trans (flt (mt (lw_gt _ _).mp c109)).2.2.1) k) ?_
    refine GoW.sg (mkF m 13 #[.val (.ref a1), .val (.ref a2)] [(.ref a1)]) (fun t k => XS.aloadN X108.here hx rfl (hb hby d6_12) rfl rfl k) ?_
    obtain ⟨T110, X110, e110, st110⟩ := getF X108 hx hZ hown (host := "") (Or.inl (ww hw 25 rfl)) Via.refl e108 P8 (g := (mkF m 13 #[.val (.ref a1), .val (.ref a2)] [(.ref a1)])) rfl rfl (hb hby d6_13)
    refine GoW.sg (mkF m 16 #[.val (.ref a1), .val (.ref a2)] [(.double x16)]) (fun t k => st110 t k) ?_
    refine GoW.sg (mkF m 17 #[.val (.ref a1), .val (.ref a2)] [(.ref a2), (.double x16)]) (fun t k => XS.aloadN X110.here hx rfl (hb hby d6_16) rfl rfl k) ?_
    obtain ⟨T111, X111, e111, st111⟩ := getF X110 hx hZ hown (host := "") (Or.inl (ww hw 21 rfl)) Via.refl e110 P1 (g := (mkF m 17 #[.val (.ref a1), .val (.ref a2)] [(.ref a2), (.double x16)])) rfl rfl (hb hby d6_17)
    refine GoW.sg (mkF m 20 #[.val (.ref a1), .val (.ref a2)] [(.double x4), (.double x16)]) (fun t k => st111 t k) ?_
    refine GoW.sg (mkF m 21 #[.val (.ref a1), .val (.ref a2)] [(.int (lcmpW x15.toInt64 x3.toInt64))]) (fun t k => XS.dcmpS X111.here hx rfl (hb hby d6_20) rfl (v := (lcmpW x15.toInt64 x3.toInt64)) (by rw [hx16, hx4]; exact dcmpV_w (own_b53 _) (own_b53 _) _) k) ?_
    by_cases c112 : x15.toInt64 < x3.toInt64
    · refine GoW.sg (mkF m 52 #[.val (.ref a1), .val (.ref a2)] []) (fun t k => XS.ifYes X111.here hx rfl (pc0 := 21) (pc' := 52) rfl (hb hby d6_21) rfl ((if0 _ _).trans (tlt ((lw_lt _ _).mpr c112)).1) (by decide) (by decide) k) ?_
      refine GoW.sg (mkF m 53 #[.val (.ref a1), .val (.ref a2)] [(.int 0)]) (fun t k => XS.iconst X111.here hx rfl (hb hby d6_52) k) ?_
      refine GoW.retN X111 hx (t := .boolean) Bd.returns (by simp) (hb hby d6_53) Bd.notSynchronized ?_ (by decide) (by decide)
      rw [e111]
      have hq : (F6_4x x3 x5 x7 x9 x11 x13 x15 x17) = (0 : Int32) := by unfold F6_4x; rw [if_neg c109, if_pos c112]; try rfl
      exact ⟨by rw [hq] <;> rfl, N0, rfl⟩
    · refine GoW.sg (mkF m 24 #[.val (.ref a1), .val (.ref a2)] []) (fun t k => XS.ifNo X111.here hx rfl (hb hby d6_21) rfl ((if0 _ _).trans (flt (mt (lw_lt _ _).mp c112)).1) k) ?_
      refine GoW.sg (mkF m 25 #[.val (.ref a1), .val (.ref a2)] [(.ref a1)]) (fun t k => XS.aloadN X111.here hx rfl (hb hby d6_24) rfl rfl k) ?_
      obtain ⟨T113, X113, e113, st113⟩ := getF X111 hx hZ hown (host := "") (Or.inl (ww hw 23 rfl)) Via.refl e111 P7 (g := (mkF m 25 #[.val (.ref a1), .val (.ref a2)] [(.ref a1)])) rfl rfl (hb hby d6_25)
      refine GoW.sg (mkF m 28 #[.val (.ref a1), .val (.ref a2)] [(.double x14)]) (fun t k => st113 t k) ?_
      refine GoW.sg (mkF m 29 #[.val (.ref a1), .val (.ref a2)] [(.ref a2), (.double x14)]) (fun t k => XS.aloadN X113.here hx rfl (hb hby d6_28) rfl rfl k) ?_
      obtain ⟨T114, X114, e114, st114⟩ := getF X113 hx hZ hown (host := "") (Or.inl (ww hw 27 rfl)) Via.refl e113 P4 (g := (mkF m 29 #[.val (.ref a1), .val (.ref a2)] [(.ref a2), (.double x14)])) rfl rfl (hb hby d6_29)
      refine GoW.sg (mkF m 32 #[.val (.ref a1), .val (.ref a2)] [(.double x10), (.double x14)]) (fun t k => st114 t k) ?_
      refine GoW.sg (mkF m 33 #[.val (.ref a1), .val (.ref a2)] [(.int (lcmpW x13.toInt64 x9.toInt64))]) (fun t k => XS.dcmpS X114.here hx rfl (hb hby d6_32) rfl (v := (lcmpW x13.toInt64 x9.toInt64)) (by rw [hx14, hx10]; exact dcmpV_w (own_b53 _) (own_b53 _) _) k) ?_
      by_cases c115 : x9.toInt64 < x13.toInt64
      · refine GoW.sg (mkF m 52 #[.val (.ref a1), .val (.ref a2)] []) (fun t k => XS.ifYes X114.here hx rfl (pc0 := 33) (pc' := 52) rfl (hb hby d6_33) rfl ((if0 _ _).trans (tlt ((lw_gt _ _).mpr c115)).2.2.1) (by decide) (by decide) k) ?_
        refine GoW.sg (mkF m 53 #[.val (.ref a1), .val (.ref a2)] [(.int 0)]) (fun t k => XS.iconst X114.here hx rfl (hb hby d6_52) k) ?_
        refine GoW.retN X114 hx (t := .boolean) Bd.returns (by simp) (hb hby d6_53) Bd.notSynchronized ?_ (by decide) (by decide)
        rw [e114]
        have hq : (F6_4x x3 x5 x7 x9 x11 x13 x15 x17) = (0 : Int32) := by unfold F6_4x; rw [if_neg c109, if_neg c112, if_pos c115]; try rfl
        exact ⟨by rw [hq] <;> rfl, N0, rfl⟩
      · refine GoW.sg (mkF m 36 #[.val (.ref a1), .val (.ref a2)] []) (fun t k => XS.ifNo X114.here hx rfl (hb hby d6_33) rfl ((if0 _ _).trans (flt (mt (lw_gt _ _).mp c115)).2.2.1) k) ?_
        refine GoW.sg (mkF m 37 #[.val (.ref a1), .val (.ref a2)] [(.ref a1)]) (fun t k => XS.aloadN X114.here hx rfl (hb hby d6_36) rfl rfl k) ?_
        obtain ⟨T116, X116, e116, st116⟩ := getF X114 hx hZ hown (host := "") (Or.inl (ww hw 27 rfl)) Via.refl e114 P9 (g := (mkF m 37 #[.val (.ref a1), .val (.ref a2)] [(.ref a1)])) rfl rfl (hb hby d6_37)
        refine GoW.sg (mkF m 40 #[.val (.ref a1), .val (.ref a2)] [(.double x18)]) (fun t k => st116 t k) ?_
        refine GoW.sg (mkF m 41 #[.val (.ref a1), .val (.ref a2)] [(.ref a2), (.double x18)]) (fun t k => XS.aloadN X116.here hx rfl (hb hby d6_40) rfl rfl k) ?_
        obtain ⟨T117, X117, e117, st117⟩ := getF X116 hx hZ hown (host := "") (Or.inl (ww hw 23 rfl)) Via.refl e116 P2 (g := (mkF m 41 #[.val (.ref a1), .val (.ref a2)] [(.ref a2), (.double x18)])) rfl rfl (hb hby d6_41)
        refine GoW.sg (mkF m 44 #[.val (.ref a1), .val (.ref a2)] [(.double x6), (.double x18)]) (fun t k => st117 t k) ?_
        refine GoW.sg (mkF m 45 #[.val (.ref a1), .val (.ref a2)] [(.int (lcmpW x17.toInt64 x5.toInt64))]) (fun t k => XS.dcmpS X117.here hx rfl (hb hby d6_44) rfl (v := (lcmpW x17.toInt64 x5.toInt64)) (by rw [hx18, hx6]; exact dcmpV_w (own_b53 _) (own_b53 _) _) k) ?_
        by_cases c118 : x17.toInt64 < x5.toInt64
        · refine GoW.sg (mkF m 52 #[.val (.ref a1), .val (.ref a2)] []) (fun t k => XS.ifYes X117.here hx rfl (pc0 := 45) (pc' := 52) rfl (hb hby d6_45) rfl ((if0 _ _).trans (tlt ((lw_lt _ _).mpr c118)).1) (by decide) (by decide) k) ?_
          refine GoW.sg (mkF m 53 #[.val (.ref a1), .val (.ref a2)] [(.int 0)]) (fun t k => XS.iconst X117.here hx rfl (hb hby d6_52) k) ?_
          refine GoW.retN X117 hx (t := .boolean) Bd.returns (by simp) (hb hby d6_53) Bd.notSynchronized ?_ (by decide) (by decide)
          rw [e117]
          have hq : (F6_4x x3 x5 x7 x9 x11 x13 x15 x17) = (0 : Int32) := by unfold F6_4x; rw [if_neg c109, if_neg c112, if_neg c115, if_pos c118]; try rfl
          exact ⟨by rw [hq] <;> rfl, N0, rfl⟩
        · refine GoW.sg (mkF m 48 #[.val (.ref a1), .val (.ref a2)] []) (fun t k => XS.ifNo X117.here hx rfl (hb hby d6_45) rfl ((if0 _ _).trans (flt (mt (lw_lt _ _).mp c118)).1) k) ?_
          refine GoW.sg (mkF m 49 #[.val (.ref a1), .val (.ref a2)] [(.int 1)]) (fun t k => XS.iconst X117.here hx rfl (hb hby d6_48) k) ?_
          refine GoW.sg (mkF m 53 #[.val (.ref a1), .val (.ref a2)] [(.int 1)]) (fun t k => XS.goto X117.here hx rfl (pc0 := 49) (pc' := 53) rfl (hb hby d6_49) (by decide) (by decide) k) ?_
          refine GoW.retN X117 hx (t := .boolean) Bd.returns (by simp) (hb hby d6_53) Bd.notSynchronized ?_ (by decide) (by decide)
          rw [e117]
          have hq : (F6_4x x3 x5 x7 x9 x11 x13 x15 x17) = (1 : Int32) := by unfold F6_4x; rw [if_neg c109, if_neg c112, if_neg c115, if_neg c118]; try rfl
          exact ⟨by rw [hq] <;> rfl, N0, rfl⟩
def F0_19 (q1 : Int32) (q2 : Int32) (q3 : Int32) (q4 : Int32) (z3 : Int32) (z4 : Int32) (z5 : Int32) (z6 : Int32) (z7 : Int32) (z8 : Int32) (z9 : Int32) (z10 : Int32) (z12 : Int32) (z14 : Int32) (z16 : Int32) (z18 : Int32) (z20 : Int32) (z22 : Int32) (z24 : Int32) (z26 : Int32) (b54 : Int32) (b60 : Int32) (b65 : Int32) : Int32 := (if (F6_3x z12 z16 z14 z18 z20 z24 z22 z26) = b65 then (if (F6_4x z12 z16 z14 z18 z20 z24 z22 z26) = b65 then (1 : Int32) else (0 : Int32)) else (0 : Int32))
def F0_18 (q1 : Int32) (q2 : Int32) (q3 : Int32) (q4 : Int32) (z3 : Int32) (z4 : Int32) (z5 : Int32) (z6 : Int32) (z7 : Int32) (z8 : Int32) (z9 : Int32) (z10 : Int32) (z12 : Int32) (z14 : Int32) (z16 : Int32) (z18 : Int32) (z20 : Int32) (z22 : Int32) (z24 : Int32) (z26 : Int32) (b54 : Int32) (b60 : Int32) : Int32 := (F0_19 q1 q2 q3 q4 z3 z4 z5 z6 z7 z8 z9 z10 z12 z14 z16 z18 z20 z22 z24 z26 b54 b60 (if b54 = (0 : Int32) then (0 : Int32) else (if b60 = (0 : Int32) then (0 : Int32) else (1 : Int32))))
def F0_17 (q1 : Int32) (q2 : Int32) (q3 : Int32) (q4 : Int32) (z3 : Int32) (z4 : Int32) (z5 : Int32) (z6 : Int32) (z7 : Int32) (z8 : Int32) (z9 : Int32) (z10 : Int32) (z12 : Int32) (z14 : Int32) (z16 : Int32) (z18 : Int32) (z20 : Int32) (z22 : Int32) (z24 : Int32) (z26 : Int32) (b54 : Int32) : Int32 := (F0_18 q1 q2 q3 q4 z3 z4 z5 z6 z7 z8 z9 z10 z12 z14 z16 z18 z20 z22 z24 z26 b54 (if (F1 z18 z26) < (F2 z16 z24) then (0 : Int32) else (1 : Int32)))
def F0_16 (q1 : Int32) (q2 : Int32) (q3 : Int32) (q4 : Int32) (z3 : Int32) (z4 : Int32) (z5 : Int32) (z6 : Int32) (z7 : Int32) (z8 : Int32) (z9 : Int32) (z10 : Int32) (z12 : Int32) (z14 : Int32) (z16 : Int32) (z18 : Int32) (z20 : Int32) (z22 : Int32) (z24 : Int32) (z26 : Int32) : Int32 := (F0_17 q1 q2 q3 q4 z3 z4 z5 z6 z7 z8 z9 z10 z12 z14 z16 z18 z20 z22 z24 z26 (if (F1 z14 z22) < (F2 z12 z20) then (0 : Int32) else (1 : Int32)))
def F0_15 (q1 : Int32) (q2 : Int32) (q3 : Int32) (q4 : Int32) (z3 : Int32) (z4 : Int32) (z5 : Int32) (z6 : Int32) (z7 : Int32) (z8 : Int32) (z9 : Int32) (z10 : Int32) (z12 : Int32) (z14 : Int32) (z16 : Int32) (z18 : Int32) (z20 : Int32) (z22 : Int32) (z24 : Int32) : Int32 := (F0_16 q1 q2 q3 q4 z3 z4 z5 z6 z7 z8 z9 z10 z12 z14 z16 z18 z20 z22 z24 (F2 z9 z10))
def F0_14 (q1 : Int32) (q2 : Int32) (q3 : Int32) (q4 : Int32) (z3 : Int32) (z4 : Int32) (z5 : Int32) (z6 : Int32) (z7 : Int32) (z8 : Int32) (z9 : Int32) (z10 : Int32) (z12 : Int32) (z14 : Int32) (z16 : Int32) (z18 : Int32) (z20 : Int32) (z22 : Int32) : Int32 := (F0_15 q1 q2 q3 q4 z3 z4 z5 z6 z7 z8 z9 z10 z12 z14 z16 z18 z20 z22 (F1 z9 z10))
def F0_13 (q1 : Int32) (q2 : Int32) (q3 : Int32) (q4 : Int32) (z3 : Int32) (z4 : Int32) (z5 : Int32) (z6 : Int32) (z7 : Int32) (z8 : Int32) (z9 : Int32) (z10 : Int32) (z12 : Int32) (z14 : Int32) (z16 : Int32) (z18 : Int32) (z20 : Int32) : Int32 := (F0_14 q1 q2 q3 q4 z3 z4 z5 z6 z7 z8 z9 z10 z12 z14 z16 z18 z20 (F2 z7 z8))
def F0_12 (q1 : Int32) (q2 : Int32) (q3 : Int32) (q4 : Int32) (z3 : Int32) (z4 : Int32) (z5 : Int32) (z6 : Int32) (z7 : Int32) (z8 : Int32) (z9 : Int32) (z10 : Int32) (z12 : Int32) (z14 : Int32) (z16 : Int32) (z18 : Int32) : Int32 := (F0_13 q1 q2 q3 q4 z3 z4 z5 z6 z7 z8 z9 z10 z12 z14 z16 z18 (F1 z7 z8))
def F0_11 (q1 : Int32) (q2 : Int32) (q3 : Int32) (q4 : Int32) (z3 : Int32) (z4 : Int32) (z5 : Int32) (z6 : Int32) (z7 : Int32) (z8 : Int32) (z9 : Int32) (z10 : Int32) (z12 : Int32) (z14 : Int32) (z16 : Int32) : Int32 := (F0_12 q1 q2 q3 q4 z3 z4 z5 z6 z7 z8 z9 z10 z12 z14 z16 (F2 z5 z6))
def F0_10 (q1 : Int32) (q2 : Int32) (q3 : Int32) (q4 : Int32) (z3 : Int32) (z4 : Int32) (z5 : Int32) (z6 : Int32) (z7 : Int32) (z8 : Int32) (z9 : Int32) (z10 : Int32) (z12 : Int32) (z14 : Int32) : Int32 := (F0_11 q1 q2 q3 q4 z3 z4 z5 z6 z7 z8 z9 z10 z12 z14 (F1 z5 z6))
def F0_9 (q1 : Int32) (q2 : Int32) (q3 : Int32) (q4 : Int32) (z3 : Int32) (z4 : Int32) (z5 : Int32) (z6 : Int32) (z7 : Int32) (z8 : Int32) (z9 : Int32) (z10 : Int32) (z12 : Int32) : Int32 := (F0_10 q1 q2 q3 q4 z3 z4 z5 z6 z7 z8 z9 z10 z12 (F2 z3 z4))
def F0_8 (q1 : Int32) (q2 : Int32) (q3 : Int32) (q4 : Int32) (z3 : Int32) (z4 : Int32) (z5 : Int32) (z6 : Int32) (z7 : Int32) (z8 : Int32) (z9 : Int32) (z10 : Int32) : Int32 := (F0_9 q1 q2 q3 q4 z3 z4 z5 z6 z7 z8 z9 z10 (F1 z3 z4))
def F0_7 (q1 : Int32) (q2 : Int32) (q3 : Int32) (q4 : Int32) (z3 : Int32) (z4 : Int32) (z5 : Int32) (z6 : Int32) (z7 : Int32) (z8 : Int32) (z9 : Int32) : Int32 := (F0_8 q1 q2 q3 q4 z3 z4 z5 z6 z7 z8 z9 (q4 >>> ((8 : Int32) &&& 31)).toInt8.toInt32)
def F0_6 (q1 : Int32) (q2 : Int32) (q3 : Int32) (q4 : Int32) (z3 : Int32) (z4 : Int32) (z5 : Int32) (z6 : Int32) (z7 : Int32) (z8 : Int32) : Int32 := (F0_7 q1 q2 q3 q4 z3 z4 z5 z6 z7 z8 q4.toInt8.toInt32)
def F0_5 (q1 : Int32) (q2 : Int32) (q3 : Int32) (q4 : Int32) (z3 : Int32) (z4 : Int32) (z5 : Int32) (z6 : Int32) (z7 : Int32) : Int32 := (F0_6 q1 q2 q3 q4 z3 z4 z5 z6 z7 ((q3 >>> ((8 : Int32) &&& 31)).toInt8.toInt32 % (91 : Int32)))
def F0_4 (q1 : Int32) (q2 : Int32) (q3 : Int32) (q4 : Int32) (z3 : Int32) (z4 : Int32) (z5 : Int32) (z6 : Int32) : Int32 := (F0_5 q1 q2 q3 q4 z3 z4 z5 z6 (q3.toInt8.toInt32 % (91 : Int32)))
def F0_3 (q1 : Int32) (q2 : Int32) (q3 : Int32) (q4 : Int32) (z3 : Int32) (z4 : Int32) (z5 : Int32) : Int32 := (F0_4 q1 q2 q3 q4 z3 z4 z5 (q2 >>> ((8 : Int32) &&& 31)).toInt8.toInt32)
def F0_2 (q1 : Int32) (q2 : Int32) (q3 : Int32) (q4 : Int32) (z3 : Int32) (z4 : Int32) : Int32 := (F0_3 q1 q2 q3 q4 z3 z4 q2.toInt8.toInt32)
def F0_1 (q1 : Int32) (q2 : Int32) (q3 : Int32) (q4 : Int32) (z3 : Int32) : Int32 := (F0_2 q1 q2 q3 q4 z3 ((q1 >>> ((8 : Int32) &&& 31)).toInt8.toInt32 % (91 : Int32)))
def F0 (q1 : Int32) (q2 : Int32) (q3 : Int32) (q4 : Int32) : Int32 := (F0_1 q1 q2 q3 q4 (q1.toInt8.toInt32 % (91 : Int32)))
theorem ef0_rm0 (m : MethodId) (q1 : Int32) (q2 : Int32) (q3 : Int32) (q4 : Int32) : entryFrame m #[(.int q1), (.int q2), (.int q3), (.int q4)] maxLocals = (mkF m 0 #[.val (.int q1), .val (.int q2), .val (.int q3), .val (.int q4), .unset, .unset, .unset, .unset, .unset, .unset, .unset, .unset, .unset, .unset, .unset, .unset, .unset, .unset, .unset, .unset, .unset, .unset, .unset, .unset, .unset] []) := by first | (simp [entryFrame, mkF, argsToLocals, Value.category, maxLocals]; done) | rfl
set_option maxRecDepth 65536 in
set_option maxHeartbeats 40000000 in
theorem rm0 (l : Launch) (Z : State) (a0 : Array Value) (hw : ∀ d ∈ tables_1, d.before a0 Z = true) (ws : List Jvm.Cond) (q1 : Int32) (q2 : Int32) (q3 : Int32) (q4 : Int32)  (h0 : Heap) (n0 : Nat) (Z0 : n0 ≤ h0.size)    :
    MetFree l x (head1 (Jvm.Cond.code x code maxLocals ret :: ws) room_1) (fun a U => a = #[(.int q1), (.int q2), (.int q3), (.int q4)] ∧ Z.Warmed39 U.vm ∧ U.heap = h0) (fun _ _ _ _ _ => True) (fun _ U o U' => ∃ v L, o = .returned v ∧ (ValQ (.int (F0 q1 q2 q3 q4)) n0) v U'.heap L ∧ FrameEnd U o U' L room_1.cells room_1.slots) := by
  refine MetFree.of_bodySF (plainFor_of_name pn_com_example_saunter_saunter_geo_BoundsMeetsPinLaw) hisR ?_
  intro p e s m args below meth c s₁ Bd hml0 hP hK
  obtain ⟨rfl, hZ, hh⟩ := hP
  have hx := Bd.exec
  have hby := Bd.bytes
  have hml : c.maxLocals = 25 := hml0
  have hown : s.vm.findClass "com/example/saunter/saunter/geo/BoundsMeetsPinLaw" = some m.cls := findClass_of_methodNamed Bd.named
  have hnm := (name_of_methodNamed Bd.named Bd.method).1
  have X0 : Stand p l e room_1 s m #[(.int q1), (.int q2), (.int q3), (.int q4)] below meth c s₁ [] 0 0 := Stand.of_body Bd
  have e0 : s₁.heap = h0 := by rw [← hh, Bd.state]; rfl
  have N0 := Fr.nil n0
  refine GoW.mk ?_
  refine GoW.st (fun t k => castTop (ef0_rm0 m q1 q2 q3 q4) k) ?_
  show GoW p e below s (ValQ (.int (F0 q1 q2 q3 q4)) n0) room_1.cells room_1.slots (s₁.setTop (mkF m 0 (Sh0 q1 q2 q3 q4) []))
  refine GoW.sg (mkF m 1 (Sh0 q1 q2 q3 q4) [(.int q1)]) (fun t k => XS.iloadN X0.here hx rfl (hb hby at_0) rfl k) ?_
  refine GoW.sg (mkF m 2 (Sh0 q1 q2 q3 q4) [(.int q1.toInt8.toInt32)]) (fun t k => XS.i2b X0.here hx rfl (hb hby at_1) rfl k) ?_
  refine GoW.sg (mkF m 4 (Sh0 q1 q2 q3 q4) [(.int 91), (.int q1.toInt8.toInt32)]) (fun t k => XS.bipush X0.here hx rfl (hb hby at_2) k) ?_
  refine GoW.sg (mkF m 5 (Sh0 q1 q2 q3 q4) [(.int (q1.toInt8.toInt32 % (91 : Int32)))]) (fun t k => iremM X0 hx rfl (hb hby at_4) rfl (by decide) k) ?_
  refine GoW.sg (mkF m 7 (Sh1 q1 q2 q3 q4 (q1.toInt8.toInt32 % (91 : Int32))) []) (fun t k => XS.istore X0.here hx rfl (hb hby at_5) rfl (l' := (Sh1 q1 q2 q3 q4 (q1.toInt8.toInt32 % (91 : Int32)))) rfl k) ?_
  obtain ⟨z3, hz3⟩ : ∃ z : Int32, z = (q1.toInt8.toInt32 % (91 : Int32)) := ⟨_, rfl⟩
  rw [← hz3]
  have hFz3 : (F0 q1 q2 q3 q4) = (F0_1 q1 q2 q3 q4 z3) := by unfold F0; rw [hz3]
  show GoW p e below s (ValQ (.int (F0 q1 q2 q3 q4)) n0) room_1.cells room_1.slots (s₁.setTop (mkF m 7 (Sh1 q1 q2 q3 q4 z3) []))
  refine GoW.sg (mkF m 8 (Sh1 q1 q2 q3 q4 z3) [(.int q1)]) (fun t k => XS.iloadN X0.here hx rfl (hb hby at_7) rfl k) ?_
  refine GoW.sg (mkF m 10 (Sh1 q1 q2 q3 q4 z3) [(.int 8), (.int q1)]) (fun t k => XS.bipush X0.here hx rfl (hb hby at_8) k) ?_
  refine GoW.sg (mkF m 11 (Sh1 q1 q2 q3 q4 z3) [(.int (q1 >>> ((8 : Int32) &&& 31)))]) (fun t k => XS.ishr X0.here hx rfl (hb hby at_10) rfl k) ?_
  refine GoW.sg (mkF m 12 (Sh1 q1 q2 q3 q4 z3) [(.int (q1 >>> ((8 : Int32) &&& 31)).toInt8.toInt32)]) (fun t k => XS.i2b X0.here hx rfl (hb hby at_11) rfl k) ?_
  refine GoW.sg (mkF m 14 (Sh1 q1 q2 q3 q4 z3) [(.int 91), (.int (q1 >>> ((8 : Int32) &&& 31)).toInt8.toInt32)]) (fun t k => XS.bipush X0.here hx rfl (hb hby at_12) k) ?_
  refine GoW.sg (mkF m 15 (Sh1 q1 q2 q3 q4 z3) [(.int ((q1 >>> ((8 : Int32) &&& 31)).toInt8.toInt32 % (91 : Int32)))]) (fun t k => iremM X0 hx rfl (hb hby at_14) rfl (by decide) k) ?_
  refine GoW.sg (mkF m 17 (Sh2 q1 q2 q3 q4 z3 ((q1 >>> ((8 : Int32) &&& 31)).toInt8.toInt32 % (91 : Int32))) []) (fun t k => XS.istore X0.here hx rfl (hb hby at_15) rfl (l' := (Sh2 q1 q2 q3 q4 z3 ((q1 >>> ((8 : Int32) &&& 31)).toInt8.toInt32 % (91 : Int32)))) rfl k) ?_
  obtain ⟨z4, hz4⟩ : ∃ z : Int32, z = ((q1 >>> ((8 : Int32) &&& 31)).toInt8.toInt32 % (91 : Int32)) := ⟨_, rfl⟩
  rw [← hz4]
  have hFz4 : (F0_1 q1 q2 q3 q4 z3) = (F0_2 q1 q2 q3 q4 z3 z4) := by unfold F0_1; rw [hz4]
  show GoW p e below s (ValQ (.int (F0 q1 q2 q3 q4)) n0) room_1.cells room_1.slots (s₁.setTop (mkF m 17 (Sh2 q1 q2 q3 q4 z3 z4) []))
  refine GoW.sg (mkF m 18 (Sh2 q1 q2 q3 q4 z3 z4) [(.int q2)]) (fun t k => XS.iloadN X0.here hx rfl (hb hby at_17) rfl k) ?_
  refine GoW.sg (mkF m 19 (Sh2 q1 q2 q3 q4 z3 z4) [(.int q2.toInt8.toInt32)]) (fun t k => XS.i2b X0.here hx rfl (hb hby at_18) rfl k) ?_
  refine GoW.sg (mkF m 21 (Sh3 q1 q2 q3 q4 z3 z4 (q2.toInt8.toInt32)) []) (fun t k => XS.istore X0.here hx rfl (hb hby at_19) rfl (l' := (Sh3 q1 q2 q3 q4 z3 z4 (q2.toInt8.toInt32))) rfl k) ?_
  obtain ⟨z5, hz5⟩ : ∃ z : Int32, z = q2.toInt8.toInt32 := ⟨_, rfl⟩
  rw [← hz5]
  have hFz5 : (F0_2 q1 q2 q3 q4 z3 z4) = (F0_3 q1 q2 q3 q4 z3 z4 z5) := by unfold F0_2; rw [hz5]
  show GoW p e below s (ValQ (.int (F0 q1 q2 q3 q4)) n0) room_1.cells room_1.slots (s₁.setTop (mkF m 21 (Sh3 q1 q2 q3 q4 z3 z4 z5) []))
  refine GoW.sg (mkF m 22 (Sh3 q1 q2 q3 q4 z3 z4 z5) [(.int q2)]) (fun t k => XS.iloadN X0.here hx rfl (hb hby at_21) rfl k) ?_
  refine GoW.sg (mkF m 24 (Sh3 q1 q2 q3 q4 z3 z4 z5) [(.int 8), (.int q2)]) (fun t k => XS.bipush X0.here hx rfl (hb hby at_22) k) ?_
  refine GoW.sg (mkF m 25 (Sh3 q1 q2 q3 q4 z3 z4 z5) [(.int (q2 >>> ((8 : Int32) &&& 31)))]) (fun t k => XS.ishr X0.here hx rfl (hb hby at_24) rfl k) ?_
  refine GoW.sg (mkF m 26 (Sh3 q1 q2 q3 q4 z3 z4 z5) [(.int (q2 >>> ((8 : Int32) &&& 31)).toInt8.toInt32)]) (fun t k => XS.i2b X0.here hx rfl (hb hby at_25) rfl k) ?_
  refine GoW.sg (mkF m 28 (Sh4 q1 q2 q3 q4 z3 z4 z5 ((q2 >>> ((8 : Int32) &&& 31)).toInt8.toInt32)) []) (fun t k => XS.istore X0.here hx rfl (hb hby at_26) rfl (l' := (Sh4 q1 q2 q3 q4 z3 z4 z5 ((q2 >>> ((8 : Int32) &&& 31)).toInt8.toInt32))) rfl k) ?_
  obtain ⟨z6, hz6⟩ : ∃ z : Int32, z = (q2 >>> ((8 : Int32) &&& 31)).toInt8.toInt32 := ⟨_, rfl⟩
  rw [← hz6]
  have hFz6 : (F0_3 q1 q2 q3 q4 z3 z4 z5) = (F0_4 q1 q2 q3 q4 z3 z4 z5 z6) := by unfold F0_3; rw [hz6]
  show GoW p e below s (ValQ (.int (F0 q1 q2 q3 q4)) n0) room_1.cells room_1.slots (s₁.setTop (mkF m 28 (Sh4 q1 q2 q3 q4 z3 z4 z5 z6) []))
  refine GoW.sg (mkF m 29 (Sh4 q1 q2 q3 q4 z3 z4 z5 z6) [(.int q3)]) (fun t k => XS.iloadN X0.here hx rfl (hb hby at_28) rfl k) ?_
  refine GoW.sg (mkF m 30 (Sh4 q1 q2 q3 q4 z3 z4 z5 z6) [(.int q3.toInt8.toInt32)]) (fun t k => XS.i2b X0.here hx rfl (hb hby at_29) rfl k) ?_
  refine GoW.sg (mkF m 32 (Sh4 q1 q2 q3 q4 z3 z4 z5 z6) [(.int 91), (.int q3.toInt8.toInt32)]) (fun t k => XS.bipush X0.here hx rfl (hb hby at_30) k) ?_
  refine GoW.sg (mkF m 33 (Sh4 q1 q2 q3 q4 z3 z4 z5 z6) [(.int (q3.toInt8.toInt32 % (91 : Int32)))]) (fun t k => iremM X0 hx rfl (hb hby at_32) rfl (by decide) k) ?_
  refine GoW.sg (mkF m 35 (Sh5 q1 q2 q3 q4 z3 z4 z5 z6 (q3.toInt8.toInt32 % (91 : Int32))) []) (fun t k => XS.istore X0.here hx rfl (hb hby at_33) rfl (l' := (Sh5 q1 q2 q3 q4 z3 z4 z5 z6 (q3.toInt8.toInt32 % (91 : Int32)))) rfl k) ?_
  obtain ⟨z7, hz7⟩ : ∃ z : Int32, z = (q3.toInt8.toInt32 % (91 : Int32)) := ⟨_, rfl⟩
  rw [← hz7]
  have hFz7 : (F0_4 q1 q2 q3 q4 z3 z4 z5 z6) = (F0_5 q1 q2 q3 q4 z3 z4 z5 z6 z7) := by unfold F0_4; rw [hz7]
  show GoW p e below s (ValQ (.int (F0 q1 q2 q3 q4)) n0) room_1.cells room_1.slots (s₁.setTop (mkF m 35 (Sh5 q1 q2 q3 q4 z3 z4 z5 z6 z7) []))
  refine GoW.sg (mkF m 36 (Sh5 q1 q2 q3 q4 z3 z4 z5 z6 z7) [(.int q3)]) (fun t k => XS.iloadN X0.here hx rfl (hb hby at_35) rfl k) ?_
  refine GoW.sg (mkF m 38 (Sh5 q1 q2 q3 q4 z3 z4 z5 z6 z7) [(.int 8), (.int q3)]) (fun t k => XS.bipush X0.here hx rfl (hb hby at_36) k) ?_
  refine GoW.sg (mkF m 39 (Sh5 q1 q2 q3 q4 z3 z4 z5 z6 z7) [(.int (q3 >>> ((8 : Int32) &&& 31)))]) (fun t k => XS.ishr X0.here hx rfl (hb hby at_38) rfl k) ?_
  refine GoW.sg (mkF m 40 (Sh5 q1 q2 q3 q4 z3 z4 z5 z6 z7) [(.int (q3 >>> ((8 : Int32) &&& 31)).toInt8.toInt32)]) (fun t k => XS.i2b X0.here hx rfl (hb hby at_39) rfl k) ?_
  refine GoW.sg (mkF m 42 (Sh5 q1 q2 q3 q4 z3 z4 z5 z6 z7) [(.int 91), (.int (q3 >>> ((8 : Int32) &&& 31)).toInt8.toInt32)]) (fun t k => XS.bipush X0.here hx rfl (hb hby at_40) k) ?_
  refine GoW.sg (mkF m 43 (Sh5 q1 q2 q3 q4 z3 z4 z5 z6 z7) [(.int ((q3 >>> ((8 : Int32) &&& 31)).toInt8.toInt32 % (91 : Int32)))]) (fun t k => iremM X0 hx rfl (hb hby at_42) rfl (by decide) k) ?_
  refine GoW.sg (mkF m 45 (Sh6 q1 q2 q3 q4 z3 z4 z5 z6 z7 ((q3 >>> ((8 : Int32) &&& 31)).toInt8.toInt32 % (91 : Int32))) []) (fun t k => XS.istore X0.here hx rfl (hb hby at_43) rfl (l' := (Sh6 q1 q2 q3 q4 z3 z4 z5 z6 z7 ((q3 >>> ((8 : Int32) &&& 31)).toInt8.toInt32 % (91 : Int32)))) rfl k) ?_
  obtain ⟨z8, hz8⟩ : ∃ z : Int32, z = ((q3 >>> ((8 : Int32) &&& 31)).toInt8.toInt32 % (91 : Int32)) := ⟨_, rfl⟩
  rw [← hz8]
  have hFz8 : (F0_5 q1 q2 q3 q4 z3 z4 z5 z6 z7) = (F0_6 q1 q2 q3 q4 z3 z4 z5 z6 z7 z8) := by unfold F0_5; rw [hz8]
  show GoW p e below s (ValQ (.int (F0 q1 q2 q3 q4)) n0) room_1.cells room_1.slots (s₁.setTop (mkF m 45 (Sh6 q1 q2 q3 q4 z3 z4 z5 z6 z7 z8) []))
  refine GoW.sg (mkF m 46 (Sh6 q1 q2 q3 q4 z3 z4 z5 z6 z7 z8) [(.int q4)]) (fun t k => XS.iloadN X0.here hx rfl (hb hby at_45) rfl k) ?_
  refine GoW.sg (mkF m 47 (Sh6 q1 q2 q3 q4 z3 z4 z5 z6 z7 z8) [(.int q4.toInt8.toInt32)]) (fun t k => XS.i2b X0.here hx rfl (hb hby at_46) rfl k) ?_
  refine GoW.sg (mkF m 49 (Sh7 q1 q2 q3 q4 z3 z4 z5 z6 z7 z8 (q4.toInt8.toInt32)) []) (fun t k => XS.istore X0.here hx rfl (hb hby at_47) rfl (l' := (Sh7 q1 q2 q3 q4 z3 z4 z5 z6 z7 z8 (q4.toInt8.toInt32))) rfl k) ?_
  obtain ⟨z9, hz9⟩ : ∃ z : Int32, z = q4.toInt8.toInt32 := ⟨_, rfl⟩
  rw [← hz9]
  have hFz9 : (F0_6 q1 q2 q3 q4 z3 z4 z5 z6 z7 z8) = (F0_7 q1 q2 q3 q4 z3 z4 z5 z6 z7 z8 z9) := by unfold F0_6; rw [hz9]
  show GoW p e below s (ValQ (.int (F0 q1 q2 q3 q4)) n0) room_1.cells room_1.slots (s₁.setTop (mkF m 49 (Sh7 q1 q2 q3 q4 z3 z4 z5 z6 z7 z8 z9) []))
  refine GoW.sg (mkF m 50 (Sh7 q1 q2 q3 q4 z3 z4 z5 z6 z7 z8 z9) [(.int q4)]) (fun t k => XS.iloadN X0.here hx rfl (hb hby at_49) rfl k) ?_
  refine GoW.sg (mkF m 52 (Sh7 q1 q2 q3 q4 z3 z4 z5 z6 z7 z8 z9) [(.int 8), (.int q4)]) (fun t k => XS.bipush X0.here hx rfl (hb hby at_50) k) ?_
  refine GoW.sg (mkF m 53 (Sh7 q1 q2 q3 q4 z3 z4 z5 z6 z7 z8 z9) [(.int (q4 >>> ((8 : Int32) &&& 31)))]) (fun t k => XS.ishr X0.here hx rfl (hb hby at_52) rfl k) ?_
  refine GoW.sg (mkF m 54 (Sh7 q1 q2 q3 q4 z3 z4 z5 z6 z7 z8 z9) [(.int (q4 >>> ((8 : Int32) &&& 31)).toInt8.toInt32)]) (fun t k => XS.i2b X0.here hx rfl (hb hby at_53) rfl k) ?_
  refine GoW.sg (mkF m 56 (Sh8 q1 q2 q3 q4 z3 z4 z5 z6 z7 z8 z9 ((q4 >>> ((8 : Int32) &&& 31)).toInt8.toInt32)) []) (fun t k => XS.istore X0.here hx rfl (hb hby at_54) rfl (l' := (Sh8 q1 q2 q3 q4 z3 z4 z5 z6 z7 z8 z9 ((q4 >>> ((8 : Int32) &&& 31)).toInt8.toInt32))) rfl k) ?_
  obtain ⟨z10, hz10⟩ : ∃ z : Int32, z = (q4 >>> ((8 : Int32) &&& 31)).toInt8.toInt32 := ⟨_, rfl⟩
  rw [← hz10]
  have hFz10 : (F0_7 q1 q2 q3 q4 z3 z4 z5 z6 z7 z8 z9) = (F0_8 q1 q2 q3 q4 z3 z4 z5 z6 z7 z8 z9 z10) := by unfold F0_7; rw [hz10]
  show GoW p e below s (ValQ (.int (F0 q1 q2 q3 q4)) n0) room_1.cells room_1.slots (s₁.setTop (mkF m 56 (Sh8 q1 q2 q3 q4 z3 z4 z5 z6 z7 z8 z9 z10) []))
  refine GoW.sg (mkF m 58 (Sh8 q1 q2 q3 q4 z3 z4 z5 z6 z7 z8 z9 z10) [(.int z3)]) (fun t k => XS.iload X0.here hx rfl (hb hby at_56) rfl k) ?_
  refine GoW.sg (mkF m 60 (Sh8 q1 q2 q3 q4 z3 z4 z5 z6 z7 z8 z9 z10) [(.int z4), (.int z3)]) (fun t k => XS.iload X0.here hx rfl (hb hby at_58) rfl k) ?_
  obtain ⟨_, _, ⟨T11, L11, k11, n11⟩, -, X11, ⟨Lc11, hQ11, l11, y11, z11⟩, st11⟩ := Jvm.LawKit.callS X0 hx (y := (⟨"java/lang/Math", "min", "(II)I"⟩ : MethodName)) hown (mvT hZ (ww hw 0 rfl)) (mvT hZ (ww hw 1 rfl)) (mvT hZ (ww hw 2 rfl)) (mvT hZ (ww hw 3 rfl)) (by decide) (backOf (W := 0) (rm1 l Z a0 hw [] z3 z4 h0 n0) hZ (ww hw 3 rfl) (ww hw 2 rfl) (by decide) (by decide)) (g := (mkF m 60 (Sh8 q1 q2 q3 q4 z3 z4 z5 z6 z7 z8 z9 z10) [(.int z4), (.int z3)])) rfl (by rw [hml]; rfl) (argsL := [(.int z3), (.int z4)]) (rest := []) (lenOf pd_28II29I rfl) rfl (by show 2 * 0 + _ ≤ _; exact Nat.le_of_eq rfl) (hb hby at_60) (fun _ _ => ⟨rfl, e0, (by decide : 0 + 0 ≤ _), (by decide : 0 + 0 ≤ _)⟩)
  dsimp only [Pt.U, Pt.locs, Pt.cells, Pt.slots] at X11 l11 y11 z11 st11 hQ11
  subst l11 y11 z11
  obtain ⟨rfl, N11q, e11⟩ := hQ11
  have N11 := Fr.app N0 N11q
  refine GoW.sg (mkF m 63 (Sh8 q1 q2 q3 q4 z3 z4 z5 z6 z7 z8 z9 z10) [(.int (F1 z3 z4))]) (fun t k => st11 t k) ?_
  refine GoW.sg (mkF m 65 (Sh9 q1 q2 q3 q4 z3 z4 z5 z6 z7 z8 z9 z10 (F1 z3 z4)) []) (fun t k => XS.istore X11.here hx rfl (hb hby at_63) rfl (l' := (Sh9 q1 q2 q3 q4 z3 z4 z5 z6 z7 z8 z9 z10 (F1 z3 z4))) rfl k) ?_
  obtain ⟨z12, hz12⟩ : ∃ z : Int32, z = (F1 z3 z4) := ⟨_, rfl⟩
  rw [← hz12]
  have hFz12 : (F0_8 q1 q2 q3 q4 z3 z4 z5 z6 z7 z8 z9 z10) = (F0_9 q1 q2 q3 q4 z3 z4 z5 z6 z7 z8 z9 z10 z12) := by unfold F0_8; rw [hz12]
  show GoW p e below s (ValQ (.int (F0 q1 q2 q3 q4)) n0) room_1.cells room_1.slots (T11.setTop (mkF m 65 (Sh9 q1 q2 q3 q4 z3 z4 z5 z6 z7 z8 z9 z10 z12) []))
  refine GoW.sg (mkF m 67 (Sh9 q1 q2 q3 q4 z3 z4 z5 z6 z7 z8 z9 z10 z12) [(.int z3)]) (fun t k => XS.iload X11.here hx rfl (hb hby at_65) rfl k) ?_
  refine GoW.sg (mkF m 69 (Sh9 q1 q2 q3 q4 z3 z4 z5 z6 z7 z8 z9 z10 z12) [(.int z4), (.int z3)]) (fun t k => XS.iload X11.here hx rfl (hb hby at_67) rfl k) ?_
  obtain ⟨_, _, ⟨T13, L13, k13, n13⟩, -, X13, ⟨Lc13, hQ13, l13, y13, z13⟩, st13⟩ := Jvm.LawKit.callS X11 hx (y := (⟨"java/lang/Math", "max", "(II)I"⟩ : MethodName)) hown (mvT hZ (ww hw 4 rfl)) (mvT hZ (ww hw 5 rfl)) (mvT hZ (ww hw 2 rfl)) (mvT hZ (ww hw 6 rfl)) (by decide) (backOf (W := 0) (rm2 l Z a0 hw [] z3 z4 h0 n0) hZ (ww hw 6 rfl) (ww hw 2 rfl) (by decide) (by decide)) (g := (mkF m 69 (Sh9 q1 q2 q3 q4 z3 z4 z5 z6 z7 z8 z9 z10 z12) [(.int z4), (.int z3)])) rfl (by rw [hml]; rfl) (argsL := [(.int z3), (.int z4)]) (rest := []) (lenOf pd_28II29I rfl) rfl (by show 2 * 0 + _ ≤ _; exact Nat.le_of_eq rfl) (hb hby at_69) (fun _ _ => ⟨rfl, e11, (by decide : 0 + 0 ≤ _), (by decide : 0 + 0 ≤ _)⟩)
  dsimp only [Pt.U, Pt.locs, Pt.cells, Pt.slots] at X13 l13 y13 z13 st13 hQ13
  subst l13 y13 z13
  obtain ⟨rfl, N13q, e13⟩ := hQ13
  have N13 := Fr.app N11 N13q
  refine GoW.sg (mkF m 72 (Sh9 q1 q2 q3 q4 z3 z4 z5 z6 z7 z8 z9 z10 z12) [(.int (F2 z3 z4))]) (fun t k => st13 t k) ?_
  refine GoW.sg (mkF m 74 (Sh10 q1 q2 q3 q4 z3 z4 z5 z6 z7 z8 z9 z10 z12 (F2 z3 z4)) []) (fun t k => XS.istore X13.here hx rfl (hb hby at_72) rfl (l' := (Sh10 q1 q2 q3 q4 z3 z4 z5 z6 z7 z8 z9 z10 z12 (F2 z3 z4))) rfl k) ?_
  obtain ⟨z14, hz14⟩ : ∃ z : Int32, z = (F2 z3 z4) := ⟨_, rfl⟩
  rw [← hz14]
  have hFz14 : (F0_9 q1 q2 q3 q4 z3 z4 z5 z6 z7 z8 z9 z10 z12) = (F0_10 q1 q2 q3 q4 z3 z4 z5 z6 z7 z8 z9 z10 z12 z14) := by unfold F0_9; rw [hz14]
  show GoW p e below s (ValQ (.int (F0 q1 q2 q3 q4)) n0) room_1.cells room_1.slots (T13.setTop (mkF m 74 (Sh10 q1 q2 q3 q4 z3 z4 z5 z6 z7 z8 z9 z10 z12 z14) []))
  refine GoW.sg (mkF m 76 (Sh10 q1 q2 q3 q4 z3 z4 z5 z6 z7 z8 z9 z10 z12 z14) [(.int z5)]) (fun t k => XS.iload X13.here hx rfl (hb hby at_74) rfl k) ?_
  refine GoW.sg (mkF m 78 (Sh10 q1 q2 q3 q4 z3 z4 z5 z6 z7 z8 z9 z10 z12 z14) [(.int z6), (.int z5)]) (fun t k => XS.iload X13.here hx rfl (hb hby at_76) rfl k) ?_
  obtain ⟨_, _, ⟨T15, L15, k15, n15⟩, -, X15, ⟨Lc15, hQ15, l15, y15, z15⟩, st15⟩ := Jvm.LawKit.callS X13 hx (y := (⟨"java/lang/Math", "min", "(II)I"⟩ : MethodName)) hown (mvT hZ (ww hw 0 rfl)) (mvT hZ (ww hw 1 rfl)) (mvT hZ (ww hw 2 rfl)) (mvT hZ (ww hw 3 rfl)) (by decide) (backOf (W := 0) (rm1 l Z a0 hw [] z5 z6 h0 n0) hZ (ww hw 3 rfl) (ww hw 2 rfl) (by decide) (by decide)) (g := (mkF m 78 (Sh10 q1 q2 q3 q4 z3 z4 z5 z6 z7 z8 z9 z10 z12 z14) [(.int z6), (.int z5)])) rfl (by rw [hml]; rfl) (argsL := [(.int z5), (.int z6)]) (rest := []) (lenOf pd_28II29I rfl) rfl (by show 2 * 0 + _ ≤ _; exact Nat.le_of_eq rfl) (hb hby at_78) (fun _ _ => ⟨rfl, e13, (by decide : 0 + 0 ≤ _), (by decide : 0 + 0 ≤ _)⟩)
  dsimp only [Pt.U, Pt.locs, Pt.cells, Pt.slots] at X15 l15 y15 z15 st15 hQ15
  subst l15 y15 z15
  obtain ⟨rfl, N15q, e15⟩ := hQ15
  have N15 := Fr.app N13 N15q
  refine GoW.sg (mkF m 81 (Sh10 q1 q2 q3 q4 z3 z4 z5 z6 z7 z8 z9 z10 z12 z14) [(.int (F1 z5 z6))]) (fun t k => st15 t k) ?_
  refine GoW.sg (mkF m 83 (Sh11 q1 q2 q3 q4 z3 z4 z5 z6 z7 z8 z9 z10 z12 z14 (F1 z5 z6)) []) (fun t k => XS.istore X15.here hx rfl (hb hby at_81) rfl (l' := (Sh11 q1 q2 q3 q4 z3 z4 z5 z6 z7 z8 z9 z10 z12 z14 (F1 z5 z6))) rfl k) ?_
  obtain ⟨z16, hz16⟩ : ∃ z : Int32, z = (F1 z5 z6) := ⟨_, rfl⟩
  rw [← hz16]
  have hFz16 : (F0_10 q1 q2 q3 q4 z3 z4 z5 z6 z7 z8 z9 z10 z12 z14) = (F0_11 q1 q2 q3 q4 z3 z4 z5 z6 z7 z8 z9 z10 z12 z14 z16) := by unfold F0_10; rw [hz16]
  show GoW p e below s (ValQ (.int (F0 q1 q2 q3 q4)) n0) room_1.cells room_1.slots (T15.setTop (mkF m 83 (Sh11 q1 q2 q3 q4 z3 z4 z5 z6 z7 z8 z9 z10 z12 z14 z16) []))
  refine GoW.sg (mkF m 85 (Sh11 q1 q2 q3 q4 z3 z4 z5 z6 z7 z8 z9 z10 z12 z14 z16) [(.int z5)]) (fun t k => XS.iload X15.here hx rfl (hb hby at_83) rfl k) ?_
  refine GoW.sg (mkF m 87 (Sh11 q1 q2 q3 q4 z3 z4 z5 z6 z7 z8 z9 z10 z12 z14 z16) [(.int z6), (.int z5)]) (fun t k => XS.iload X15.here hx rfl (hb hby at_85) rfl k) ?_
  obtain ⟨_, _, ⟨T17, L17, k17, n17⟩, -, X17, ⟨Lc17, hQ17, l17, y17, z17⟩, st17⟩ := Jvm.LawKit.callS X15 hx (y := (⟨"java/lang/Math", "max", "(II)I"⟩ : MethodName)) hown (mvT hZ (ww hw 4 rfl)) (mvT hZ (ww hw 5 rfl)) (mvT hZ (ww hw 2 rfl)) (mvT hZ (ww hw 6 rfl)) (by decide) (backOf (W := 0) (rm2 l Z a0 hw [] z5 z6 h0 n0) hZ (ww hw 6 rfl) (ww hw 2 rfl) (by decide) (by decide)) (g := (mkF m 87 (Sh11 q1 q2 q3 q4 z3 z4 z5 z6 z7 z8 z9 z10 z12 z14 z16) [(.int z6), (.int z5)])) rfl (by rw [hml]; rfl) (argsL := [(.int z5), (.int z6)]) (rest := []) (lenOf pd_28II29I rfl) rfl (by show 2 * 0 + _ ≤ _; exact Nat.le_of_eq rfl) (hb hby at_87) (fun _ _ => ⟨rfl, e15, (by decide : 0 + 0 ≤ _), (by decide : 0 + 0 ≤ _)⟩)
  dsimp only [Pt.U, Pt.locs, Pt.cells, Pt.slots] at X17 l17 y17 z17 st17 hQ17
  subst l17 y17 z17
  obtain ⟨rfl, N17q, e17⟩ := hQ17
  have N17 := Fr.app N15 N17q
  refine GoW.sg (mkF m 90 (Sh11 q1 q2 q3 q4 z3 z4 z5 z6 z7 z8 z9 z10 z12 z14 z16) [(.int (F2 z5 z6))]) (fun t k => st17 t k) ?_
  refine GoW.sg (mkF m 92 (Sh12 q1 q2 q3 q4 z3 z4 z5 z6 z7 z8 z9 z10 z12 z14 z16 (F2 z5 z6)) []) (fun t k => XS.istore X17.here hx rfl (hb hby at_90) rfl (l' := (Sh12 q1 q2 q3 q4 z3 z4 z5 z6 z7 z8 z9 z10 z12 z14 z16 (F2 z5 z6))) rfl k) ?_
  obtain ⟨z18, hz18⟩ : ∃ z : Int32, z = (F2 z5 z6) := ⟨_, rfl⟩
  rw [← hz18]
  have hFz18 : (F0_11 q1 q2 q3 q4 z3 z4 z5 z6 z7 z8 z9 z10 z12 z14 z16) = (F0_12 q1 q2 q3 q4 z3 z4 z5 z6 z7 z8 z9 z10 z12 z14 z16 z18) := by unfold F0_11; rw [hz18]
  show GoW p e below s (ValQ (.int (F0 q1 q2 q3 q4)) n0) room_1.cells room_1.slots (T17.setTop (mkF m 92 (Sh12 q1 q2 q3 q4 z3 z4 z5 z6 z7 z8 z9 z10 z12 z14 z16 z18) []))
  refine GoW.sg (mkF m 94 (Sh12 q1 q2 q3 q4 z3 z4 z5 z6 z7 z8 z9 z10 z12 z14 z16 z18) [(.int z7)]) (fun t k => XS.iload X17.here hx rfl (hb hby at_92) rfl k) ?_
  refine GoW.sg (mkF m 96 (Sh12 q1 q2 q3 q4 z3 z4 z5 z6 z7 z8 z9 z10 z12 z14 z16 z18) [(.int z8), (.int z7)]) (fun t k => XS.iload X17.here hx rfl (hb hby at_94) rfl k) ?_
  obtain ⟨_, _, ⟨T19, L19, k19, n19⟩, -, X19, ⟨Lc19, hQ19, l19, y19, z19⟩, st19⟩ := Jvm.LawKit.callS X17 hx (y := (⟨"java/lang/Math", "min", "(II)I"⟩ : MethodName)) hown (mvT hZ (ww hw 0 rfl)) (mvT hZ (ww hw 1 rfl)) (mvT hZ (ww hw 2 rfl)) (mvT hZ (ww hw 3 rfl)) (by decide) (backOf (W := 0) (rm1 l Z a0 hw [] z7 z8 h0 n0) hZ (ww hw 3 rfl) (ww hw 2 rfl) (by decide) (by decide)) (g := (mkF m 96 (Sh12 q1 q2 q3 q4 z3 z4 z5 z6 z7 z8 z9 z10 z12 z14 z16 z18) [(.int z8), (.int z7)])) rfl (by rw [hml]; rfl) (argsL := [(.int z7), (.int z8)]) (rest := []) (lenOf pd_28II29I rfl) rfl (by show 2 * 0 + _ ≤ _; exact Nat.le_of_eq rfl) (hb hby at_96) (fun _ _ => ⟨rfl, e17, (by decide : 0 + 0 ≤ _), (by decide : 0 + 0 ≤ _)⟩)
  dsimp only [Pt.U, Pt.locs, Pt.cells, Pt.slots] at X19 l19 y19 z19 st19 hQ19
  subst l19 y19 z19
  obtain ⟨rfl, N19q, e19⟩ := hQ19
  have N19 := Fr.app N17 N19q
  refine GoW.sg (mkF m 99 (Sh12 q1 q2 q3 q4 z3 z4 z5 z6 z7 z8 z9 z10 z12 z14 z16 z18) [(.int (F1 z7 z8))]) (fun t k => st19 t k) ?_
  refine GoW.sg (mkF m 101 (Sh13 q1 q2 q3 q4 z3 z4 z5 z6 z7 z8 z9 z10 z12 z14 z16 z18 (F1 z7 z8)) []) (fun t k => XS.istore X19.here hx rfl (hb hby at_99) rfl (l' := (Sh13 q1 q2 q3 q4 z3 z4 z5 z6 z7 z8 z9 z10 z12 z14 z16 z18 (F1 z7 z8))) rfl k) ?_
  obtain ⟨z20, hz20⟩ : ∃ z : Int32, z = (F1 z7 z8) := ⟨_, rfl⟩
  rw [← hz20]
  have hFz20 : (F0_12 q1 q2 q3 q4 z3 z4 z5 z6 z7 z8 z9 z10 z12 z14 z16 z18) = (F0_13 q1 q2 q3 q4 z3 z4 z5 z6 z7 z8 z9 z10 z12 z14 z16 z18 z20) := by unfold F0_12; rw [hz20]
  show GoW p e below s (ValQ (.int (F0 q1 q2 q3 q4)) n0) room_1.cells room_1.slots (T19.setTop (mkF m 101 (Sh13 q1 q2 q3 q4 z3 z4 z5 z6 z7 z8 z9 z10 z12 z14 z16 z18 z20) []))
  refine GoW.sg (mkF m 103 (Sh13 q1 q2 q3 q4 z3 z4 z5 z6 z7 z8 z9 z10 z12 z14 z16 z18 z20) [(.int z7)]) (fun t k => XS.iload X19.here hx rfl (hb hby at_101) rfl k) ?_
  refine GoW.sg (mkF m 105 (Sh13 q1 q2 q3 q4 z3 z4 z5 z6 z7 z8 z9 z10 z12 z14 z16 z18 z20) [(.int z8), (.int z7)]) (fun t k => XS.iload X19.here hx rfl (hb hby at_103) rfl k) ?_
  obtain ⟨_, _, ⟨T21, L21, k21, n21⟩, -, X21, ⟨Lc21, hQ21, l21, y21, z21⟩, st21⟩ := Jvm.LawKit.callS X19 hx (y := (⟨"java/lang/Math", "max", "(II)I"⟩ : MethodName)) hown (mvT hZ (ww hw 4 rfl)) (mvT hZ (ww hw 5 rfl)) (mvT hZ (ww hw 2 rfl)) (mvT hZ (ww hw 6 rfl)) (by decide) (backOf (W := 0) (rm2 l Z a0 hw [] z7 z8 h0 n0) hZ (ww hw 6 rfl) (ww hw 2 rfl) (by decide) (by decide)) (g := (mkF m 105 (Sh13 q1 q2 q3 q4 z3 z4 z5 z6 z7 z8 z9 z10 z12 z14 z16 z18 z20) [(.int z8), (.int z7)])) rfl (by rw [hml]; rfl) (argsL := [(.int z7), (.int z8)]) (rest := []) (lenOf pd_28II29I rfl) rfl (by show 2 * 0 + _ ≤ _; exact Nat.le_of_eq rfl) (hb hby at_105) (fun _ _ => ⟨rfl, e19, (by decide : 0 + 0 ≤ _), (by decide : 0 + 0 ≤ _)⟩)
  dsimp only [Pt.U, Pt.locs, Pt.cells, Pt.slots] at X21 l21 y21 z21 st21 hQ21
  subst l21 y21 z21
  obtain ⟨rfl, N21q, e21⟩ := hQ21
  have N21 := Fr.app N19 N21q
  refine GoW.sg (mkF m 108 (Sh13 q1 q2 q3 q4 z3 z4 z5 z6 z7 z8 z9 z10 z12 z14 z16 z18 z20) [(.int (F2 z7 z8))]) (fun t k => st21 t k) ?_
  refine GoW.sg (mkF m 110 (Sh14 q1 q2 q3 q4 z3 z4 z5 z6 z7 z8 z9 z10 z12 z14 z16 z18 z20 (F2 z7 z8)) []) (fun t k => XS.istore X21.here hx rfl (hb hby at_108) rfl (l' := (Sh14 q1 q2 q3 q4 z3 z4 z5 z6 z7 z8 z9 z10 z12 z14 z16 z18 z20 (F2 z7 z8))) rfl k) ?_
  obtain ⟨z22, hz22⟩ : ∃ z : Int32, z = (F2 z7 z8) := ⟨_, rfl⟩
  rw [← hz22]
  have hFz22 : (F0_13 q1 q2 q3 q4 z3 z4 z5 z6 z7 z8 z9 z10 z12 z14 z16 z18 z20) = (F0_14 q1 q2 q3 q4 z3 z4 z5 z6 z7 z8 z9 z10 z12 z14 z16 z18 z20 z22) := by unfold F0_13; rw [hz22]
  show GoW p e below s (ValQ (.int (F0 q1 q2 q3 q4)) n0) room_1.cells room_1.slots (T21.setTop (mkF m 110 (Sh14 q1 q2 q3 q4 z3 z4 z5 z6 z7 z8 z9 z10 z12 z14 z16 z18 z20 z22) []))
  refine GoW.sg (mkF m 112 (Sh14 q1 q2 q3 q4 z3 z4 z5 z6 z7 z8 z9 z10 z12 z14 z16 z18 z20 z22) [(.int z9)]) (fun t k => XS.iload X21.here hx rfl (hb hby at_110) rfl k) ?_
  refine GoW.sg (mkF m 114 (Sh14 q1 q2 q3 q4 z3 z4 z5 z6 z7 z8 z9 z10 z12 z14 z16 z18 z20 z22) [(.int z10), (.int z9)]) (fun t k => XS.iload X21.here hx rfl (hb hby at_112) rfl k) ?_
  obtain ⟨_, _, ⟨T23, L23, k23, n23⟩, -, X23, ⟨Lc23, hQ23, l23, y23, z23⟩, st23⟩ := Jvm.LawKit.callS X21 hx (y := (⟨"java/lang/Math", "min", "(II)I"⟩ : MethodName)) hown (mvT hZ (ww hw 0 rfl)) (mvT hZ (ww hw 1 rfl)) (mvT hZ (ww hw 2 rfl)) (mvT hZ (ww hw 3 rfl)) (by decide) (backOf (W := 0) (rm1 l Z a0 hw [] z9 z10 h0 n0) hZ (ww hw 3 rfl) (ww hw 2 rfl) (by decide) (by decide)) (g := (mkF m 114 (Sh14 q1 q2 q3 q4 z3 z4 z5 z6 z7 z8 z9 z10 z12 z14 z16 z18 z20 z22) [(.int z10), (.int z9)])) rfl (by rw [hml]; rfl) (argsL := [(.int z9), (.int z10)]) (rest := []) (lenOf pd_28II29I rfl) rfl (by show 2 * 0 + _ ≤ _; exact Nat.le_of_eq rfl) (hb hby at_114) (fun _ _ => ⟨rfl, e21, (by decide : 0 + 0 ≤ _), (by decide : 0 + 0 ≤ _)⟩)
  dsimp only [Pt.U, Pt.locs, Pt.cells, Pt.slots] at X23 l23 y23 z23 st23 hQ23
  subst l23 y23 z23
  obtain ⟨rfl, N23q, e23⟩ := hQ23
  have N23 := Fr.app N21 N23q
  refine GoW.sg (mkF m 117 (Sh14 q1 q2 q3 q4 z3 z4 z5 z6 z7 z8 z9 z10 z12 z14 z16 z18 z20 z22) [(.int (F1 z9 z10))]) (fun t k => st23 t k) ?_
  refine GoW.sg (mkF m 119 (Sh15 q1 q2 q3 q4 z3 z4 z5 z6 z7 z8 z9 z10 z12 z14 z16 z18 z20 z22 (F1 z9 z10)) []) (fun t k => XS.istore X23.here hx rfl (hb hby at_117) rfl (l' := (Sh15 q1 q2 q3 q4 z3 z4 z5 z6 z7 z8 z9 z10 z12 z14 z16 z18 z20 z22 (F1 z9 z10))) rfl k) ?_
  obtain ⟨z24, hz24⟩ : ∃ z : Int32, z = (F1 z9 z10) := ⟨_, rfl⟩
  rw [← hz24]
  have hFz24 : (F0_14 q1 q2 q3 q4 z3 z4 z5 z6 z7 z8 z9 z10 z12 z14 z16 z18 z20 z22) = (F0_15 q1 q2 q3 q4 z3 z4 z5 z6 z7 z8 z9 z10 z12 z14 z16 z18 z20 z22 z24) := by unfold F0_14; rw [hz24]
  show GoW p e below s (ValQ (.int (F0 q1 q2 q3 q4)) n0) room_1.cells room_1.slots (T23.setTop (mkF m 119 (Sh15 q1 q2 q3 q4 z3 z4 z5 z6 z7 z8 z9 z10 z12 z14 z16 z18 z20 z22 z24) []))
  refine GoW.sg (mkF m 121 (Sh15 q1 q2 q3 q4 z3 z4 z5 z6 z7 z8 z9 z10 z12 z14 z16 z18 z20 z22 z24) [(.int z9)]) (fun t k => XS.iload X23.here hx rfl (hb hby at_119) rfl k) ?_
  refine GoW.sg (mkF m 123 (Sh15 q1 q2 q3 q4 z3 z4 z5 z6 z7 z8 z9 z10 z12 z14 z16 z18 z20 z22 z24) [(.int z10), (.int z9)]) (fun t k => XS.iload X23.here hx rfl (hb hby at_121) rfl k) ?_
  obtain ⟨_, _, ⟨T25, L25, k25, n25⟩, -, X25, ⟨Lc25, hQ25, l25, y25, z25⟩, st25⟩ := Jvm.LawKit.callS X23 hx (y := (⟨"java/lang/Math", "max", "(II)I"⟩ : MethodName)) hown (mvT hZ (ww hw 4 rfl)) (mvT hZ (ww hw 5 rfl)) (mvT hZ (ww hw 2 rfl)) (mvT hZ (ww hw 6 rfl)) (by decide) (backOf (W := 0) (rm2 l Z a0 hw [] z9 z10 h0 n0) hZ (ww hw 6 rfl) (ww hw 2 rfl) (by decide) (by decide)) (g := (mkF m 123 (Sh15 q1 q2 q3 q4 z3 z4 z5 z6 z7 z8 z9 z10 z12 z14 z16 z18 z20 z22 z24) [(.int z10), (.int z9)])) rfl (by rw [hml]; rfl) (argsL := [(.int z9), (.int z10)]) (rest := []) (lenOf pd_28II29I rfl) rfl (by show 2 * 0 + _ ≤ _; exact Nat.le_of_eq rfl) (hb hby at_123) (fun _ _ => ⟨rfl, e23, (by decide : 0 + 0 ≤ _), (by decide : 0 + 0 ≤ _)⟩)
  dsimp only [Pt.U, Pt.locs, Pt.cells, Pt.slots] at X25 l25 y25 z25 st25 hQ25
  subst l25 y25 z25
  obtain ⟨rfl, N25q, e25⟩ := hQ25
  have N25 := Fr.app N23 N25q
  refine GoW.sg (mkF m 126 (Sh15 q1 q2 q3 q4 z3 z4 z5 z6 z7 z8 z9 z10 z12 z14 z16 z18 z20 z22 z24) [(.int (F2 z9 z10))]) (fun t k => st25 t k) ?_
  refine GoW.sg (mkF m 128 (Sh16 q1 q2 q3 q4 z3 z4 z5 z6 z7 z8 z9 z10 z12 z14 z16 z18 z20 z22 z24 (F2 z9 z10)) []) (fun t k => XS.istore X25.here hx rfl (hb hby at_126) rfl (l' := (Sh16 q1 q2 q3 q4 z3 z4 z5 z6 z7 z8 z9 z10 z12 z14 z16 z18 z20 z22 z24 (F2 z9 z10))) rfl k) ?_
  obtain ⟨z26, hz26⟩ : ∃ z : Int32, z = (F2 z9 z10) := ⟨_, rfl⟩
  rw [← hz26]
  have hFz26 : (F0_15 q1 q2 q3 q4 z3 z4 z5 z6 z7 z8 z9 z10 z12 z14 z16 z18 z20 z22 z24) = (F0_16 q1 q2 q3 q4 z3 z4 z5 z6 z7 z8 z9 z10 z12 z14 z16 z18 z20 z22 z24 z26) := by unfold F0_15; rw [hz26]
  show GoW p e below s (ValQ (.int (F0 q1 q2 q3 q4)) n0) room_1.cells room_1.slots (T25.setTop (mkF m 128 (Sh16 q1 q2 q3 q4 z3 z4 z5 z6 z7 z8 z9 z10 z12 z14 z16 z18 z20 z22 z24 z26) []))
  obtain ⟨T27, h27, X27, e27, E27, A27, D27, -, st27⟩ := newO X25 hx hZ hown (ww hw 7 rfl) (ww hw 8 rfl) (ww hw 9 rfl) e25 (g := (mkF m 128 (Sh16 q1 q2 q3 q4 z3 z4 z5 z6 z7 z8 z9 z10 z12 z14 z16 z18 z20 z22 z24 z26) [])) rfl (hb hby at_128) (by decide) (by decide)
  obtain ⟨b27, g27⟩ : ∃ z, z = h0.size := ⟨_, rfl⟩
  rw [← g27] at A27 D27 st27
  have g_b27 : n0 ≤ b27 := Nat.le_trans Z0 (Nat.le_of_eq g27.symm)
  have Zs_27 : n0 ≤ h27.size := Nat.le_trans Z0 E27.1
  have Fld_b27_south_27 : Fld Z h27 b27 "com/example/saunter/saunter/geo/Bounds" "south" "D" (.double (0 : UInt64)) := D27 (Or.inr (ww hw 22 rfl)) (ty := .double) (by decide)
  have Fld_b27_west_27 : Fld Z h27 b27 "com/example/saunter/saunter/geo/Bounds" "west" "D" (.double (0 : UInt64)) := D27 (Or.inr (ww hw 24 rfl)) (ty := .double) (by decide)
  have Fld_b27_north_27 : Fld Z h27 b27 "com/example/saunter/saunter/geo/Bounds" "north" "D" (.double (0 : UInt64)) := D27 (Or.inr (ww hw 26 rfl)) (ty := .double) (by decide)
  have Fld_b27_east_27 : Fld Z h27 b27 "com/example/saunter/saunter/geo/Bounds" "east" "D" (.double (0 : UInt64)) := D27 (Or.inr (ww hw 28 rfl)) (ty := .double) (by decide)
  refine GoW.sg (mkF m 131 (Sh16 q1 q2 q3 q4 z3 z4 z5 z6 z7 z8 z9 z10 z12 z14 z16 z18 z20 z22 z24 z26) [(.ref b27)]) (fun t k => st27 t k) ?_
  refine GoW.sg (mkF m 132 (Sh16 q1 q2 q3 q4 z3 z4 z5 z6 z7 z8 z9 z10 z12 z14 z16 z18 z20 z22 z24 z26) [(.ref b27), (.ref b27)]) (fun t k => XS.dup X27.here hx rfl (hb hby at_131) rfl rfl k) ?_
  refine GoW.sg (mkF m 134 (Sh16 q1 q2 q3 q4 z3 z4 z5 z6 z7 z8 z9 z10 z12 z14 z16 z18 z20 z22 z24 z26) [(.int z12), (.ref b27), (.ref b27)]) (fun t k => XS.iload X27.here hx rfl (hb hby at_132) rfl k) ?_
  obtain ⟨d28, hd28⟩ : ∃ d : UInt64, d = FP.l2d z12.toInt64 := ⟨_, rfl⟩
  refine GoW.sg (mkF m 135 (Sh16 q1 q2 q3 q4 z3 z4 z5 z6 z7 z8 z9 z10 z12 z14 z16 z18 z20 z22 z24 z26) [(.double d28), (.ref b27), (.ref b27)]) (fun t k => XS.i2dS X27.here hx rfl (hb hby at_134) rfl (v := d28) ((i2d_w _).trans hd28.symm) k) ?_
  refine GoW.sg (mkF m 137 (Sh16 q1 q2 q3 q4 z3 z4 z5 z6 z7 z8 z9 z10 z12 z14 z16 z18 z20 z22 z24 z26) [(.int z16), (.double d28), (.ref b27), (.ref b27)]) (fun t k => XS.iload X27.here hx rfl (hb hby at_135) rfl k) ?_
  obtain ⟨d29, hd29⟩ : ∃ d : UInt64, d = FP.l2d z16.toInt64 := ⟨_, rfl⟩
  refine GoW.sg (mkF m 138 (Sh16 q1 q2 q3 q4 z3 z4 z5 z6 z7 z8 z9 z10 z12 z14 z16 z18 z20 z22 z24 z26) [(.double d29), (.double d28), (.ref b27), (.ref b27)]) (fun t k => XS.i2dS X27.here hx rfl (hb hby at_137) rfl (v := d29) ((i2d_w _).trans hd29.symm) k) ?_
  refine GoW.sg (mkF m 140 (Sh16 q1 q2 q3 q4 z3 z4 z5 z6 z7 z8 z9 z10 z12 z14 z16 z18 z20 z22 z24 z26) [(.int z14), (.double d29), (.double d28), (.ref b27), (.ref b27)]) (fun t k => XS.iload X27.here hx rfl (hb hby at_138) rfl k) ?_
  obtain ⟨d30, hd30⟩ : ∃ d : UInt64, d = FP.l2d z14.toInt64 := ⟨_, rfl⟩
  refine GoW.sg (mkF m 141 (Sh16 q1 q2 q3 q4 z3 z4 z5 z6 z7 z8 z9 z10 z12 z14 z16 z18 z20 z22 z24 z26) [(.double d30), (.double d29), (.double d28), (.ref b27), (.ref b27)]) (fun t k => XS.i2dS X27.here hx rfl (hb hby at_140) rfl (v := d30) ((i2d_w _).trans hd30.symm) k) ?_
  refine GoW.sg (mkF m 143 (Sh16 q1 q2 q3 q4 z3 z4 z5 z6 z7 z8 z9 z10 z12 z14 z16 z18 z20 z22 z24 z26) [(.int z18), (.double d30), (.double d29), (.double d28), (.ref b27), (.ref b27)]) (fun t k => XS.iload X27.here hx rfl (hb hby at_141) rfl k) ?_
  obtain ⟨d31, hd31⟩ : ∃ d : UInt64, d = FP.l2d z18.toInt64 := ⟨_, rfl⟩
  refine GoW.sg (mkF m 144 (Sh16 q1 q2 q3 q4 z3 z4 z5 z6 z7 z8 z9 z10 z12 z14 z16 z18 z20 z22 z24 z26) [(.double d31), (.double d30), (.double d29), (.double d28), (.ref b27), (.ref b27)]) (fun t k => XS.i2dS X27.here hx rfl (hb hby at_143) rfl (v := d31) ((i2d_w _).trans hd31.symm) k) ?_
  obtain ⟨_, _, ⟨T44, L44, k44, n44⟩, -, X44, ⟨Lc44, hQ44, l44, y44, z44⟩, st44⟩ := X27.specialBack hx (y := (⟨"com/example/saunter/saunter/geo/Bounds", "<init>", "(DDDD)V"⟩ : MethodName)) rfl hown (mvT hZ (ww hw 10 rfl)) (mvT hZ (ww hw 11 rfl)) (mvT hZ (ww hw 12 rfl)) (by decide) (backOf (W := 1) (rm3_2 l Z a0 hw [] b27 d28 d29 d30 d31 z12 z16 z14 z18 h27 n0  A27 Fld_b27_south_27 Fld_b27_west_27 Fld_b27_north_27 Fld_b27_east_27 g_b27   hd28 hd29 hd30 hd31) hZ (ww hw 12 rfl) (ww hw 9 rfl) (by decide) (by decide)) (g := (mkF m 144 (Sh16 q1 q2 q3 q4 z3 z4 z5 z6 z7 z8 z9 z10 z12 z14 z16 z18 z20 z22 z24 z26) [(.double d31), (.double d30), (.double d29), (.double d28), (.ref b27), (.ref b27)])) rfl (by rw [hml]; rfl) (Steps.refl _) (a := b27) (argsL := [(.double d28), (.double d29), (.double d30), (.double d31)]) (rest := [(.ref b27)]) (lenOf pd_28DDDD29V rfl) rfl (by show 2 * 0 + _ ≤ _; exact Nat.le_of_eq rfl) (hb hby at_144) (fun _ _ => ⟨rfl, e27, (by decide : 1 + 0 ≤ _), (by decide : 4 + 0 ≤ _)⟩)
  dsimp only [Pt.U, Pt.locs, Pt.cells, Pt.slots] at X44 l44 y44 z44 st44 hQ44
  subst l44 y44 z44
  obtain ⟨rfl, N44q, K44, p44_0, p44_1, p44_2, p44_3, p44_4⟩ := hQ44
  have N44 := Fr.app N25 N44q
  have Zs_44 : n0 ≤ T44.heap.size := Nat.le_trans Zs_27 K44.1
  refine GoW.sg (mkF m 147 (Sh16 q1 q2 q3 q4 z3 z4 z5 z6 z7 z8 z9 z10 z12 z14 z16 z18 z20 z22 z24 z26) [(.ref b27)]) (fun t k => st44.trans k) ?_
  refine GoW.sg (mkF m 149 (Sh18 q1 q2 q3 q4 z3 z4 z5 z6 z7 z8 z9 z10 z12 z14 z16 z18 z20 z22 z24 z26 b27) []) (fun t k => XS.astore X44.here hx rfl (hb hby at_147) rfl rfl (l' := (Sh18 q1 q2 q3 q4 z3 z4 z5 z6 z7 z8 z9 z10 z12 z14 z16 z18 z20 z22 z24 z26 b27)) rfl k) ?_
  obtain ⟨T45, h45, X45, e45, E45, A45, D45, -, st45⟩ := newO X44 hx hZ hown (ww hw 7 rfl) (ww hw 8 rfl) (ww hw 9 rfl) rfl (g := (mkF m 149 (Sh18 q1 q2 q3 q4 z3 z4 z5 z6 z7 z8 z9 z10 z12 z14 z16 z18 z20 z22 z24 z26 b27) [])) rfl (hb hby at_149) (by decide) (by decide)
  obtain ⟨b45, g45⟩ : ∃ z, z = T44.heap.size := ⟨_, rfl⟩
  rw [← g45] at A45 D45 st45
  have g_b45 : n0 ≤ b45 := Nat.le_trans Zs_44 (Nat.le_of_eq g45.symm)
  have ne_b27_b45 : b27 ≠ b45 := Nat.ne_of_lt (Nat.lt_of_lt_of_eq p44_0.lt g45.symm)
  have Zs_45 : n0 ≤ h45.size := Nat.le_trans Zs_44 E45.1
  have Exa_b27_45 : Exa Z h45 b27 "com/example/saunter/saunter/geo/Bounds" := p44_0.ext E45
  have Fld_b27_south_45 : Fld Z h45 b27 "com/example/saunter/saunter/geo/Bounds" "south" "D" (.double d28) := p44_1.ext E45
  have Fld_b27_west_45 : Fld Z h45 b27 "com/example/saunter/saunter/geo/Bounds" "west" "D" (.double d29) := p44_2.ext E45
  have Fld_b27_north_45 : Fld Z h45 b27 "com/example/saunter/saunter/geo/Bounds" "north" "D" (.double d30) := p44_3.ext E45
  have Fld_b27_east_45 : Fld Z h45 b27 "com/example/saunter/saunter/geo/Bounds" "east" "D" (.double d31) := p44_4.ext E45
  have Fld_b45_south_45 : Fld Z h45 b45 "com/example/saunter/saunter/geo/Bounds" "south" "D" (.double (0 : UInt64)) := D45 (Or.inr (ww hw 22 rfl)) (ty := .double) (by decide)
  have Fld_b45_west_45 : Fld Z h45 b45 "com/example/saunter/saunter/geo/Bounds" "west" "D" (.double (0 : UInt64)) := D45 (Or.inr (ww hw 24 rfl)) (ty := .double) (by decide)
  have Fld_b45_north_45 : Fld Z h45 b45 "com/example/saunter/saunter/geo/Bounds" "north" "D" (.double (0 : UInt64)) := D45 (Or.inr (ww hw 26 rfl)) (ty := .double) (by decide)
  have Fld_b45_east_45 : Fld Z h45 b45 "com/example/saunter/saunter/geo/Bounds" "east" "D" (.double (0 : UInt64)) := D45 (Or.inr (ww hw 28 rfl)) (ty := .double) (by decide)
  refine GoW.sg (mkF m 152 (Sh18 q1 q2 q3 q4 z3 z4 z5 z6 z7 z8 z9 z10 z12 z14 z16 z18 z20 z22 z24 z26 b27) [(.ref b45)]) (fun t k => st45 t k) ?_
  refine GoW.sg (mkF m 153 (Sh18 q1 q2 q3 q4 z3 z4 z5 z6 z7 z8 z9 z10 z12 z14 z16 z18 z20 z22 z24 z26 b27) [(.ref b45), (.ref b45)]) (fun t k => XS.dup X45.here hx rfl (hb hby at_152) rfl rfl k) ?_
  refine GoW.sg (mkF m 155 (Sh18 q1 q2 q3 q4 z3 z4 z5 z6 z7 z8 z9 z10 z12 z14 z16 z18 z20 z22 z24 z26 b27) [(.int z20), (.ref b45), (.ref b45)]) (fun t k => XS.iload X45.here hx rfl (hb hby at_153) rfl k) ?_
  obtain ⟨d46, hd46⟩ : ∃ d : UInt64, d = FP.l2d z20.toInt64 := ⟨_, rfl⟩
  refine GoW.sg (mkF m 156 (Sh18 q1 q2 q3 q4 z3 z4 z5 z6 z7 z8 z9 z10 z12 z14 z16 z18 z20 z22 z24 z26 b27) [(.double d46), (.ref b45), (.ref b45)]) (fun t k => XS.i2dS X45.here hx rfl (hb hby at_155) rfl (v := d46) ((i2d_w _).trans hd46.symm) k) ?_
  refine GoW.sg (mkF m 158 (Sh18 q1 q2 q3 q4 z3 z4 z5 z6 z7 z8 z9 z10 z12 z14 z16 z18 z20 z22 z24 z26 b27) [(.int z24), (.double d46), (.ref b45), (.ref b45)]) (fun t k => XS.iload X45.here hx rfl (hb hby at_156) rfl k) ?_
  obtain ⟨d47, hd47⟩ : ∃ d : UInt64, d = FP.l2d z24.toInt64 := ⟨_, rfl⟩
  refine GoW.sg (mkF m 159 (Sh18 q1 q2 q3 q4 z3 z4 z5 z6 z7 z8 z9 z10 z12 z14 z16 z18 z20 z22 z24 z26 b27) [(.double d47), (.double d46), (.ref b45), (.ref b45)]) (fun t k => XS.i2dS X45.here hx rfl (hb hby at_158) rfl (v := d47) ((i2d_w _).trans hd47.symm) k) ?_
  refine GoW.sg (mkF m 161 (Sh18 q1 q2 q3 q4 z3 z4 z5 z6 z7 z8 z9 z10 z12 z14 z16 z18 z20 z22 z24 z26 b27) [(.int z22), (.double d47), (.double d46), (.ref b45), (.ref b45)]) (fun t k => XS.iload X45.here hx rfl (hb hby at_159) rfl k) ?_
  obtain ⟨d48, hd48⟩ : ∃ d : UInt64, d = FP.l2d z22.toInt64 := ⟨_, rfl⟩
  refine GoW.sg (mkF m 162 (Sh18 q1 q2 q3 q4 z3 z4 z5 z6 z7 z8 z9 z10 z12 z14 z16 z18 z20 z22 z24 z26 b27) [(.double d48), (.double d47), (.double d46), (.ref b45), (.ref b45)]) (fun t k => XS.i2dS X45.here hx rfl (hb hby at_161) rfl (v := d48) ((i2d_w _).trans hd48.symm) k) ?_
  refine GoW.sg (mkF m 164 (Sh18 q1 q2 q3 q4 z3 z4 z5 z6 z7 z8 z9 z10 z12 z14 z16 z18 z20 z22 z24 z26 b27) [(.int z26), (.double d48), (.double d47), (.double d46), (.ref b45), (.ref b45)]) (fun t k => XS.iload X45.here hx rfl (hb hby at_162) rfl k) ?_
  obtain ⟨d49, hd49⟩ : ∃ d : UInt64, d = FP.l2d z26.toInt64 := ⟨_, rfl⟩
  refine GoW.sg (mkF m 165 (Sh18 q1 q2 q3 q4 z3 z4 z5 z6 z7 z8 z9 z10 z12 z14 z16 z18 z20 z22 z24 z26 b27) [(.double d49), (.double d48), (.double d47), (.double d46), (.ref b45), (.ref b45)]) (fun t k => XS.i2dS X45.here hx rfl (hb hby at_164) rfl (v := d49) ((i2d_w _).trans hd49.symm) k) ?_
  obtain ⟨_, _, ⟨T50, L50, k50, n50⟩, -, X50, ⟨Lc50, hQ50, l50, y50, z50⟩, st50⟩ := X45.specialBack hx (y := (⟨"com/example/saunter/saunter/geo/Bounds", "<init>", "(DDDD)V"⟩ : MethodName)) rfl hown (mvT hZ (ww hw 10 rfl)) (mvT hZ (ww hw 11 rfl)) (mvT hZ (ww hw 12 rfl)) (by decide) (backOf (W := 1) (rm3_2 l Z a0 hw [] b45 d46 d47 d48 d49 z20 z24 z22 z26 h45 n0  A45 Fld_b45_south_45 Fld_b45_west_45 Fld_b45_north_45 Fld_b45_east_45 g_b45   hd46 hd47 hd48 hd49) hZ (ww hw 12 rfl) (ww hw 9 rfl) (by decide) (by decide)) (g := (mkF m 165 (Sh18 q1 q2 q3 q4 z3 z4 z5 z6 z7 z8 z9 z10 z12 z14 z16 z18 z20 z22 z24 z26 b27) [(.double d49), (.double d48), (.double d47), (.double d46), (.ref b45), (.ref b45)])) rfl (by rw [hml]; rfl) (Steps.refl _) (a := b45) (argsL := [(.double d46), (.double d47), (.double d48), (.double d49)]) (rest := [(.ref b45)]) (lenOf pd_28DDDD29V rfl) rfl (by show 2 * 0 + _ ≤ _; exact Nat.le_of_eq rfl) (hb hby at_165) (fun _ _ => ⟨rfl, e45, (by decide : 2 + 0 ≤ _), (by decide : 8 + 0 ≤ _)⟩)
  dsimp only [Pt.U, Pt.locs, Pt.cells, Pt.slots] at X50 l50 y50 z50 st50 hQ50
  subst l50 y50 z50
  obtain ⟨rfl, N50q, K50, p50_0, p50_1, p50_2, p50_3, p50_4⟩ := hQ50
  have N50 := Fr.app N44 N50q
  have Zs_50 : n0 ≤ T50.heap.size := Nat.le_trans Zs_45 K50.1
  have Exa_b27_50 : Exa Z T50.heap b27 "com/example/saunter/saunter/geo/Bounds" := Exa_b27_45.keep K50
  have Fld_b27_south_50 : Fld Z T50.heap b27 "com/example/saunter/saunter/geo/Bounds" "south" "D" (.double d28) := Fld_b27_south_45.keep K50 (ninS ne_b27_b45 nin0)
  have Fld_b27_west_50 : Fld Z T50.heap b27 "com/example/saunter/saunter/geo/Bounds" "west" "D" (.double d29) := Fld_b27_west_45.keep K50 (ninS ne_b27_b45 nin0)
  have Fld_b27_north_50 : Fld Z T50.heap b27 "com/example/saunter/saunter/geo/Bounds" "north" "D" (.double d30) := Fld_b27_north_45.keep K50 (ninS ne_b27_b45 nin0)
  have Fld_b27_east_50 : Fld Z T50.heap b27 "com/example/saunter/saunter/geo/Bounds" "east" "D" (.double d31) := Fld_b27_east_45.keep K50 (ninS ne_b27_b45 nin0)
  refine GoW.sg (mkF m 168 (Sh18 q1 q2 q3 q4 z3 z4 z5 z6 z7 z8 z9 z10 z12 z14 z16 z18 z20 z22 z24 z26 b27) [(.ref b45)]) (fun t k => st50.trans k) ?_
  refine GoW.sg (mkF m 170 (Sh19 q1 q2 q3 q4 z3 z4 z5 z6 z7 z8 z9 z10 z12 z14 z16 z18 z20 z22 z24 z26 b27 b45) []) (fun t k => XS.astore X50.here hx rfl (hb hby at_168) rfl rfl (l' := (Sh19 q1 q2 q3 q4 z3 z4 z5 z6 z7 z8 z9 z10 z12 z14 z16 z18 z20 z22 z24 z26 b27 b45)) rfl k) ?_
  refine GoW.sg (mkF m 172 (Sh19 q1 q2 q3 q4 z3 z4 z5 z6 z7 z8 z9 z10 z12 z14 z16 z18 z20 z22 z24 z26 b27 b45) [(.int z12)]) (fun t k => XS.iload X50.here hx rfl (hb hby at_170) rfl k) ?_
  refine GoW.sg (mkF m 174 (Sh19 q1 q2 q3 q4 z3 z4 z5 z6 z7 z8 z9 z10 z12 z14 z16 z18 z20 z22 z24 z26 b27 b45) [(.int z20), (.int z12)]) (fun t k => XS.iload X50.here hx rfl (hb hby at_172) rfl k) ?_
  obtain ⟨_, _, ⟨T51, L51, k51, n51⟩, -, X51, ⟨Lc51, hQ51, l51, y51, z51⟩, st51⟩ := Jvm.LawKit.callS X50 hx (y := (⟨"java/lang/Math", "max", "(II)I"⟩ : MethodName)) hown (mvT hZ (ww hw 4 rfl)) (mvT hZ (ww hw 5 rfl)) (mvT hZ (ww hw 2 rfl)) (mvT hZ (ww hw 6 rfl)) (by decide) (backOf (W := 0) (rm2 l Z a0 hw [] z12 z20 T50.heap n0) hZ (ww hw 6 rfl) (ww hw 2 rfl) (by decide) (by decide)) (g := (mkF m 174 (Sh19 q1 q2 q3 q4 z3 z4 z5 z6 z7 z8 z9 z10 z12 z14 z16 z18 z20 z22 z24 z26 b27 b45) [(.int z20), (.int z12)])) rfl (by rw [hml]; rfl) (argsL := [(.int z12), (.int z20)]) (rest := []) (lenOf pd_28II29I rfl) rfl (by show 2 * 0 + _ ≤ _; exact Nat.le_of_eq rfl) (hb hby at_174) (fun _ _ => ⟨rfl, rfl, (by decide : 2 + 0 ≤ _), (by decide : 8 + 0 ≤ _)⟩)
  dsimp only [Pt.U, Pt.locs, Pt.cells, Pt.slots] at X51 l51 y51 z51 st51 hQ51
  subst l51 y51 z51
  obtain ⟨rfl, N51q, e51⟩ := hQ51
  have N51 := Fr.app N50 N51q
  refine GoW.sg (mkF m 177 (Sh19 q1 q2 q3 q4 z3 z4 z5 z6 z7 z8 z9 z10 z12 z14 z16 z18 z20 z22 z24 z26 b27 b45) [(.int (F2 z12 z20))]) (fun t k => st51 t k) ?_
  refine GoW.sg (mkF m 179 (Sh19 q1 q2 q3 q4 z3 z4 z5 z6 z7 z8 z9 z10 z12 z14 z16 z18 z20 z22 z24 z26 b27 b45) [(.int z14), (.int (F2 z12 z20))]) (fun t k => XS.iload X51.here hx rfl (hb hby at_177) rfl k) ?_
  refine GoW.sg (mkF m 181 (Sh19 q1 q2 q3 q4 z3 z4 z5 z6 z7 z8 z9 z10 z12 z14 z16 z18 z20 z22 z24 z26 b27 b45) [(.int z22), (.int z14), (.int (F2 z12 z20))]) (fun t k => XS.iload X51.here hx rfl (hb hby at_179) rfl k) ?_
  obtain ⟨_, _, ⟨T52, L52, k52, n52⟩, -, X52, ⟨Lc52, hQ52, l52, y52, z52⟩, st52⟩ := Jvm.LawKit.callS X51 hx (y := (⟨"java/lang/Math", "min", "(II)I"⟩ : MethodName)) hown (mvT hZ (ww hw 0 rfl)) (mvT hZ (ww hw 1 rfl)) (mvT hZ (ww hw 2 rfl)) (mvT hZ (ww hw 3 rfl)) (by decide) (backOf (W := 1) (rm1 l Z a0 hw [] z14 z22 T50.heap n0) hZ (ww hw 3 rfl) (ww hw 2 rfl) (by decide) (by decide)) (g := (mkF m 181 (Sh19 q1 q2 q3 q4 z3 z4 z5 z6 z7 z8 z9 z10 z12 z14 z16 z18 z20 z22 z24 z26 b27 b45) [(.int z22), (.int z14), (.int (F2 z12 z20))])) rfl (by rw [hml]; rfl) (argsL := [(.int z14), (.int z22)]) (rest := [(.int (F2 z12 z20))]) (lenOf pd_28II29I rfl) rfl (by show 2 * 0 + _ ≤ _; exact Nat.le_of_eq rfl) (hb hby at_181) (fun _ _ => ⟨rfl, e51, (by decide : 2 + 0 ≤ _), (by decide : 8 + 0 ≤ _)⟩)
  dsimp only [Pt.U, Pt.locs, Pt.cells, Pt.slots] at X52 l52 y52 z52 st52 hQ52
  subst l52 y52 z52
  obtain ⟨rfl, N52q, e52⟩ := hQ52
  have N52 := Fr.app N51 N52q
  refine GoW.sg (mkF m 184 (Sh19 q1 q2 q3 q4 z3 z4 z5 z6 z7 z8 z9 z10 z12 z14 z16 z18 z20 z22 z24 z26 b27 b45) [(.int (F1 z14 z22)), (.int (F2 z12 z20))]) (fun t k => st52 t k) ?_
  have J192_55 : ∀ b54 : Int32, b54 = (if (F1 z14 z22) < (F2 z12 z20) then (0 : Int32) else (1 : Int32)) → GoW p e below s (ValQ (.int (F0 q1 q2 q3 q4)) n0) room_1.cells room_1.slots (T52.setTop (mkF m 192 (Sh19 q1 q2 q3 q4 z3 z4 z5 z6 z7 z8 z9 z10 z12 z14 z16 z18 z20 z22 z24 z26 b27 b45) [(.int b54)])) := by
    intro b54 hb54
    have hFb54 : (F0_16 q1 q2 q3 q4 z3 z4 z5 z6 z7 z8 z9 z10 z12 z14 z16 z18 z20 z22 z24 z26) = (F0_17 q1 q2 q3 q4 z3 z4 z5 z6 z7 z8 z9 z10 z12 z14 z16 z18 z20 z22 z24 z26 b54) := by unfold F0_16; rw [hb54]
    refine GoW.sg (mkF m 194 (Sh20 q1 q2 q3 q4 z3 z4 z5 z6 z7 z8 z9 z10 z12 z14 z16 z18 z20 z22 z24 z26 b27 b45 b54) []) (fun t k => XS.istore X52.here hx rfl (hb hby at_192) rfl (l' := (Sh20 q1 q2 q3 q4 z3 z4 z5 z6 z7 z8 z9 z10 z12 z14 z16 z18 z20 z22 z24 z26 b27 b45 b54)) rfl k) ?_
    refine GoW.sg (mkF m 196 (Sh20 q1 q2 q3 q4 z3 z4 z5 z6 z7 z8 z9 z10 z12 z14 z16 z18 z20 z22 z24 z26 b27 b45 b54) [(.int z16)]) (fun t k => XS.iload X52.here hx rfl (hb hby at_194) rfl k) ?_
    refine GoW.sg (mkF m 198 (Sh20 q1 q2 q3 q4 z3 z4 z5 z6 z7 z8 z9 z10 z12 z14 z16 z18 z20 z22 z24 z26 b27 b45 b54) [(.int z24), (.int z16)]) (fun t k => XS.iload X52.here hx rfl (hb hby at_196) rfl k) ?_
    obtain ⟨_, _, ⟨T57, L57, k57, n57⟩, -, X57, ⟨Lc57, hQ57, l57, y57, z57⟩, st57⟩ := Jvm.LawKit.callS X52 hx (y := (⟨"java/lang/Math", "max", "(II)I"⟩ : MethodName)) hown (mvT hZ (ww hw 4 rfl)) (mvT hZ (ww hw 5 rfl)) (mvT hZ (ww hw 2 rfl)) (mvT hZ (ww hw 6 rfl)) (by decide) (backOf (W := 0) (rm2 l Z a0 hw [] z16 z24 T50.heap n0) hZ (ww hw 6 rfl) (ww hw 2 rfl) (by decide) (by decide)) (g := (mkF m 198 (Sh20 q1 q2 q3 q4 z3 z4 z5 z6 z7 z8 z9 z10 z12 z14 z16 z18 z20 z22 z24 z26 b27 b45 b54) [(.int z24), (.int z16)])) rfl (by rw [hml]; rfl) (argsL := [(.int z16), (.int z24)]) (rest := []) (lenOf pd_28II29I rfl) rfl (by show 2 * 0 + _ ≤ _; exact Nat.le_of_eq rfl) (hb hby at_198) (fun _ _ => ⟨rfl, e52, (by decide : 2 + 0 ≤ _), (by decide : 8 + 0 ≤ _)⟩)
    dsimp only [Pt.U, Pt.locs, Pt.cells, Pt.slots] at X57 l57 y57 z57 st57 hQ57
    subst l57 y57 z57
    obtain ⟨rfl, N57q, e57⟩ := hQ57
    have N57 := Fr.app N52 N57q
    refine GoW.sg (mkF m 201 (Sh20 q1 q2 q3 q4 z3 z4 z5 z6 z7 z8 z9 z10 z12 z14 z16 z18 z20 z22 z24 z26 b27 b45 b54) [(.int (F2 z16 z24))]) (fun t k => st57 t k) ?_
    refine GoW.sg (mkF m 203 (Sh20 q1 q2 q3 q4 z3 z4 z5 z6 z7 z8 z9 z10 z12 z14 z16 z18 z20 z22 z24 z26 b27 b45 b54) [(.int z18), (.int (F2 z16 z24))]) (fun t k => XS.iload X57.here hx rfl (hb hby at_201) rfl k) ?_
    refine GoW.sg (mkF m 205 (Sh20 q1 q2 q3 q4 z3 z4 z5 z6 z7 z8 z9 z10 z12 z14 z16 z18 z20 z22 z24 z26 b27 b45 b54) [(.int z26), (.int z18), (.int (F2 z16 z24))]) (fun t k => XS.iload X57.here hx rfl (hb hby at_203) rfl k) ?_
    obtain ⟨_, _, ⟨T58, L58, k58, n58⟩, -, X58, ⟨Lc58, hQ58, l58, y58, z58⟩, st58⟩ := Jvm.LawKit.callS X57 hx (y := (⟨"java/lang/Math", "min", "(II)I"⟩ : MethodName)) hown (mvT hZ (ww hw 0 rfl)) (mvT hZ (ww hw 1 rfl)) (mvT hZ (ww hw 2 rfl)) (mvT hZ (ww hw 3 rfl)) (by decide) (backOf (W := 1) (rm1 l Z a0 hw [] z18 z26 T50.heap n0) hZ (ww hw 3 rfl) (ww hw 2 rfl) (by decide) (by decide)) (g := (mkF m 205 (Sh20 q1 q2 q3 q4 z3 z4 z5 z6 z7 z8 z9 z10 z12 z14 z16 z18 z20 z22 z24 z26 b27 b45 b54) [(.int z26), (.int z18), (.int (F2 z16 z24))])) rfl (by rw [hml]; rfl) (argsL := [(.int z18), (.int z26)]) (rest := [(.int (F2 z16 z24))]) (lenOf pd_28II29I rfl) rfl (by show 2 * 0 + _ ≤ _; exact Nat.le_of_eq rfl) (hb hby at_205) (fun _ _ => ⟨rfl, e57, (by decide : 2 + 0 ≤ _), (by decide : 8 + 0 ≤ _)⟩)
    dsimp only [Pt.U, Pt.locs, Pt.cells, Pt.slots] at X58 l58 y58 z58 st58 hQ58
    subst l58 y58 z58
    obtain ⟨rfl, N58q, e58⟩ := hQ58
    have N58 := Fr.app N57 N58q
    refine GoW.sg (mkF m 208 (Sh20 q1 q2 q3 q4 z3 z4 z5 z6 z7 z8 z9 z10 z12 z14 z16 z18 z20 z22 z24 z26 b27 b45 b54) [(.int (F1 z18 z26)), (.int (F2 z16 z24))]) (fun t k => st58 t k) ?_
    have J216_61 : ∀ b60 : Int32, b60 = (if (F1 z18 z26) < (F2 z16 z24) then (0 : Int32) else (1 : Int32)) → GoW p e below s (ValQ (.int (F0 q1 q2 q3 q4)) n0) room_1.cells room_1.slots (T58.setTop (mkF m 216 (Sh20 q1 q2 q3 q4 z3 z4 z5 z6 z7 z8 z9 z10 z12 z14 z16 z18 z20 z22 z24 z26 b27 b45 b54) [(.int b60)])) := by
      intro b60 hb60
      have hFb60 : (F0_17 q1 q2 q3 q4 z3 z4 z5 z6 z7 z8 z9 z10 z12 z14 z16 z18 z20 z22 z24 z26 b54) = (F0_18 q1 q2 q3 q4 z3 z4 z5 z6 z7 z8 z9 z10 z12 z14 z16 z18 z20 z22 z24 z26 b54 b60) := by unfold F0_17; rw [hb60]
      refine GoW.sg (mkF m 218 (Sh21 q1 q2 q3 q4 z3 z4 z5 z6 z7 z8 z9 z10 z12 z14 z16 z18 z20 z22 z24 z26 b27 b45 b54 b60) []) (fun t k => XS.istore X58.here hx rfl (hb hby at_216) rfl (l' := (Sh21 q1 q2 q3 q4 z3 z4 z5 z6 z7 z8 z9 z10 z12 z14 z16 z18 z20 z22 z24 z26 b27 b45 b54 b60)) rfl k) ?_
      refine GoW.sg (mkF m 220 (Sh21 q1 q2 q3 q4 z3 z4 z5 z6 z7 z8 z9 z10 z12 z14 z16 z18 z20 z22 z24 z26 b27 b45 b54 b60) [(.int b54)]) (fun t k => XS.iload X58.here hx rfl (hb hby at_218) rfl k) ?_
      have J233_66 : ∀ b65 : Int32, b65 = (if b54 = (0 : Int32) then (0 : Int32) else (if b60 = (0 : Int32) then (0 : Int32) else (1 : Int32))) → GoW p e below s (ValQ (.int (F0 q1 q2 q3 q4)) n0) room_1.cells room_1.slots (T58.setTop (mkF m 233 (Sh21 q1 q2 q3 q4 z3 z4 z5 z6 z7 z8 z9 z10 z12 z14 z16 z18 z20 z22 z24 z26 b27 b45 b54 b60) [(.int b65)])) := by
        intro b65 hb65
        have hFb65 : (F0_18 q1 q2 q3 q4 z3 z4 z5 z6 z7 z8 z9 z10 z12 z14 z16 z18 z20 z22 z24 z26 b54 b60) = (F0_19 q1 q2 q3 q4 z3 z4 z5 z6 z7 z8 z9 z10 z12 z14 z16 z18 z20 z22 z24 z26 b54 b60 b65) := by unfold F0_18; rw [hb65]
        refine GoW.sg (mkF m 235 (Sh22 q1 q2 q3 q4 z3 z4 z5 z6 z7 z8 z9 z10 z12 z14 z16 z18 z20 z22 z24 z26 b27 b45 b54 b60 b65) []) (fun t k => XS.istore X58.here hx rfl (hb hby at_233) rfl (l' := (Sh22 q1 q2 q3 q4 z3 z4 z5 z6 z7 z8 z9 z10 z12 z14 z16 z18 z20 z22 z24 z26 b27 b45 b54 b60 b65)) rfl k) ?_
        refine GoW.sg (mkF m 237 (Sh22 q1 q2 q3 q4 z3 z4 z5 z6 z7 z8 z9 z10 z12 z14 z16 z18 z20 z22 z24 z26 b27 b45 b54 b60 b65) [(.ref b27)]) (fun t k => XS.aload X58.here hx rfl (hb hby at_235) rfl rfl k) ?_
        refine GoW.sg (mkF m 239 (Sh22 q1 q2 q3 q4 z3 z4 z5 z6 z7 z8 z9 z10 z12 z14 z16 z18 z20 z22 z24 z26 b27 b45 b54 b60 b65) [(.ref b45), (.ref b27)]) (fun t k => XS.aload X58.here hx rfl (hb hby at_237) rfl rfl k) ?_
        obtain ⟨cq93, kq93, q93a, q93b, q93c⟩ := isOf hZ e58 Exa_b27_50
        obtain ⟨_, _, ⟨T93, L93, k93, n93⟩, -, X93, ⟨Lc93, hQ93, l93, y93, z93⟩, st93⟩ := X58.virtualBack hx (y := (⟨"com/example/saunter/saunter/geo/Bounds", "meets", "(Lcom/example/saunter/saunter/geo/Bounds;)Z"⟩ : MethodName)) (z := (⟨"com/example/saunter/saunter/geo/Bounds", "meets", "(Lcom/example/saunter/saunter/geo/Bounds;)Z"⟩ : MethodName)) hown (mvT hZ (ww hw 29 rfl)) (mvT hZ (ww hw 30 rfl)) (notFace_of_selects (args := #[]) (mvT hZ (ww hw 32 rfl))) (mvT hZ (ww hw 32 rfl)) (mvT hZ (ww hw 31 rfl)) (by decide) (backOf (W := 0) (rm6_3 l Z a0 hw [] b27 b45 z12 d28 z16 d29 z14 d30 z18 d31 z20 d46 z24 d47 z22 d48 z26 d49 T50.heap n0  Exa_b27_50 Fld_b27_south_50 Fld_b27_west_50 Fld_b27_north_50 Fld_b27_east_50 p50_0 p50_1 p50_2 p50_3 p50_4  ne_b27_b45  hd28 hd29 hd30 hd31 hd46 hd47 hd48 hd49) hZ (ww hw 33 rfl) (ww hw 9 rfl) (by decide) (by decide)) q93a q93c (g := (mkF m 239 (Sh22 q1 q2 q3 q4 z3 z4 z5 z6 z7 z8 z9 z10 z12 z14 z16 z18 z20 z22 z24 z26 b27 b45 b54 b60 b65) [(.ref b45), (.ref b27)])) rfl (by rw [hml]; rfl) (Steps.refl _) (argsL := [(.ref b45)]) (rest := []) (lenOf pd_28Lcom2fexample2fsaunter2fsaunter2fgeo2fBounds3b29Z rfl) rfl (by show 2 * 0 + _ ≤ _; exact Nat.le_of_eq rfl) (hb hby at_239) (fun _ _ => ⟨rfl, e58, (by decide : 2 + 0 ≤ _), (by decide : 8 + 0 ≤ _)⟩)
        dsimp only [Pt.U, Pt.locs, Pt.cells, Pt.slots] at X93 l93 y93 z93 st93 hQ93
        subst l93 y93 z93
        obtain ⟨rfl, N93q, e93⟩ := hQ93
        have N93 := Fr.app N58 N93q
        refine GoW.sg (mkF m 242 (Sh22 q1 q2 q3 q4 z3 z4 z5 z6 z7 z8 z9 z10 z12 z14 z16 z18 z20 z22 z24 z26 b27 b45 b54 b60 b65) [(.int (F6_3x z12 z16 z14 z18 z20 z24 z22 z26))]) (fun t k => st93.trans k) ?_
        refine GoW.sg (mkF m 244 (Sh22 q1 q2 q3 q4 z3 z4 z5 z6 z7 z8 z9 z10 z12 z14 z16 z18 z20 z22 z24 z26 b27 b45 b54 b60 b65) [(.int b65), (.int (F6_3x z12 z16 z14 z18 z20 z24 z22 z26))]) (fun t k => XS.iload X93.here hx rfl (hb hby at_242) rfl k) ?_
        by_cases c94 : (F6_3x z12 z16 z14 z18 z20 z24 z22 z26) = b65
        · refine GoW.sg (mkF m 247 (Sh22 q1 q2 q3 q4 z3 z4 z5 z6 z7 z8 z9 z10 z12 z14 z16 z18 z20 z22 z24 z26 b27 b45 b54 b60 b65) []) (fun t k => XS.icmpNo X93.here hx rfl (hb hby at_244) rfl (teq c94).2 k) ?_
          refine GoW.sg (mkF m 249 (Sh22 q1 q2 q3 q4 z3 z4 z5 z6 z7 z8 z9 z10 z12 z14 z16 z18 z20 z22 z24 z26 b27 b45 b54 b60 b65) [(.ref b45)]) (fun t k => XS.aload X93.here hx rfl (hb hby at_247) rfl rfl k) ?_
          refine GoW.sg (mkF m 251 (Sh22 q1 q2 q3 q4 z3 z4 z5 z6 z7 z8 z9 z10 z12 z14 z16 z18 z20 z22 z24 z26 b27 b45 b54 b60 b65) [(.ref b27), (.ref b45)]) (fun t k => XS.aload X93.here hx rfl (hb hby at_249) rfl rfl k) ?_
          obtain ⟨cq119, kq119, q119a, q119b, q119c⟩ := isOf hZ e93 p50_0
          obtain ⟨_, _, ⟨T119, L119, k119, n119⟩, -, X119, ⟨Lc119, hQ119, l119, y119, z119⟩, st119⟩ := X93.virtualBack hx (y := (⟨"com/example/saunter/saunter/geo/Bounds", "meets", "(Lcom/example/saunter/saunter/geo/Bounds;)Z"⟩ : MethodName)) (z := (⟨"com/example/saunter/saunter/geo/Bounds", "meets", "(Lcom/example/saunter/saunter/geo/Bounds;)Z"⟩ : MethodName)) hown (mvT hZ (ww hw 29 rfl)) (mvT hZ (ww hw 30 rfl)) (notFace_of_selects (args := #[]) (mvT hZ (ww hw 32 rfl))) (mvT hZ (ww hw 32 rfl)) (mvT hZ (ww hw 31 rfl)) (by decide) (backOf (W := 0) (rm6_4 l Z a0 hw [] b45 b27 z12 d28 z16 d29 z14 d30 z18 d31 z20 d46 z24 d47 z22 d48 z26 d49 T50.heap n0  Exa_b27_50 Fld_b27_south_50 Fld_b27_west_50 Fld_b27_north_50 Fld_b27_east_50 p50_0 p50_1 p50_2 p50_3 p50_4  ne_b27_b45  hd28 hd29 hd30 hd31 hd46 hd47 hd48 hd49) hZ (ww hw 33 rfl) (ww hw 9 rfl) (by decide) (by decide)) q119a q119c (g := (mkF m 251 (Sh22 q1 q2 q3 q4 z3 z4 z5 z6 z7 z8 z9 z10 z12 z14 z16 z18 z20 z22 z24 z26 b27 b45 b54 b60 b65) [(.ref b27), (.ref b45)])) rfl (by rw [hml]; rfl) (Steps.refl _) (argsL := [(.ref b27)]) (rest := []) (lenOf pd_28Lcom2fexample2fsaunter2fsaunter2fgeo2fBounds3b29Z rfl) rfl (by show 2 * 0 + _ ≤ _; exact Nat.le_of_eq rfl) (hb hby at_251) (fun _ _ => ⟨rfl, e93, (by decide : 2 + 0 ≤ _), (by decide : 8 + 0 ≤ _)⟩)
          dsimp only [Pt.U, Pt.locs, Pt.cells, Pt.slots] at X119 l119 y119 z119 st119 hQ119
          subst l119 y119 z119
          obtain ⟨rfl, N119q, e119⟩ := hQ119
          have N119 := Fr.app N93 N119q
          refine GoW.sg (mkF m 254 (Sh22 q1 q2 q3 q4 z3 z4 z5 z6 z7 z8 z9 z10 z12 z14 z16 z18 z20 z22 z24 z26 b27 b45 b54 b60 b65) [(.int (F6_4x z12 z16 z14 z18 z20 z24 z22 z26))]) (fun t k => st119.trans k) ?_
          refine GoW.sg (mkF m 256 (Sh22 q1 q2 q3 q4 z3 z4 z5 z6 z7 z8 z9 z10 z12 z14 z16 z18 z20 z22 z24 z26 b27 b45 b54 b60 b65) [(.int b65), (.int (F6_4x z12 z16 z14 z18 z20 z24 z22 z26))]) (fun t k => XS.iload X119.here hx rfl (hb hby at_254) rfl k) ?_
          by_cases c120 : (F6_4x z12 z16 z14 z18 z20 z24 z22 z26) = b65
          · refine GoW.sg (mkF m 259 (Sh22 q1 q2 q3 q4 z3 z4 z5 z6 z7 z8 z9 z10 z12 z14 z16 z18 z20 z22 z24 z26 b27 b45 b54 b60 b65) []) (fun t k => XS.icmpNo X119.here hx rfl (hb hby at_256) rfl (teq c120).2 k) ?_
            refine GoW.sg (mkF m 260 (Sh22 q1 q2 q3 q4 z3 z4 z5 z6 z7 z8 z9 z10 z12 z14 z16 z18 z20 z22 z24 z26 b27 b45 b54 b60 b65) [(.int 1)]) (fun t k => XS.iconst X119.here hx rfl (hb hby at_259) k) ?_
            refine GoW.sg (mkF m 264 (Sh22 q1 q2 q3 q4 z3 z4 z5 z6 z7 z8 z9 z10 z12 z14 z16 z18 z20 z22 z24 z26 b27 b45 b54 b60 b65) [(.int 1)]) (fun t k => XS.goto X119.here hx rfl (pc0 := 260) (pc' := 264) rfl (hb hby at_260) (by decide) (by decide) k) ?_
            refine GoW.retN X119 hx (t := .boolean) Bd.returns (by simp) (hb hby at_264) Bd.notSynchronized ?_ (by decide) (by decide)
            have hq : (F0 q1 q2 q3 q4) = (1 : Int32) := by rw [hFz3, hFz4, hFz5, hFz6, hFz7, hFz8, hFz9, hFz10, hFz12, hFz14, hFz16, hFz18, hFz20, hFz22, hFz24, hFz26, hFb54, hFb60, hFb65]; unfold F0_19; rw [if_pos c94, if_pos c120]; try rfl
            exact ⟨by rw [hq] <;> rfl, N119⟩
          · refine GoW.sg (mkF m 263 (Sh22 q1 q2 q3 q4 z3 z4 z5 z6 z7 z8 z9 z10 z12 z14 z16 z18 z20 z22 z24 z26 b27 b45 b54 b60 b65) []) (fun t k => XS.icmpYes X119.here hx rfl (pc0 := 256) (pc' := 263) rfl (hb hby at_256) rfl (feq c120).2 (by decide) (by decide) k) ?_
            refine GoW.sg (mkF m 264 (Sh22 q1 q2 q3 q4 z3 z4 z5 z6 z7 z8 z9 z10 z12 z14 z16 z18 z20 z22 z24 z26 b27 b45 b54 b60 b65) [(.int 0)]) (fun t k => XS.iconst X119.here hx rfl (hb hby at_263) k) ?_
            refine GoW.retN X119 hx (t := .boolean) Bd.returns (by simp) (hb hby at_264) Bd.notSynchronized ?_ (by decide) (by decide)
            have hq : (F0 q1 q2 q3 q4) = (0 : Int32) := by rw [hFz3, hFz4, hFz5, hFz6, hFz7, hFz8, hFz9, hFz10, hFz12, hFz14, hFz16, hFz18, hFz20, hFz22, hFz24, hFz26, hFb54, hFb60, hFb65]; unfold F0_19; rw [if_pos c94, if_neg c120]; try rfl
            exact ⟨by rw [hq] <;> rfl, N119⟩
        · refine GoW.sg (mkF m 263 (Sh22 q1 q2 q3 q4 z3 z4 z5 z6 z7 z8 z9 z10 z12 z14 z16 z18 z20 z22 z24 z26 b27 b45 b54 b60 b65) []) (fun t k => XS.icmpYes X93.here hx rfl (pc0 := 244) (pc' := 263) rfl (hb hby at_244) rfl (feq c94).2 (by decide) (by decide) k) ?_
          refine GoW.sg (mkF m 264 (Sh22 q1 q2 q3 q4 z3 z4 z5 z6 z7 z8 z9 z10 z12 z14 z16 z18 z20 z22 z24 z26 b27 b45 b54 b60 b65) [(.int 0)]) (fun t k => XS.iconst X93.here hx rfl (hb hby at_263) k) ?_
          refine GoW.retN X93 hx (t := .boolean) Bd.returns (by simp) (hb hby at_264) Bd.notSynchronized ?_ (by decide) (by decide)
          have hq : (F0 q1 q2 q3 q4) = (0 : Int32) := by rw [hFz3, hFz4, hFz5, hFz6, hFz7, hFz8, hFz9, hFz10, hFz12, hFz14, hFz16, hFz18, hFz20, hFz22, hFz24, hFz26, hFb54, hFb60, hFb65]; unfold F0_19; rw [if_neg c94]; try rfl
          exact ⟨by rw [hq] <;> rfl, N93⟩
      by_cases c67 : b54 = (0 : Int32)
      · refine GoW.sg (mkF m 232 (Sh21 q1 q2 q3 q4 z3 z4 z5 z6 z7 z8 z9 z10 z12 z14 z16 z18 z20 z22 z24 z26 b27 b45 b54 b60) []) (fun t k => XS.ifYes X58.here hx rfl (pc0 := 220) (pc' := 232) rfl (hb hby at_220) rfl ((if0 _ _).trans (teq c67).1) (by decide) (by decide) k) ?_
        refine GoW.sg (mkF m 233 (Sh21 q1 q2 q3 q4 z3 z4 z5 z6 z7 z8 z9 z10 z12 z14 z16 z18 z20 z22 z24 z26 b27 b45 b54 b60) [(.int 0)]) (fun t k => XS.iconst X58.here hx rfl (hb hby at_232) k) ?_
        exact J233_66 _ (by rw [if_pos c67])
      · refine GoW.sg (mkF m 223 (Sh21 q1 q2 q3 q4 z3 z4 z5 z6 z7 z8 z9 z10 z12 z14 z16 z18 z20 z22 z24 z26 b27 b45 b54 b60) []) (fun t k => XS.ifNo X58.here hx rfl (hb hby at_220) rfl ((if0 _ _).trans (feq c67).1) k) ?_
        refine GoW.sg (mkF m 225 (Sh21 q1 q2 q3 q4 z3 z4 z5 z6 z7 z8 z9 z10 z12 z14 z16 z18 z20 z22 z24 z26 b27 b45 b54 b60) [(.int b60)]) (fun t k => XS.iload X58.here hx rfl (hb hby at_223) rfl k) ?_
        by_cases c68 : b60 = (0 : Int32)
        · refine GoW.sg (mkF m 232 (Sh21 q1 q2 q3 q4 z3 z4 z5 z6 z7 z8 z9 z10 z12 z14 z16 z18 z20 z22 z24 z26 b27 b45 b54 b60) []) (fun t k => XS.ifYes X58.here hx rfl (pc0 := 225) (pc' := 232) rfl (hb hby at_225) rfl ((if0 _ _).trans (teq c68).1) (by decide) (by decide) k) ?_
          refine GoW.sg (mkF m 233 (Sh21 q1 q2 q3 q4 z3 z4 z5 z6 z7 z8 z9 z10 z12 z14 z16 z18 z20 z22 z24 z26 b27 b45 b54 b60) [(.int 0)]) (fun t k => XS.iconst X58.here hx rfl (hb hby at_232) k) ?_
          exact J233_66 _ (by rw [if_neg c67, if_pos c68])
        · refine GoW.sg (mkF m 228 (Sh21 q1 q2 q3 q4 z3 z4 z5 z6 z7 z8 z9 z10 z12 z14 z16 z18 z20 z22 z24 z26 b27 b45 b54 b60) []) (fun t k => XS.ifNo X58.here hx rfl (hb hby at_225) rfl ((if0 _ _).trans (feq c68).1) k) ?_
          refine GoW.sg (mkF m 229 (Sh21 q1 q2 q3 q4 z3 z4 z5 z6 z7 z8 z9 z10 z12 z14 z16 z18 z20 z22 z24 z26 b27 b45 b54 b60) [(.int 1)]) (fun t k => XS.iconst X58.here hx rfl (hb hby at_228) k) ?_
          refine GoW.sg (mkF m 233 (Sh21 q1 q2 q3 q4 z3 z4 z5 z6 z7 z8 z9 z10 z12 z14 z16 z18 z20 z22 z24 z26 b27 b45 b54 b60) [(.int 1)]) (fun t k => XS.goto X58.here hx rfl (pc0 := 229) (pc' := 233) rfl (hb hby at_229) (by decide) (by decide) k) ?_
          exact J233_66 _ (by rw [if_neg c67, if_neg c68])
    by_cases c62 : (F1 z18 z26) < (F2 z16 z24)
    · refine GoW.sg (mkF m 215 (Sh20 q1 q2 q3 q4 z3 z4 z5 z6 z7 z8 z9 z10 z12 z14 z16 z18 z20 z22 z24 z26 b27 b45 b54) []) (fun t k => XS.icmpYes X58.here hx rfl (pc0 := 208) (pc' := 215) rfl (hb hby at_208) rfl (tlt c62).2.2.1 (by decide) (by decide) k) ?_
      refine GoW.sg (mkF m 216 (Sh20 q1 q2 q3 q4 z3 z4 z5 z6 z7 z8 z9 z10 z12 z14 z16 z18 z20 z22 z24 z26 b27 b45 b54) [(.int 0)]) (fun t k => XS.iconst X58.here hx rfl (hb hby at_215) k) ?_
      exact J216_61 _ (by rw [if_pos c62])
    · refine GoW.sg (mkF m 211 (Sh20 q1 q2 q3 q4 z3 z4 z5 z6 z7 z8 z9 z10 z12 z14 z16 z18 z20 z22 z24 z26 b27 b45 b54) []) (fun t k => XS.icmpNo X58.here hx rfl (hb hby at_208) rfl (flt c62).2.2.1 k) ?_
      refine GoW.sg (mkF m 212 (Sh20 q1 q2 q3 q4 z3 z4 z5 z6 z7 z8 z9 z10 z12 z14 z16 z18 z20 z22 z24 z26 b27 b45 b54) [(.int 1)]) (fun t k => XS.iconst X58.here hx rfl (hb hby at_211) k) ?_
      refine GoW.sg (mkF m 216 (Sh20 q1 q2 q3 q4 z3 z4 z5 z6 z7 z8 z9 z10 z12 z14 z16 z18 z20 z22 z24 z26 b27 b45 b54) [(.int 1)]) (fun t k => XS.goto X58.here hx rfl (pc0 := 212) (pc' := 216) rfl (hb hby at_212) (by decide) (by decide) k) ?_
      exact J216_61 _ (by rw [if_neg c62])
  by_cases c56 : (F1 z14 z22) < (F2 z12 z20)
  · refine GoW.sg (mkF m 191 (Sh19 q1 q2 q3 q4 z3 z4 z5 z6 z7 z8 z9 z10 z12 z14 z16 z18 z20 z22 z24 z26 b27 b45) []) (fun t k => XS.icmpYes X52.here hx rfl (pc0 := 184) (pc' := 191) rfl (hb hby at_184) rfl (tlt c56).2.2.1 (by decide) (by decide) k) ?_
    refine GoW.sg (mkF m 192 (Sh19 q1 q2 q3 q4 z3 z4 z5 z6 z7 z8 z9 z10 z12 z14 z16 z18 z20 z22 z24 z26 b27 b45) [(.int 0)]) (fun t k => XS.iconst X52.here hx rfl (hb hby at_191) k) ?_
    exact J192_55 _ (by rw [if_pos c56])
  · refine GoW.sg (mkF m 187 (Sh19 q1 q2 q3 q4 z3 z4 z5 z6 z7 z8 z9 z10 z12 z14 z16 z18 z20 z22 z24 z26 b27 b45) []) (fun t k => XS.icmpNo X52.here hx rfl (hb hby at_184) rfl (flt c56).2.2.1 k) ?_
    refine GoW.sg (mkF m 188 (Sh19 q1 q2 q3 q4 z3 z4 z5 z6 z7 z8 z9 z10 z12 z14 z16 z18 z20 z22 z24 z26 b27 b45) [(.int 1)]) (fun t k => XS.iconst X52.here hx rfl (hb hby at_187) k) ?_
    refine GoW.sg (mkF m 192 (Sh19 q1 q2 q3 q4 z3 z4 z5 z6 z7 z8 z9 z10 z12 z14 z16 z18 z20 z22 z24 z26 b27 b45) [(.int 1)]) (fun t k => XS.goto X52.here hx rfl (pc0 := 188) (pc' := 192) rfl (hb hby at_188) (by decide) (by decide) k) ?_
    exact J192_55 _ (by rw [if_neg c56])
theorem own_lt32 (a b : Int32) : (a.toInt64 < b.toInt64) = (a.toInt < b.toInt) := by rw [Int64.lt_iff_toInt_lt, Int32.toInt_toInt64, Int32.toInt_toInt64]
theorem own_min (a b : Int32) : (F1 a b).toInt ≤ a.toInt ∧ (F1 a b).toInt ≤ b.toInt ∧ ((F1 a b).toInt = a.toInt ∨ (F1 a b).toInt = b.toInt) := by
  unfold F1; split
  · rename_i h; rw [Int32.lt_iff_toInt_lt] at h; omega
  · rename_i h; rw [Int32.lt_iff_toInt_lt] at h; omega
theorem own_max (a b : Int32) : a.toInt ≤ (F2 a b).toInt ∧ b.toInt ≤ (F2 a b).toInt ∧ ((F2 a b).toInt = a.toInt ∨ (F2 a b).toInt = b.toInt) := by
  unfold F2; split
  · rename_i h; rw [Int32.lt_iff_toInt_lt] at h; omega
  · rename_i h; rw [Int32.lt_iff_toInt_lt] at h; omega
theorem own_ov (s n t m : Int32) (h1 : s.toInt ≤ n.toInt) (h2 : t.toInt ≤ m.toInt) : (F1 n m < F2 s t) = (m.toInt < s.toInt ∨ n.toInt < t.toInt) := by
  have a := own_min n m
  have b := own_max s t
  apply propext
  rw [Int32.lt_iff_toInt_lt]
  constructor <;> intro h <;> omega
theorem own_core (q1 q2 q3 q4 y1 y2 y3 y4 y5 y6 y7 y8 s1 n1 w1 e1 s2 n2 w2 e2 : Int32) (h1 : s1.toInt ≤ n1.toInt) (h2 : w1.toInt ≤ e1.toInt) (h3 : s2.toInt ≤ n2.toInt) (h4 : w2.toInt ≤ e2.toInt) :
    F0_16 q1 q2 q3 q4 y1 y2 y3 y4 y5 y6 y7 y8 s1 n1 w1 e1 s2 n2 w2 e2 = 1 := by
  unfold F0_16 F0_17 F0_18 F0_19 F6_3x F6_4x
  simp only [own_lt32, own_ov s1 n1 s2 n2 h1 h3, own_ov w1 e1 w2 e2 h2 h4]
  by_cases c1 : n2.toInt < s1.toInt <;> by_cases c2 : n1.toInt < s2.toInt <;> by_cases c3 : e2.toInt < w1.toInt <;> by_cases c4 : e1.toInt < w2.toInt <;> simp [c1, c2, c3, c4]
theorem own_law (q1 q2 q3 q4 : Int32) : F0 q1 q2 q3 q4 = 1 := by
  unfold F0 F0_1 F0_2 F0_3 F0_4 F0_5 F0_6 F0_7 F0_8 F0_9 F0_10 F0_11 F0_12 F0_13 F0_14 F0_15
  have k : ∀ a b : Int32, (F1 a b).toInt ≤ (F2 a b).toInt := fun a b => by have x := own_min a b; have y := own_max a b; omega
  exact own_core _ _ _ _ _ _ _ _ _ _ _ _ _ _ _ _ _ _ _ _ (k _ _) (k _ _) (k _ _) (k _ _)

set_option maxRecDepth 65536 in
set_option maxHeartbeats 40000000 in
theorem comes_1 {Post : Tables → Env → Array Value → State → Outcome → State → Prop} (hpost : ∀ tb e args s v u, (limb_1_1.after args s (.returned v) u = true ∧ limb_1_2.after args s (.returned v) u = true ∧ True) → FrameEnd s (.returned v) u (Jvm.fieldLocs frame_1_writes args s ++ Jvm.arrayLocs frame_1_arrays args s ++ Jvm.staticLocs frame_1_statics s) 16 128 → Post tb e args s (.returned v) u) :
    ArmFor flags0 classFile x code maxLocals ret World_1 tables_1 room_1 Calls_1 rest_1 Pre_1 Post := by
  intro l hfl _ _ p e ha hc hk s m args below hf hA hF happ hP
  obtain ⟨hcalls, hrest, hpre⟩ := hP
  obtain ⟨-, -, -, hnamed, -, -, -, hat⟩ := (Spec.applies_iff hf).mp happ
  obtain ⟨hg, hn⟩ := and_e (Cond.before_iff.mp (show (Jvm.Cond.and given_1 narrow_1).before args s = true from hpre))
  obtain ⟨ga0, gb0⟩ := and_e hg
  obtain ⟨ga1, gb1⟩ := and_e gb0
  obtain ⟨ga2, gb2⟩ := and_e gb1
  obtain ⟨ga3, gb3⟩ := and_e gb2
  obtain ⟨w0, w1, w2, w3, rfl⟩ : ∃ w0 w1 w2 w3 : Value, args = #[w0, w1, w2, w3] := by
    have hs : args.size = 4 := by simpa [Cond.value, given_1] using ga0
    obtain ⟨L⟩ := args
    match L, hs with
    | [w0, w1, w2, w3], _ => exact ⟨w0, w1, w2, w3, rfl⟩
  have hw := fun d (hd : d ∈ tables_1) => atoms_spec (ws := Jvm.Cond.code x code maxLocals ret :: tables_1) hat d (List.mem_cons_of_mem _ hd)
  have hfit : Fit s := fun {y c} hc i hi => by
    obtain ⟨ha, rfl⟩ := Array.getElem?_eq_some_iff.mp hc
    have q := List.all_eq_true.mp ((Array.all_eq_true_iff_forall_mem.mp hF) _ (Array.getElem_mem ha)) i (List.mem_range.mpr hi)
    simpa [Array.getElem?_eq_getElem hi] using q
  obtain ⟨i0, ei0⟩ := is_v ga1
  obtain rfl : w0 = (.int i0) := Option.some.inj ei0
  obtain ⟨i1, ei1⟩ := is_v ga2
  obtain rfl : w1 = (.int i1) := Option.some.inj ei1
  obtain ⟨i2, ei2⟩ := is_v ga3
  obtain rfl : w2 = (.int i2) := Option.some.inj ei2
  obtain ⟨i3, ei3⟩ := is_v gb3
  obtain rfl : w3 = (.int i3) := Option.some.inj ei3
  obtain ⟨n, o, h1, h2, h3, v, L, rfl, ⟨hv, N⟩, hq⟩ := rm0 l s _ hw tables_1 i0 i1 i2 i3  s.heap s.heap.size (Nat.le_refl _)  p e ha hc hk s m _ below hf ((Spec.applies_iff_loose hf).mp happ).1 ⟨rfl, State.Warmed39.refl s, rfl⟩ trivial
  rw [own_law i0 i1 i2 i3] at hv
  subst hv
  refine ⟨n, _, h1, h2, h3, hpost _ _ _ _ _ _ ⟨Cond.after_iff.mpr rfl, Cond.after_iff.mpr (eq_i res_at (Term.int_eval (1)) rfl), trivial⟩ ⟨hq.1, hq.2.1, (hq.2.2.sift fun y hy => Or.inr (N y hy)).mono (by decide) (by decide)⟩⟩
theorem main_1_1 : Claimed_1_1 := comes_1 fun _ _ _ _ _ _ h hF => ⟨h.1, hF⟩
theorem main_1_2 : Claimed_1_2 := comes_1 fun _ _ _ _ _ _ h hF => ⟨h.2.1, hF⟩
end Jvm.Pilot.@@N@@
namespace Jvm.Pilot.@@N@@
open Jvm Jvm.ClassFile Sem Op Lib Jvm.Free Jvm.Stand Jvm.Pilot.@@N@@.Jvm.D
/-! MADE BY PROGRAM (witnessworld.py) out of the Statement's table words and the real class files: 11 classes; the members and pool entries that the words name. The judged class is class 1, her method 1. -/
namespace start1
open Jvm.ClassFile
def u (s : String) : CpInfo := .utf8 (stringToUtf16 s)
/-- a pool by its gaps: so many unusable entries, then the entry; so many at the end -/
def gap : Nat → List CpInfo → List CpInfo
  | 0, r => r
  | n + 1, r => .unusable :: gap n r
def poolList (es : List (Nat × CpInfo)) (last : Nat) : List CpInfo := es.foldr (fun e r => gap e.1 (e.2 :: r)) (gap last [])
def pool (es : List (Nat × CpInfo)) (last : Nat) : Array CpInfo := ⟨poolList es last⟩
def fileOf (pool : Array CpInfo) (this : Nat) (attrs : Array Attribute := #[]) (ms : Array MethodInfo := #[]) (fl : Nat := 33) (sup : Nat := 0) (ifs : Array Nat := #[]) (fds : Array FieldInfo := #[]) : ClassFile where
  minorVersion := 0
  majorVersion := 65
  constantPool := pool
  accessFlags := fl
  thisClass := this
  superClass := sup
  interfaces := ifs
  fields := fds
  methods := ms
  attributes := attrs
def plain (name : String) (sup : Option ClassId) : Class where
  name := name
  kind := .ordinary
  loader := none
  accessFlags := 33
  super := sup
  interfaces := #[]
  cf := none
  fields := #[]
  methods := #[]
  instanceTypes := #[]
  staticTypes := #[]
  resolved := #[]
  callSites := []
  init := .initialized
  statics := none
  mirror := none

def pool0 : Array CpInfo := pool [(5, u "<init>"), (0, u "()V"), (1, .class_ 10), (1, u "java/lang/Object")] 113

def k0c0 : Code := { maxStack := 0, maxLocals := 1, code := object_method_1_code, exceptionTable := #[], attributes := #[] }
def k0m0 : Method := { name := "<init>", desc := "()V", sig := { parameters := [], returnType := none }, accessFlags := 1, code := some k0c0 }
/-- java/lang/Object -/
def k0 : Class := { plain "java/lang/Object" none with
  accessFlags := 33
  interfaces := #[]
  cf := some (fileOf pool0 8 #[] #[{ accessFlags := 1, nameIndex := 5, descriptorIndex := 6, attributes := #[] }] 33 0 #[] #[])
  fields := #[]
  methods := #[k0m0]
  instanceTypes := #[]
  staticTypes := #[]
  resolved := Array.replicate 124 none
  statics := none }

def pool1 : Array CpInfo := pool [(2, .class_ 4), (1, u "java/lang/Object"), (0, u "<init>"), (0, u "()V"), (0, .methodref 8 9), (0, .class_ 10), (0, .nameAndType 11 12), (0, u "java/lang/Math"), (0, u "min"), (0, u "(II)I"), (0, .methodref 8 14), (0, .nameAndType 15 12), (0, u "max"), (0, .class_ 17), (0, u "com/example/saunter/saunter/geo/Bounds"), (0, .methodref 16 19), (0, .nameAndType 5 20), (0, u "(DDDD)V"), (0, .methodref 16 22), (0, .nameAndType 23 24), (0, u "meets"), (0, u "(Lcom/example/saunter/saunter/geo/Bounds;)Z"), (0, .class_ 26), (0, u "com/example/saunter/saunter/geo/BoundsMeetsPinLaw"), (2, u "law"), (0, u "(IIII)Z")] 3

def k1m0 : Method := { name := "<init>", desc := "()V", sig := { parameters := [], returnType := none }, accessFlags := 1, code := none }
def k1c1 : Code := { maxStack := 10, maxLocals := 25, code := code, exceptionTable := #[], attributes := #[] }
def k1m1 : Method := { name := "law", desc := "(IIII)Z", sig := { parameters := [.int, .int, .int, .int], returnType := some .boolean }, accessFlags := 9, code := some k1c1 }
/-- com/example/saunter/saunter/geo/BoundsMeetsPinLaw -/
def k1 : Class := { plain "com/example/saunter/saunter/geo/BoundsMeetsPinLaw" (some 0) with
  accessFlags := 49
  interfaces := #[]
  cf := some (fileOf pool1 25 #[] #[{ accessFlags := 1, nameIndex := 5, descriptorIndex := 6, attributes := #[] }, { accessFlags := 9, nameIndex := 29, descriptorIndex := 30, attributes := #[] }] 49 2 #[] #[])
  fields := #[]
  methods := #[k1m0, k1m1]
  instanceTypes := #[]
  staticTypes := #[]
  resolved := Array.replicate 34 none
  statics := none }

def pool2 : Array CpInfo := pool [(1, .class_ 2), (0, u "java/lang/Math"), (1, .class_ 6), (1, u "java/lang/Object"), (0, u "<init>"), (0, u "()V"), (89, .class_ 100), (1, u "java/lang/Math$RandomNumberGeneratorHolder"), (71, u "negativeZeroFloatBits"), (0, u "J"), (2, u "negativeZeroDoubleBits"), (21, u "max"), (2, u "min"), (43, u "$assertionsDisabled"), (0, u "Z"), (88, u "(II)I"), (2, u "twoToTheDoubleScaleDown"), (0, u "D"), (4, u "twoToTheDoubleScaleUp"), (9, u "E"), (3, u "PI"), (2, u "TAU"), (2, u "DEGREES_TO_RADIANS"), (0, u "RADIANS_TO_DEGREES")] 94

def k2m0 : Method := { name := "<init>", desc := "()V", sig := { parameters := [], returnType := none }, accessFlags := 2, code := none }
def k2c1 : Code := { maxStack := 2, maxLocals := 2, code := jdk_29_method_65_code, exceptionTable := #[], attributes := #[] }
def k2m1 : Method := { name := "max", desc := "(II)I", sig := { parameters := [.int, .int], returnType := some .int }, accessFlags := 9, code := some k2c1 }
def k2c2 : Code := { maxStack := 2, maxLocals := 2, code := jdk_29_method_69_code, exceptionTable := #[], attributes := #[] }
def k2m2 : Method := { name := "min", desc := "(II)I", sig := { parameters := [.int, .int], returnType := some .int }, accessFlags := 9, code := some k2c2 }
/-- java/lang/Math -/
def k2 : Class := { plain "java/lang/Math" (some 0) with
  accessFlags := 49
  interfaces := #[]
  cf := some (fileOf pool2 1 #[.nestMembers #[98]] #[{ accessFlags := 2, nameIndex := 7, descriptorIndex := 8, attributes := #[] }, { accessFlags := 9, nameIndex := 198, descriptorIndex := 335, attributes := #[] }, { accessFlags := 9, nameIndex := 201, descriptorIndex := 335, attributes := #[] }] 49 4 #[] #[{ accessFlags := 25, nameIndex := 354, descriptorIndex := 339, attributes := #[] }, { accessFlags := 25, nameIndex := 358, descriptorIndex := 339, attributes := #[] }, { accessFlags := 25, nameIndex := 361, descriptorIndex := 339, attributes := #[] }, { accessFlags := 26, nameIndex := 364, descriptorIndex := 339, attributes := #[] }, { accessFlags := 26, nameIndex := 365, descriptorIndex := 339, attributes := #[] }, { accessFlags := 26, nameIndex := 172, descriptorIndex := 173, attributes := #[] }, { accessFlags := 26, nameIndex := 176, descriptorIndex := 173, attributes := #[] }, { accessFlags := 8, nameIndex := 344, descriptorIndex := 339, attributes := #[] }, { accessFlags := 8, nameIndex := 338, descriptorIndex := 339, attributes := #[] }, { accessFlags := 4120, nameIndex := 245, descriptorIndex := 246, attributes := #[] }])
  fields := #[{ name := "E", type := .double, accessFlags := 25, slot := 0, constantValue := 0 }, { name := "PI", type := .double, accessFlags := 25, slot := 1, constantValue := 0 }, { name := "TAU", type := .double, accessFlags := 25, slot := 2, constantValue := 0 }, { name := "DEGREES_TO_RADIANS", type := .double, accessFlags := 26, slot := 3, constantValue := 0 }, { name := "RADIANS_TO_DEGREES", type := .double, accessFlags := 26, slot := 4, constantValue := 0 }, { name := "negativeZeroFloatBits", type := .long, accessFlags := 26, slot := 5, constantValue := 0 }, { name := "negativeZeroDoubleBits", type := .long, accessFlags := 26, slot := 6, constantValue := 0 }, { name := "twoToTheDoubleScaleUp", type := .double, accessFlags := 8, slot := 7, constantValue := 0 }, { name := "twoToTheDoubleScaleDown", type := .double, accessFlags := 8, slot := 8, constantValue := 0 }, { name := "$assertionsDisabled", type := .boolean, accessFlags := 4120, slot := 9, constantValue := 0 }]
  methods := #[k2m0, k2m1, k2m2]
  instanceTypes := #[]
  staticTypes := #[.double, .double, .double, .double, .double, .long, .long, .double, .double, .boolean]
  resolved := Array.replicate 460 none
  statics := none }

def pool3 : Array CpInfo := pool [(1, .methodref 2 3), (0, .class_ 4), (0, .nameAndType 5 6), (0, u "java/lang/Object"), (0, u "<init>"), (0, u "()V"), (0, .class_ 8), (0, u "java/lang/Record")] 13

def k3c0 : Code := { maxStack := 1, maxLocals := 1, code := jdk_30_method_1_code, exceptionTable := #[], attributes := #[] }
def k3m0 : Method := { name := "<init>", desc := "()V", sig := { parameters := [], returnType := none }, accessFlags := 4, code := some k3c0 }
/-- java/lang/Record -/
def k3 : Class := { plain "java/lang/Record" (some 0) with
  accessFlags := 1057
  interfaces := #[]
  cf := some (fileOf pool3 7 #[] #[{ accessFlags := 4, nameIndex := 5, descriptorIndex := 6, attributes := #[] }] 1057 2 #[] #[])
  fields := #[]
  methods := #[k3m0]
  instanceTypes := #[]
  staticTypes := #[]
  resolved := Array.replicate 22 none
  statics := none }

def pool4 : Array CpInfo := pool [(1, .methodref 2 3), (0, .class_ 4), (0, .nameAndType 5 6), (0, u "java/lang/Record"), (0, u "<init>"), (0, u "()V"), (0, .fieldref 8 9), (0, .class_ 10), (0, .nameAndType 11 12), (0, u "com/example/saunter/saunter/geo/Bounds"), (0, u "south"), (0, u "D"), (0, .fieldref 8 14), (0, .nameAndType 15 12), (0, u "west"), (0, .fieldref 8 17), (0, .nameAndType 18 12), (0, u "north"), (0, .fieldref 8 20), (0, .nameAndType 21 12), (0, u "east"), (23, u "(DDDD)V"), (109, u "meets"), (0, u "(Lcom/example/saunter/saunter/geo/Bounds;)Z")] 39

def k4c0 : Code := { maxStack := 3, maxLocals := 9, code := prog_2_method_1_code, exceptionTable := #[], attributes := #[] }
def k4m0 : Method := { name := "<init>", desc := "(DDDD)V", sig := { parameters := [.double, .double, .double, .double], returnType := none }, accessFlags := 1, code := some k4c0 }
def k4c1 : Code := { maxStack := 4, maxLocals := 2, code := prog_2_method_8_code, exceptionTable := #[], attributes := #[] }
def k4m1 : Method := { name := "meets", desc := "(Lcom/example/saunter/saunter/geo/Bounds;)Z", sig := { parameters := [(.object "com/example/saunter/saunter/geo/Bounds")], returnType := some .boolean }, accessFlags := 1, code := some k4c1 }
/-- com/example/saunter/saunter/geo/Bounds -/
def k4 : Class := { plain "com/example/saunter/saunter/geo/Bounds" (some 3) with
  accessFlags := 49
  interfaces := #[]
  cf := some (fileOf pool4 8 #[] #[{ accessFlags := 1, nameIndex := 5, descriptorIndex := 45, attributes := #[] }, { accessFlags := 1, nameIndex := 155, descriptorIndex := 156, attributes := #[] }] 49 2 #[] #[{ accessFlags := 18, nameIndex := 11, descriptorIndex := 12, attributes := #[] }, { accessFlags := 18, nameIndex := 15, descriptorIndex := 12, attributes := #[] }, { accessFlags := 18, nameIndex := 18, descriptorIndex := 12, attributes := #[] }, { accessFlags := 18, nameIndex := 21, descriptorIndex := 12, attributes := #[] }])
  fields := #[{ name := "south", type := .double, accessFlags := 18, slot := 0, constantValue := 0 }, { name := "west", type := .double, accessFlags := 18, slot := 1, constantValue := 0 }, { name := "north", type := .double, accessFlags := 18, slot := 2, constantValue := 0 }, { name := "east", type := .double, accessFlags := 18, slot := 3, constantValue := 0 }]
  methods := #[k4m0, k4m1]
  instanceTypes := #[.double, .double, .double, .double]
  staticTypes := #[]
  resolved := Array.replicate 196 none
  statics := none }

def pool5 : Array CpInfo := pool [(1, u "java/lang/Cloneable"), (0, .class_ 1), (0, u "java/lang/Object"), (0, .class_ 3)] 3

/-- java/lang/Cloneable -/
def k5 : Class := { plain "java/lang/Cloneable" (some 0) with
  accessFlags := 1537
  interfaces := #[]
  cf := some (fileOf pool5 2 #[] #[] 1537 4 #[] #[])
  fields := #[]
  methods := #[]
  instanceTypes := #[]
  staticTypes := #[]
  resolved := Array.replicate 8 none
  statics := none }

def pool6 : Array CpInfo := pool [(1, u "java/io/Serializable"), (0, .class_ 1), (0, u "java/lang/Object"), (0, .class_ 3)] 3

/-- java/io/Serializable -/
def k6 : Class := { plain "java/io/Serializable" (some 0) with
  accessFlags := 1537
  interfaces := #[]
  cf := some (fileOf pool6 2 #[] #[] 1537 4 #[] #[])
  fields := #[]
  methods := #[]
  instanceTypes := #[]
  staticTypes := #[]
  resolved := Array.replicate 8 none
  statics := none }

/-- the primitive byte -/
def k7 : Class := { plain "byte" none with kind := .primitive 'B', accessFlags := 0x411 }
/-- [B -/
def k8 : Class := { plain "[B" (some 0) with kind := .array 7 .byte, interfaces := #[5, 6], accessFlags := 1041 }

/-- the primitive int -/
def k9 : Class := { plain "int" none with kind := .primitive 'I', accessFlags := 0x411 }
/-- [I -/
def k10 : Class := { plain "[I" (some 0) with kind := .array 9 .int, interfaces := #[5, 6], accessFlags := 1041 }

def heap : Heap := #[]
def classes : Array Class := #[k0, k1, k2, k3, k4, k5, k6, k7, k8, k9, k10]
def interned : List (Array UInt16 × Addr) := []
def slotsUsed : Nat := 0
def theMethod : MethodId := ⟨1, 1⟩
def args0 : Array Value := #[.int 65, .int 3, .int 70000, .int 7]
def aboutOver (below : List Frame) : State where
  vm := { classes := classes, interned := interned.toArray }
  heap := heap
  slotsUsed := slotsUsed
  threads := #[{ frames := .invoking theMethod args0 :: below }]
def below0 : List Frame := [.native { method := ⟨0, 0⟩, args := #[] }]
def about1 : State := aboutOver below0
def p0 : Program := .bare "" "" ""
def e0 : Env := launch0.env 0 0 0
theorem w_frames : about1.frames = Frame.invoking theMethod args0 :: below0 := rfl
set_option maxRecDepth 65536 in
theorem w_args : argsFit about1.vm theMethod args0 = true := by decide +kernel
set_option maxRecDepth 65536 in
theorem w_heap : heapFits about1 = true := by decide +kernel
set_option maxRecDepth 65536 in
theorem w_runnable : about1.curStatus? = some .runnable := by decide +kernel
set_option maxRecDepth 65536 in
theorem w_alone : about1.alone = true := by decide +kernel
set_option maxRecDepth 65536 in
theorem w_named : about1.methodNamed? x = some theMethod := by decide +kernel
set_option maxRecDepth 65536 in
theorem w_hears : about1.hears theMethod below0 = true := by decide +kernel
set_option maxRecDepth 65536 in
theorem w_ripe : about1.ripe theMethod args0 below0 = true := by decide +kernel
theorem w_running : about1.status = .running := rfl
set_option maxRecDepth 65536 in
theorem w_room : about1.hasRoom e0.platform room_1 = true :=
  launch0.hasRoom_least _ room_1 (by decide +kernel) (by decide +kernel) (by decide +kernel) (by decide +kernel) (by decide +kernel) (by decide +kernel)
theorem allAtoms_all (ts : List Jvm.Cond) (a : Array Jvm.Value) (st : Jvm.State) : (allAtoms ts).before a st = ts.all (fun c => c.before a st) := by
  induction ts with
  | nil => rfl
  | cons c t ih =>
    show (Jvm.Cond.and c (allAtoms t)).before a st = _
    rw [Jvm.Cond.before_and, ih, List.all_cons]
def words1 : List Jvm.Cond := Jvm.Cond.code x code maxLocals ret :: tables_1
/-- a 'code' word, met by the world's own term for the bytes: nothing is compared byte by byte -/
theorem code_word {y : MethodName} {bytes : ByteArray} {mx : Nat} {rt : Option FieldType} {a : Array Value} {s : State} {m : MethodId} {meth : Method} {c : Code} (h1 : s.methodNamed? y = some m) (h2 : s.vm.method? m = some meth) (h3 : meth.code = some c) (h4 : c.code = bytes)
    (h5 : (c.maxLocals == mx && c.exceptionTable.isEmpty && decide (c.maxStack ≤ mostOperands) && decide (meth.sig.returnType = rt) && !meth.locks && decide (parseMethodDescriptor y.desc = some meth.sig)) = true) : (Jvm.Cond.code y bytes mx rt).before a s = true := by
  simp only [Bool.and_eq_true, beq_iff_eq, Bool.not_eq_true', decide_eq_true_eq] at h5
  obtain ⟨⟨⟨⟨⟨g1, g2⟩, g3⟩, g4⟩, g5⟩, g6⟩ := h5
  simp [Cond.before, Cond.holds, Cond.value, h1, h2, h3, h4, g1, g2, g3, g4, g5, g6]
def isCode : Jvm.Cond → Bool
  | .code _ _ _ _ => true
  | _ => false
theorem all_split {L : List Jvm.Cond} {P : Jvm.Cond → Bool} (h1 : L.all (fun c => isCode c || P c) = true) (h2 : ∀ c ∈ L.filter isCode, P c = true) : L.all P = true := by
  refine List.all_eq_true.mpr fun c hc => ?_
  have h := List.all_eq_true.mp h1 c hc
  rcases Bool.eq_false_or_eq_true (isCode c) with hi | hi
  · exact h2 c (List.mem_filter.mpr ⟨hc, hi⟩)
  · simpa [hi] using h
set_option maxRecDepth 65536 in
theorem w_c0 : (Jvm.Cond.code x code maxLocals ret).before args0 about1 = true := code_word (m := ⟨1, 1⟩) (meth := k1m1) (c := k1c1) (by decide +kernel) rfl rfl rfl (by decide +kernel)
set_option maxRecDepth 65536 in
theorem w_c1 : (Jvm.Cond.code ({ cls := "java/lang/Math", name := "min", desc := "(II)I" } : Jvm.MethodName) jdk_29_method_69_code (2 : Nat) (Option.some Jvm.ClassFile.FieldType.int)).before args0 about1 = true := code_word (m := ⟨2, 2⟩) (meth := k2m2) (c := k2c2) (by decide +kernel) rfl rfl rfl (by decide +kernel)
set_option maxRecDepth 65536 in
theorem w_c2 : (Jvm.Cond.code ({ cls := "java/lang/Math", name := "max", desc := "(II)I" } : Jvm.MethodName) jdk_29_method_65_code (2 : Nat) (Option.some Jvm.ClassFile.FieldType.int)).before args0 about1 = true := code_word (m := ⟨2, 1⟩) (meth := k2m1) (c := k2c1) (by decide +kernel) rfl rfl rfl (by decide +kernel)
set_option maxRecDepth 65536 in
theorem w_c3 : (Jvm.Cond.code ({ cls := "com/example/saunter/saunter/geo/Bounds", name := "<init>", desc := "(DDDD)V" } : Jvm.MethodName) prog_2_method_1_code (9 : Nat) (Option.none : Option Jvm.ClassFile.FieldType)).before args0 about1 = true := code_word (m := ⟨4, 0⟩) (meth := k4m0) (c := k4c0) (by decide +kernel) rfl rfl rfl (by decide +kernel)
set_option maxRecDepth 65536 in
theorem w_c4 : (Jvm.Cond.code ({ cls := "java/lang/Record", name := "<init>", desc := "()V" } : Jvm.MethodName) jdk_30_method_1_code (1 : Nat) (Option.none : Option Jvm.ClassFile.FieldType)).before args0 about1 = true := code_word (m := ⟨3, 0⟩) (meth := k3m0) (c := k3c0) (by decide +kernel) rfl rfl rfl (by decide +kernel)
set_option maxRecDepth 65536 in
theorem w_c5 : (Jvm.Cond.code ({ cls := "java/lang/Object", name := "<init>", desc := "()V" } : Jvm.MethodName) object_method_1_code (1 : Nat) (Option.none : Option Jvm.ClassFile.FieldType)).before args0 about1 = true := code_word (m := ⟨0, 0⟩) (meth := k0m0) (c := k0c0) (by decide +kernel) rfl rfl rfl (by decide +kernel)
set_option maxRecDepth 65536 in
theorem w_c6 : (Jvm.Cond.code ({ cls := "com/example/saunter/saunter/geo/Bounds", name := "meets", desc := "(Lcom/example/saunter/saunter/geo/Bounds;)Z" } : Jvm.MethodName) prog_2_method_8_code (2 : Nat) (Option.some Jvm.ClassFile.FieldType.boolean)).before args0 about1 = true := code_word (m := ⟨4, 1⟩) (meth := k4m1) (c := k4c1) (by decide +kernel) rfl rfl rfl (by decide +kernel)
def codes1 : List Jvm.Cond := [Jvm.Cond.code x code maxLocals ret, Jvm.Cond.code ({ cls := "java/lang/Math", name := "min", desc := "(II)I" } : Jvm.MethodName) jdk_29_method_69_code (2 : Nat) (Option.some Jvm.ClassFile.FieldType.int), Jvm.Cond.code ({ cls := "java/lang/Math", name := "max", desc := "(II)I" } : Jvm.MethodName) jdk_29_method_65_code (2 : Nat) (Option.some Jvm.ClassFile.FieldType.int), Jvm.Cond.code ({ cls := "com/example/saunter/saunter/geo/Bounds", name := "<init>", desc := "(DDDD)V" } : Jvm.MethodName) prog_2_method_1_code (9 : Nat) (Option.none : Option Jvm.ClassFile.FieldType), Jvm.Cond.code ({ cls := "java/lang/Record", name := "<init>", desc := "()V" } : Jvm.MethodName) jdk_30_method_1_code (1 : Nat) (Option.none : Option Jvm.ClassFile.FieldType), Jvm.Cond.code ({ cls := "java/lang/Object", name := "<init>", desc := "()V" } : Jvm.MethodName) object_method_1_code (1 : Nat) (Option.none : Option Jvm.ClassFile.FieldType), Jvm.Cond.code ({ cls := "com/example/saunter/saunter/geo/Bounds", name := "meets", desc := "(Lcom/example/saunter/saunter/geo/Bounds;)Z" } : Jvm.MethodName) prog_2_method_8_code (2 : Nat) (Option.some Jvm.ClassFile.FieldType.boolean)]
set_option maxRecDepth 65536 in
theorem codes_eq : words1.filter isCode = codes1 := rfl
theorem w_codes : ∀ c ∈ words1.filter isCode, c.before args0 about1 = true := by
  rw [codes_eq]
  intro c hc
  simp only [codes1, List.mem_cons, List.not_mem_nil, or_false] at hc
  rcases hc with rfl | rfl | rfl | rfl | rfl | rfl | rfl
  · exact w_c0
  · exact w_c1
  · exact w_c2
  · exact w_c3
  · exact w_c4
  · exact w_c5
  · exact w_c6
set_option maxRecDepth 65536 in
theorem w_t1 : (words1.take 24).all (fun c => isCode c || c.before args0 about1) = true := by decide +kernel
set_option maxRecDepth 65536 in
theorem w_t2 : (words1.drop 24).all (fun c => isCode c || c.before args0 about1) = true := by decide +kernel
theorem w_tables : (allAtoms (Jvm.Cond.code x code maxLocals ret :: tables_1)).before args0 about1 = true := by
  rw [allAtoms_all]
  show words1.all (fun c => c.before args0 about1) = true
  refine all_split ?_ w_codes
  rw [← List.take_append_drop 24 words1, List.all_append, w_t1, w_t2]
  rfl
set_option maxRecDepth 65536 in
theorem w_case : (Jvm.Cond.and given_1 narrow_1).before args0 about1 = true := by decide +kernel
theorem w_applies : (headSpec (Jvm.Cond.code x code maxLocals ret :: tables_1) room_1).applies x e0.platform about1 = true :=
  (Spec.applies_iff w_frames).mpr ⟨w_running, w_runnable, w_alone, w_named, w_hears, w_ripe, w_room, w_tables⟩
theorem atStart : AtStart classFile x code maxLocals ret World_1 tables_1 room_1 Calls_1 rest_1 Pre_1 launch0 p0 e0 about1 theMethod args0 below0 :=
  ⟨lists_1, trivial, launch0.admits_env _ _ _, launch0.least_env, fairChoices_fair.cas, fairChoices_fair.clock, w_frames, w_args, w_heap, w_applies, trivial, trivial, w_case⟩
end start1
theorem witness_1 : WitnessClaimed_1 := ⟨start1.p0, start1.e0, start1.about1, start1.theMethod, start1.args0, start1.below0, start1.atStart⟩
end Jvm.Pilot.@@N@@
