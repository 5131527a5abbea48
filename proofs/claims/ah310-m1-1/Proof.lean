import JvmDerived
import JvmDerived.Pilot.@@N@@Statement
import JvmDerived.Pilot.@@N@@Code
set_option linter.unusedVariables false
set_option linter.unusedSimpArgs false
namespace Jvm.RoadKit
open Sem ClassFile Op Lib Jvm.Stand Jvm.Free Jvm.LawKit
def GoW (p : Program) (e : Env) (below : List Frame) (s : State) (Q : Option Value → Heap → List Loc → Prop) (k n : Nat) (u : State) : Prop :=
  ∃ s₂ o, Steps p.tables e below u s₂ ∧ s₂.status = .running ∧ Ended s₂ below o ∧ ∃ v L, o = .returned v ∧ Q v s₂.heap L ∧ FrameEnd s o s₂ L k n
def PureQ (r : Value) (h0 : Heap) (n0 : Nat) (v : Option Value) (h : Heap) (L : List Loc) : Prop := v = some r ∧ Fr n0 L ∧ h = h0
def ValQ (r : Value) (n0 : Nat) (v : Option Value) (h : Heap) (L : List Loc) : Prop := v = some r ∧ Fr n0 L
section New
variable {p : Program} {l : Launch} {e : Env} {R : Room} {s : State} {m : MethodId} {args : Array Value} {below : List Frame} {meth : Method} {c : Code} {T : State} {locs : List Loc} {cells slots : Nat} {Q : Option Value → Heap → List Loc → Prop} {k n : Nat} {u v : State}
theorem GoW.mk (h : GoW p e below s Q k n u) : ∃ s₂ o, Steps p.tables e below u s₂ ∧ s₂.status = .running ∧ Ended s₂ below o ∧ ∃ v L, o = .returned v ∧ Q v s₂.heap L ∧ FrameEnd s o s₂ L k n := h
theorem GoW.st (h : ∀ t, Steps p.tables e below u t → Steps p.tables e below v t) (q : GoW p e below s Q k n u) : GoW p e below s Q k n v := by
  obtain ⟨s₂, o, h1, h2⟩ := q; exact ⟨s₂, o, h _ h1, h2⟩
theorem GoW.sg {T' : State} (g' : JFrame) (h : ∀ t, Steps p.tables e below (T'.setTop g') t → Steps p.tables e below v t) (q : GoW p e below s Q k n (T'.setTop g')) : GoW p e below s Q k n v := GoW.st h q
theorem retI (X : Stand p l e R s m args below meth c T locs cells slots) (hx : p.tables.exec = Jvm.exec) {pc : Nat} {Ls : Array Slot} {z : Int32} {rest : List Value} (hret : meth.sig.returnType = some .int) (hd : decode c.code pc = .ok (.ireturn, 1)) {fs : List Frame}
    (hl : ∀ (f : JFrame) (acts : List Action), f.method = m → f.locked = none → f.entered = [] → (doReturn e (T.setTop f) acts (some (.int z))).1 = T.setFrames fs) : Steps p.tables e below (T.setTop (mkF m pc Ls (.int z :: rest))) (T.setFrames fs) := by
  have hm' : T.vm.method? m = some meth := X.method'
  have hn : narrow .int (.int z) = .int z := rfl
  show Steps p.tables e below (T.setTop { method := m, pc := pc, locals := Ls, stack := _ :: rest, locked := none }) _
  jvm_step X.here [X.here.top, hx, hd, hm', hret, hn]
  first | (intro acts; rw [hl _ acts rfl rfl rfl]) | rw [hl _ _ rfl rfl rfl]
  exact Steps.refl _
theorem GoW.retN (X : Stand p l e R s m args below meth c T locs cells slots) (hx : p.tables.exec = Jvm.exec) {pc : Nat} {Ls : Array Slot} {z : Int32} {t : FieldType} {rest : List Value} (hret : meth.sig.returnType = some t) (ht : t = .boolean ∨ t = .byte ∨ t = .char ∨ t = .short)
    (hd : decode c.code pc = .ok (.ireturn, 1)) (hlk : meth.locks = false) (hq : Q (some (.int (nar t z))) T.heap locs) (hk : cells ≤ k) (hn : slots ≤ n) : GoW p e below s Q k n (T.setTop (mkF m pc Ls (.int z :: rest))) := by
  obtain ⟨fs, hr, hrun, hended, hW, hsame⟩ := X.leave (v := some (.int (nar t z))) (fun h => by rw [hret] at h; cases h) hlk
  exact ⟨_, _, Jvm.RoadKit.retN X hx hret ht hd hr, hrun, hended, _, _, rfl, hq, ⟨_, rfl⟩, hW, hsame.mono hk hn⟩
theorem GoW.retI (X : Stand p l e R s m args below meth c T locs cells slots) (hx : p.tables.exec = Jvm.exec) {pc : Nat} {Ls : Array Slot} {z : Int32} {rest : List Value} (hret : meth.sig.returnType = some .int)
    (hd : decode c.code pc = .ok (.ireturn, 1)) (hlk : meth.locks = false) (hq : Q (some (.int z)) T.heap locs) (hk : cells ≤ k) (hn : slots ≤ n) : GoW p e below s Q k n (T.setTop (mkF m pc Ls (.int z :: rest))) := by
  obtain ⟨fs, hr, hrun, hended, hW, hsame⟩ := X.leave (v := some (.int z)) (fun h => by rw [hret] at h; cases h) hlk
  exact ⟨_, _, Jvm.RoadKit.retI X hx hret hd hr, hrun, hended, _, _, rfl, hq, ⟨_, rfl⟩, hW, hsame.mono hk hn⟩
theorem GoW.retL (X : Stand p l e R s m args below meth c T locs cells slots) (hx : p.tables.exec = Jvm.exec) {pc : Nat} {Ls : Array Slot} {z : Int64} {rest : List Value} (hret : meth.sig.returnType = some .long)
    (hd : decode c.code pc = .ok (.lreturn, 1)) (hlk : meth.locks = false) (hq : Q (some (.long z)) T.heap locs) (hk : cells ≤ k) (hn : slots ≤ n) : GoW p e below s Q k n (T.setTop (mkF m pc Ls (.long z :: rest))) := by
  obtain ⟨fs, hr, hrun, hended, hW, hsame⟩ := X.leave (v := some (.long z)) (fun h => by rw [hret] at h; cases h) hlk
  exact ⟨_, _, retOut X hx hret rfl (Or.inr (Or.inl ⟨rfl, rfl, z, rfl⟩)) hd hr, hrun, hended, _, _, rfl, hq, ⟨_, rfl⟩, hW, hsame.mono hk hn⟩
theorem GoW.retA (X : Stand p l e R s m args below meth c T locs cells slots) (hx : p.tables.exec = Jvm.exec) {pc : Nat} {Ls : Array Slot} {w : Value} {t : FieldType} {rest : List Value} (hret : meth.sig.returnType = some t) (hw : w.isRef = true) (ht : t.isReference = true)
    (hn' : narrow t w = w) (hd : decode c.code pc = .ok (.areturn, 1)) (hlk : meth.locks = false) (hq : Q (some w) T.heap locs) (hk : cells ≤ k) (hn : slots ≤ n) : GoW p e below s Q k n (T.setTop (mkF m pc Ls (w :: rest))) := by
  obtain ⟨fs, hr, hrun, hended, hW, hsame⟩ := X.leave (v := some w) (fun h => by rw [hret] at h; cases h) hlk
  exact ⟨_, _, retOut X hx hret hn' (Or.inr (Or.inr (Or.inr (Or.inr ⟨rfl, ht, hw⟩)))) hd hr, hrun, hended, _, _, rfl, hq, ⟨_, rfl⟩, hW, hsame.mono hk hn⟩
theorem GoW.retV (X : Stand p l e R s m args below meth c T locs cells slots) (hx : p.tables.exec = Jvm.exec) {pc : Nat} {Ls : Array Slot} (hret : meth.sig.returnType = none)
    (hd : decode c.code pc = .ok (.return_, 1)) (hlk : meth.locks = false) (hq : Q none T.heap locs) (hk : cells ≤ k) (hn : slots ≤ n) : GoW p e below s Q k n (T.setTop (mkF m pc Ls [])) := by
  obtain ⟨fs, hr, hrun, hended, hW, hsame⟩ := X.leave (v := none) (fun _ => rfl) hlk
  exact ⟨_, _, X.returnOut hx hret hd hr, hrun, hended, _, _, rfl, hq, ⟨_, rfl⟩, hW, hsame.mono hk hn⟩
theorem own_eqI {args : Array Value} {first s : State} {o : Option Outcome} {idx : List Nat} {t : Term} {i : Int32} (h : (Jvm.Cond.eq t (.int i)).value args first o s idx = some true) : t.eval args first o idx s = some (.int i) := by
  obtain ⟨x, y, hx, hy, k1, k2⟩ := cmp_v (Or.inl h)
  rw [Term.int_eval] at hy
  cases hy
  obtain ⟨z, rfl⟩ := k2
  have q := gotT (Cond.eq_ints hx (Term.int_eval i)) h
  rw [hx, q]
theorem own_ne {args : Array Value} {first s : State} {o : Option Outcome} {idx : List Nat} {t u : Term} {C n d : String} {i j : Int32} {a b : Addr} (h1 : (Jvm.Cond.eq (.field t C n d) (.int i)).value args first o s idx = some true) (h2 : (Jvm.Cond.eq (.field u C n d) (.int j)).value args first o s idx = some true)
    (ha : t.eval args first o idx s = some (.ref a)) (hb : u.eval args first o idx s = some (.ref b)) (hij : i ≠ j) : a ≠ b := fun e => by
  subst e
  have q1 := own_eqI h1
  have q2 := own_eqI h2
  rw [fld_at ha] at q1
  rw [fld_at hb, q1] at q2
  exact hij (by cases q2; rfl)
theorem own_staK0 {Z : State} {h h' : Heap} {C n d : String} {v : Value} (F : Sta Z h C n d v) (K : Keep h h' []) : Sta Z h' C n d v := by
  obtain ⟨cf, i, k, f, st, cell, h1, h2, h3, h4, h5, r⟩ := F; exact ⟨cf, i, k, f, st, cell, h1, h2, h3, h4, K.2.1 _ _ h5 nin0, r⟩
theorem own_staK1 {Z : State} {h h' : Heap} {C n d K0 : String} {v : Value} {a : Addr} (F : Sta Z h C n d v) (K : Keep h h' [a]) (E : Exa Z h a K0) : Sta Z h' C n d v := by
  obtain ⟨cf, i, k, f, st, cell, h1, h2, h3, h4, h5, h6, r⟩ := F
  refine ⟨cf, i, k, f, st, cell, h1, h2, h3, h4, K.2.1 _ _ h5 (ninS (fun q => ?_) nin0), h6, r⟩
  subst q
  obtain ⟨cell2, k2, g1, -, -, g2, -⟩ := E
  cases h5.symm.trans g1
  rw [h6] at g2; cases g2
theorem GoW.retD (X : Stand p l e R s m args below meth c T locs cells slots) (hx : p.tables.exec = Jvm.exec) {pc : Nat} {Ls : Array Slot} {z : UInt64} {rest : List Value} (hret : meth.sig.returnType = some .double)
    (hd : decode c.code pc = .ok (.dreturn, 1)) (hlk : meth.locks = false) (hq : Q (some (.double z)) T.heap locs) (hk : cells ≤ k) (hn : slots ≤ n) : GoW p e below s Q k n (T.setTop (mkF m pc Ls (.double z :: rest))) := by
  obtain ⟨fs, hr, hrun, hended, hW, hsame⟩ := X.leave (v := some (.double z)) (fun h => by rw [hret] at h; cases h) hlk
  exact ⟨_, _, retOut X hx hret rfl (Or.inr (Or.inr (Or.inl ⟨rfl, rfl, z, rfl⟩))) hd hr, hrun, hended, _, _, rfl, hq, ⟨_, rfl⟩, hW, hsame.mono hk hn⟩
theorem own_pop2L {tb : Tables} [Ours tb] {e : Env} {below : List Frame} {T target : State} {m : MethodId} {c : Code} {g : JFrame} (h : At T m c below) (hx : tb.exec = Jvm.exec) (hg : g.method = m) {x : Int64} {rest : List Value} (hd : decode c.code g.pc = .ok (.pop2, 1)) (hs : g.stack = .long x :: rest)
    (hr : Steps tb e below (T.setTop { g with pc := g.pc + 1, stack := rest }) target) : Steps tb e below (T.setTop g) target := by
  subst hg
  jvm_step h [h.top, hx, hd, hs, Value.category]
  exact hr
end New
end Jvm.RoadKit
namespace Jvm.Pilot.@@N@@
open Jvm Jvm.ClassFile Sem Op Lib Jvm.Free Jvm.Stand Jvm.LawKit Jvm.RoadKit Bundle Jvm.Pilot.@@N@@.Jvm.D
theorem ww {Z : State} {a0 : Array Value} (hw : ∀ d ∈ tables_1, d.before a0 Z = true) (i : Nat) {d : Jvm.Cond} (h : tables_1[i]? = some d) : d.before a0 Z = true := hw _ (List.mem_of_getElem? h)
theorem pn_com_example_lianzhuang_lianzhuang_simulation_SeededRandom : plainName "com/example/lianzhuang/lianzhuang/simulation/SeededRandom" = true := by first | (simp [plainName, overriddenIn]; done) | decide +kernel
abbrev K0 (p0 : Addr) (p1 : Int64) : Array Slot := #[.val (.ref p0), .val (.long p1), .second]
theorem d1_0 : decode prog_40_method_1_code 0 = .ok (.aload_n 0, 1) := by decide +kernel
theorem d1_1 : decode prog_40_method_1_code 1 = .ok (.invokespecial 1, 3) := by decide +kernel
theorem d1_4 : decode prog_40_method_1_code 4 = .ok (.aload_n 0, 1) := by decide +kernel
theorem d1_5 : decode prog_40_method_1_code 5 = .ok (.lload_n 1, 1) := by decide +kernel
theorem d1_6 : decode prog_40_method_1_code 6 = .ok (.putfield 7, 3) := by decide +kernel
theorem d1_9 : decode prog_40_method_1_code 9 = .ok (.return_, 1) := by decide +kernel
abbrev K1 (p0 : Addr) : Array Slot := #[.val (.ref p0), .unset, .unset]
theorem d3_0 : decode prog_40_method_2_code 0 = .ok (.aload_n 0, 1) := by decide +kernel
theorem d3_1 : decode prog_40_method_2_code 1 = .ok (.dup, 1) := by decide +kernel
theorem d3_2 : decode prog_40_method_2_code 2 = .ok (.getfield 7, 3) := by decide +kernel
theorem d3_5 : decode prog_40_method_2_code 5 = .ok (.ldc2_w 13, 3) := by decide +kernel
theorem d3_8 : decode prog_40_method_2_code 8 = .ok (.ladd, 1) := by decide +kernel
theorem d3_9 : decode prog_40_method_2_code 9 = .ok (.putfield 7, 3) := by decide +kernel
theorem d3_12 : decode prog_40_method_2_code 12 = .ok (.aload_n 0, 1) := by decide +kernel
theorem d3_13 : decode prog_40_method_2_code 13 = .ok (.getfield 7, 3) := by decide +kernel
theorem d3_16 : decode prog_40_method_2_code 16 = .ok (.lstore_n 1, 1) := by decide +kernel
theorem d3_17 : decode prog_40_method_2_code 17 = .ok (.lload_n 1, 1) := by decide +kernel
theorem d3_18 : decode prog_40_method_2_code 18 = .ok (.lload_n 1, 1) := by decide +kernel
theorem d3_19 : decode prog_40_method_2_code 19 = .ok (.bipush 30, 2) := by decide +kernel
theorem d3_21 : decode prog_40_method_2_code 21 = .ok (.lushr, 1) := by decide +kernel
theorem d3_22 : decode prog_40_method_2_code 22 = .ok (.lxor, 1) := by decide +kernel
theorem d3_23 : decode prog_40_method_2_code 23 = .ok (.ldc2_w 15, 3) := by decide +kernel
theorem d3_26 : decode prog_40_method_2_code 26 = .ok (.lmul, 1) := by decide +kernel
theorem d3_27 : decode prog_40_method_2_code 27 = .ok (.lstore_n 1, 1) := by decide +kernel
theorem d3_28 : decode prog_40_method_2_code 28 = .ok (.lload_n 1, 1) := by decide +kernel
theorem d3_29 : decode prog_40_method_2_code 29 = .ok (.lload_n 1, 1) := by decide +kernel
theorem d3_30 : decode prog_40_method_2_code 30 = .ok (.bipush 27, 2) := by decide +kernel
theorem d3_32 : decode prog_40_method_2_code 32 = .ok (.lushr, 1) := by decide +kernel
theorem d3_33 : decode prog_40_method_2_code 33 = .ok (.lxor, 1) := by decide +kernel
theorem d3_34 : decode prog_40_method_2_code 34 = .ok (.ldc2_w 17, 3) := by decide +kernel
theorem d3_37 : decode prog_40_method_2_code 37 = .ok (.lmul, 1) := by decide +kernel
theorem d3_38 : decode prog_40_method_2_code 38 = .ok (.lstore_n 1, 1) := by decide +kernel
theorem d3_39 : decode prog_40_method_2_code 39 = .ok (.lload_n 1, 1) := by decide +kernel
theorem d3_40 : decode prog_40_method_2_code 40 = .ok (.lload_n 1, 1) := by decide +kernel
theorem d3_41 : decode prog_40_method_2_code 41 = .ok (.bipush 31, 2) := by decide +kernel
theorem d3_43 : decode prog_40_method_2_code 43 = .ok (.lushr, 1) := by decide +kernel
theorem d3_44 : decode prog_40_method_2_code 44 = .ok (.lxor, 1) := by decide +kernel
theorem d3_45 : decode prog_40_method_2_code 45 = .ok (.lreturn, 1) := by decide +kernel
theorem pn_com_example_lianzhuang_lianzhuang_simulation_SeededRandomNextLongPinLaw : plainName "com/example/lianzhuang/lianzhuang/simulation/SeededRandomNextLongPinLaw" = true := by first | (simp [plainName, overriddenIn]; done) | decide +kernel
abbrev K2 (p0 : Int64) : Array Slot := #[.val (.long p0), .second, .unset, .unset]
theorem d5_0 : decode method_2_code 0 = .ok (.lload_n 0, 1) := by decide +kernel
theorem d5_1 : decode method_2_code 1 = .ok (.lstore_n 2, 1) := by decide +kernel
abbrev K3 (p0 : Int64) (p1 : Int64) : Array Slot := #[.val (.long p0), .second, .val (.long p1), .second]
theorem d5_2 : decode method_2_code 2 = .ok (.lload_n 2, 1) := by decide +kernel
theorem d5_3 : decode method_2_code 3 = .ok (.ldc2_w 7, 3) := by decide +kernel
theorem d5_6 : decode method_2_code 6 = .ok (.lload_n 0, 1) := by decide +kernel
theorem d5_7 : decode method_2_code 7 = .ok (.lload_n 2, 1) := by decide +kernel
theorem d5_8 : decode method_2_code 8 = .ok (.lmul, 1) := by decide +kernel
theorem d5_9 : decode method_2_code 9 = .ok (.lsub, 1) := by decide +kernel
theorem d5_10 : decode method_2_code 10 = .ok (.lmul, 1) := by decide +kernel
theorem d5_11 : decode method_2_code 11 = .ok (.lstore_n 2, 1) := by decide +kernel
theorem d5_12 : decode method_2_code 12 = .ok (.lload_n 2, 1) := by decide +kernel
theorem d5_13 : decode method_2_code 13 = .ok (.ldc2_w 7, 3) := by decide +kernel
theorem d5_16 : decode method_2_code 16 = .ok (.lload_n 0, 1) := by decide +kernel
theorem d5_17 : decode method_2_code 17 = .ok (.lload_n 2, 1) := by decide +kernel
theorem d5_18 : decode method_2_code 18 = .ok (.lmul, 1) := by decide +kernel
theorem d5_19 : decode method_2_code 19 = .ok (.lsub, 1) := by decide +kernel
theorem d5_20 : decode method_2_code 20 = .ok (.lmul, 1) := by decide +kernel
theorem d5_21 : decode method_2_code 21 = .ok (.lstore_n 2, 1) := by decide +kernel
theorem d5_22 : decode method_2_code 22 = .ok (.lload_n 2, 1) := by decide +kernel
theorem d5_23 : decode method_2_code 23 = .ok (.ldc2_w 7, 3) := by decide +kernel
theorem d5_26 : decode method_2_code 26 = .ok (.lload_n 0, 1) := by decide +kernel
theorem d5_27 : decode method_2_code 27 = .ok (.lload_n 2, 1) := by decide +kernel
theorem d5_28 : decode method_2_code 28 = .ok (.lmul, 1) := by decide +kernel
theorem d5_29 : decode method_2_code 29 = .ok (.lsub, 1) := by decide +kernel
theorem d5_30 : decode method_2_code 30 = .ok (.lmul, 1) := by decide +kernel
theorem d5_31 : decode method_2_code 31 = .ok (.lstore_n 2, 1) := by decide +kernel
theorem d5_32 : decode method_2_code 32 = .ok (.lload_n 2, 1) := by decide +kernel
theorem d5_33 : decode method_2_code 33 = .ok (.ldc2_w 7, 3) := by decide +kernel
theorem d5_36 : decode method_2_code 36 = .ok (.lload_n 0, 1) := by decide +kernel
theorem d5_37 : decode method_2_code 37 = .ok (.lload_n 2, 1) := by decide +kernel
theorem d5_38 : decode method_2_code 38 = .ok (.lmul, 1) := by decide +kernel
theorem d5_39 : decode method_2_code 39 = .ok (.lsub, 1) := by decide +kernel
theorem d5_40 : decode method_2_code 40 = .ok (.lmul, 1) := by decide +kernel
theorem d5_41 : decode method_2_code 41 = .ok (.lstore_n 2, 1) := by decide +kernel
theorem d5_42 : decode method_2_code 42 = .ok (.lload_n 2, 1) := by decide +kernel
theorem d5_43 : decode method_2_code 43 = .ok (.ldc2_w 7, 3) := by decide +kernel
theorem d5_46 : decode method_2_code 46 = .ok (.lload_n 0, 1) := by decide +kernel
theorem d5_47 : decode method_2_code 47 = .ok (.lload_n 2, 1) := by decide +kernel
theorem d5_48 : decode method_2_code 48 = .ok (.lmul, 1) := by decide +kernel
theorem d5_49 : decode method_2_code 49 = .ok (.lsub, 1) := by decide +kernel
theorem d5_50 : decode method_2_code 50 = .ok (.lmul, 1) := by decide +kernel
theorem d5_51 : decode method_2_code 51 = .ok (.lstore_n 2, 1) := by decide +kernel
theorem d5_52 : decode method_2_code 52 = .ok (.lload_n 2, 1) := by decide +kernel
theorem d5_53 : decode method_2_code 53 = .ok (.lreturn, 1) := by decide +kernel
theorem d4_0 : decode method_3_code 0 = .ok (.lload_n 0, 1) := by decide +kernel
theorem d4_1 : decode method_3_code 1 = .ok (.lload_n 0, 1) := by decide +kernel
theorem d4_2 : decode method_3_code 2 = .ok (.bipush 31, 2) := by decide +kernel
theorem d4_4 : decode method_3_code 4 = .ok (.lushr, 1) := by decide +kernel
theorem d4_5 : decode method_3_code 5 = .ok (.lxor, 1) := by decide +kernel
theorem d4_6 : decode method_3_code 6 = .ok (.lload_n 0, 1) := by decide +kernel
theorem d4_7 : decode method_3_code 7 = .ok (.bipush 62, 2) := by decide +kernel
theorem d4_9 : decode method_3_code 9 = .ok (.lushr, 1) := by decide +kernel
theorem d4_10 : decode method_3_code 10 = .ok (.lxor, 1) := by decide +kernel
theorem d4_11 : decode method_3_code 11 = .ok (.lstore_n 2, 1) := by decide +kernel
theorem d4_12 : decode method_3_code 12 = .ok (.lload_n 2, 1) := by decide +kernel
theorem d4_13 : decode method_3_code 13 = .ok (.ldc2_w 9, 3) := by decide +kernel
theorem pd_28J29J : parseMethodDescriptor "(J)J" = some ⟨[.long], some .long⟩ := by decide +kernel
theorem d4_16 : decode method_3_code 16 = .ok (.invokestatic 11, 3) := by decide +kernel
theorem d4_19 : decode method_3_code 19 = .ok (.lmul, 1) := by decide +kernel
theorem d4_20 : decode method_3_code 20 = .ok (.lstore_n 2, 1) := by decide +kernel
theorem d4_21 : decode method_3_code 21 = .ok (.lload_n 2, 1) := by decide +kernel
theorem d4_22 : decode method_3_code 22 = .ok (.lload_n 2, 1) := by decide +kernel
theorem d4_23 : decode method_3_code 23 = .ok (.bipush 27, 2) := by decide +kernel
theorem d4_25 : decode method_3_code 25 = .ok (.lushr, 1) := by decide +kernel
theorem d4_26 : decode method_3_code 26 = .ok (.lxor, 1) := by decide +kernel
theorem d4_27 : decode method_3_code 27 = .ok (.lload_n 2, 1) := by decide +kernel
theorem d4_28 : decode method_3_code 28 = .ok (.bipush 54, 2) := by decide +kernel
theorem d4_30 : decode method_3_code 30 = .ok (.lushr, 1) := by decide +kernel
theorem d4_31 : decode method_3_code 31 = .ok (.lxor, 1) := by decide +kernel
theorem d4_32 : decode method_3_code 32 = .ok (.lstore_n 2, 1) := by decide +kernel
theorem d4_33 : decode method_3_code 33 = .ok (.lload_n 2, 1) := by decide +kernel
theorem d4_34 : decode method_3_code 34 = .ok (.ldc2_w 17, 3) := by decide +kernel
theorem d4_37 : decode method_3_code 37 = .ok (.invokestatic 11, 3) := by decide +kernel
theorem d4_40 : decode method_3_code 40 = .ok (.lmul, 1) := by decide +kernel
theorem d4_41 : decode method_3_code 41 = .ok (.lstore_n 2, 1) := by decide +kernel
theorem d4_42 : decode method_3_code 42 = .ok (.lload_n 2, 1) := by decide +kernel
theorem d4_43 : decode method_3_code 43 = .ok (.lload_n 2, 1) := by decide +kernel
theorem d4_44 : decode method_3_code 44 = .ok (.bipush 30, 2) := by decide +kernel
theorem d4_46 : decode method_3_code 46 = .ok (.lushr, 1) := by decide +kernel
theorem d4_47 : decode method_3_code 47 = .ok (.lxor, 1) := by decide +kernel
theorem d4_48 : decode method_3_code 48 = .ok (.lload_n 2, 1) := by decide +kernel
theorem d4_49 : decode method_3_code 49 = .ok (.bipush 60, 2) := by decide +kernel
theorem d4_51 : decode method_3_code 51 = .ok (.lushr, 1) := by decide +kernel
theorem d4_52 : decode method_3_code 52 = .ok (.lxor, 1) := by decide +kernel
theorem d4_53 : decode method_3_code 53 = .ok (.lreturn, 1) := by decide +kernel
abbrev K4 (p0 : Int64) : Array Slot := #[.val (.long p0), .second, .unset, .unset, .unset, .unset, .unset, .unset, .unset]
abbrev K5 (p0 : Int64) (p1 : Int64) : Array Slot := #[.val (.long p0), .second, .val (.long p1), .second, .unset, .unset, .unset, .unset, .unset]
theorem pd_28J29V : parseMethodDescriptor "(J)V" = some ⟨[.long], none⟩ := by decide +kernel
abbrev K6 (p0 : Int64) (p1 : Int64) (p2 : Addr) : Array Slot := #[.val (.long p0), .second, .val (.long p1), .second, .val (.ref p2), .unset, .unset, .unset, .unset]
theorem pd_2829J : parseMethodDescriptor "()J" = some ⟨[], some .long⟩ := by decide +kernel
abbrev K7 (p0 : Int64) (p1 : Int64) (p2 : Addr) (p3 : Int64) : Array Slot := #[.val (.long p0), .second, .val (.long p1), .second, .val (.ref p2), .val (.long p3), .second, .unset, .unset]
abbrev K8 (p0 : Int64) (p1 : Int64) (p2 : Addr) (p3 : Int64) (p4 : Int64) : Array Slot := #[.val (.long p0), .second, .val (.long p1), .second, .val (.ref p2), .val (.long p3), .second, .val (.long p4), .second]
def Q1 (Z : State) (a1 : Addr) (q1 : Int64) (h0 : Heap) (n0 : Nat) (v : Option Value) (h : Heap) (L : List Loc) : Prop := v = none ∧ Fr n0 L ∧ (Keep h0 h [a1]) ∧ (Exa Z h a1 "com/example/lianzhuang/lianzhuang/simulation/SeededRandom") ∧ (Fld Z h a1 "com/example/lianzhuang/lianzhuang/simulation/SeededRandom" "state" "J" (.long q1))
theorem ef1_rm1 (m : MethodId) (a1 : Addr) (q1 : Int64) : entryFrame m #[(.ref a1), (.long q1)] 3 = (mkF m 0 #[.val (.ref a1), .val (.long q1), .second] []) := by first | (simp [entryFrame, mkF, argsToLocals, Value.category, maxLocals]; done) | rfl
set_option maxRecDepth 65536 in
set_option maxHeartbeats 40000000 in
theorem rm1 (l : Launch) (Z : State) (a0 : Array Value) (hw : ∀ d ∈ tables_1, d.before a0 Z = true) (ws : List Jvm.Cond) (a1 : Addr) (q1 : Int64)  (h0 : Heap) (n0 : Nat) (P0 : Exa Z h0 a1 "com/example/lianzhuang/lianzhuang/simulation/SeededRandom") (P1 : Fld Z h0 a1 "com/example/lianzhuang/lianzhuang/simulation/SeededRandom" "state" "J" (.long (0 : Int64))) (g_a1 : n0 ≤ a1)   :
    MetFree l (⟨"com/example/lianzhuang/lianzhuang/simulation/SeededRandom", "<init>", "(J)V"⟩ : MethodName) (head1 (Jvm.Cond.code (⟨"com/example/lianzhuang/lianzhuang/simulation/SeededRandom", "<init>", "(J)V"⟩ : MethodName) prog_40_method_1_code 3 none :: ws) ({ frames := 1, cells := 0, slots := 0, locals := 12 } : Room)) (fun a U => a = #[(.ref a1), (.long q1)] ∧ Z.Warmed39 U.vm ∧ U.heap = h0) (fun _ _ _ _ _ => True) (fun _ U o U' => ∃ v L, o = .returned v ∧ (Q1 Z a1 q1 h0 n0) v U'.heap L ∧ FrameEnd U o U' L 0 0) := by
  refine MetFree.of_bodySF (plainFor_of_name pn_com_example_lianzhuang_lianzhuang_simulation_SeededRandom) hisR ?_
  intro p e s m args below meth c s₁ Bd hml0 hP hK
  obtain ⟨rfl, hZ, hh⟩ := hP
  have hx := Bd.exec
  have hby := Bd.bytes
  have hml : c.maxLocals = 3 := hml0
  have hown : s.vm.findClass "com/example/lianzhuang/lianzhuang/simulation/SeededRandom" = some m.cls := findClass_of_methodNamed Bd.named
  have hnm := (name_of_methodNamed Bd.named Bd.method).1
  have X0 : Stand p l e ({ frames := 1, cells := 0, slots := 0, locals := 12 } : Room) s m #[(.ref a1), (.long q1)] below meth c s₁ [] 0 0 := Stand.of_body Bd
  have e0 : s₁.heap = h0 := by rw [← hh, Bd.state]; rfl
  have N0 := Fr.nil n0
  refine GoW.mk ?_
  refine GoW.st (fun t k => castTop (ef1_rm1 m a1 q1) k) ?_
  show GoW p e below s (Q1 Z a1 q1 h0 n0) 0 0 (s₁.setTop (mkF m 0 (K0 a1 q1) []))
  refine GoW.sg (mkF m 1 (K0 a1 q1) [(.ref a1)]) (fun t k => XS.aloadN X0.here hx rfl (hb hby d1_0) rfl rfl k) ?_
  obtain ⟨T1, X1, e1, st1⟩ := initO X0 hx hZ hown (ww hw 7 rfl) (ww hw 8 rfl) (ww hw 9 rfl) e0 (g := (mkF m 1 (K0 a1 q1) [(.ref a1)])) rfl (by rw [hml]; rfl) rfl (hb hby d1_1) (by decide) (W := 0) (by show 2 * 0 + _ ≤ _; exact Nat.le_of_eq rfl) (by decide)
  refine GoW.sg (mkF m 4 (K0 a1 q1) []) (fun t k => st1 t k) ?_
  refine GoW.sg (mkF m 5 (K0 a1 q1) [(.ref a1)]) (fun t k => XS.aloadN X1.here hx rfl (hb hby d1_4) rfl rfl k) ?_
  refine GoW.sg (mkF m 6 (K0 a1 q1) [(.long q1), (.ref a1)]) (fun t k => XS.lloadN X1.here hx rfl (hb hby d1_5) rfl k) ?_
  obtain ⟨T2, h2, X2, e2, W2, st2⟩ := putF X1 hx hZ hown (host := "") (Or.inl (ww hw 10 rfl)) Via.refl e1 P1 P0 (Or.inl (ww hw 11 rfl)) (ww hw 2 rfl) (ty := .long) (by decide) rfl rfl (g := (mkF m 6 (K0 a1 q1) [(.long q1), (.ref a1)])) rfl rfl (hb hby d1_6)
  have N2 := Fr.snoc X2 N0 g_a1
  have Exa_a1_2 : Exa Z h2 a1 "com/example/lianzhuang/lianzhuang/simulation/SeededRandom" := P0.wr W2
  have Keep_2 : Keep h0 h2 [a1] := (Keep.refl h0 [a1]).wr W2 (Or.inl (List.mem_of_getElem? (i := 0) rfl))
  have Fld_a1_state_2 : Fld Z h2 a1 "com/example/lianzhuang/lianzhuang/simulation/SeededRandom" "state" "J" (.long q1) := P1.same W2
  refine GoW.sg (mkF m 9 (K0 a1 q1) []) (fun t k => st2 t k) ?_
  refine GoW.retV X2 hx Bd.returns (hb hby d1_9) Bd.notSynchronized ?_ (by decide) (by decide)
  rw [e2]
  exact ⟨rfl, N2, Keep_2, Exa_a1_2, Fld_a1_state_2⟩
def F3_3 (w : Int64) (z6 : Int64) (z7 : Int64) (z8 : Int64) : Int64 := (z8 ^^^ (z8.toUInt64 >>> ((31 : Int32) &&& 0x3f).toInt64.toUInt64).toInt64)
def F3_2 (w : Int64) (z6 : Int64) (z7 : Int64) : Int64 := (F3_3 w z6 z7 ((z7 ^^^ (z7.toUInt64 >>> ((27 : Int32) &&& 0x3f).toInt64.toUInt64).toInt64) * (-7723592293110705685 : Int64)))
def F3_1 (w : Int64) (z6 : Int64) : Int64 := (F3_2 w z6 ((z6 ^^^ (z6.toUInt64 >>> ((30 : Int32) &&& 0x3f).toInt64.toUInt64).toInt64) * (-4658895280553007687 : Int64)))
def F3 (w : Int64) : Int64 := (F3_1 w (w + (-7046029254386353131 : Int64)))
def Q3 (Z : State) (a1 : Addr) (w : Int64) (h0 : Heap) (n0 : Nat) (v : Option Value) (h : Heap) (L : List Loc) : Prop := v = some (.long (F3 w)) ∧ Fr n0 L ∧ (Keep h0 h [a1]) ∧ (Exa Z h a1 "com/example/lianzhuang/lianzhuang/simulation/SeededRandom") ∧ (Fld Z h a1 "com/example/lianzhuang/lianzhuang/simulation/SeededRandom" "state" "J" (.long (w + (-7046029254386353131 : Int64))))
theorem ef3_rm3 (m : MethodId) (a1 : Addr) : entryFrame m #[(.ref a1)] 3 = (mkF m 0 #[.val (.ref a1), .unset, .unset] []) := by first | (simp [entryFrame, mkF, argsToLocals, Value.category, maxLocals]; done) | rfl
set_option maxRecDepth 65536 in
set_option maxHeartbeats 40000000 in
theorem rm3 (l : Launch) (Z : State) (a0 : Array Value) (hw : ∀ d ∈ tables_1, d.before a0 Z = true) (ws : List Jvm.Cond) (a1 : Addr) (w : Int64) (h0 : Heap) (n0 : Nat) (P0 : Exa Z h0 a1 "com/example/lianzhuang/lianzhuang/simulation/SeededRandom") (P1 : Fld Z h0 a1 "com/example/lianzhuang/lianzhuang/simulation/SeededRandom" "state" "J" (.long w)) (g_a1 : n0 ≤ a1)   :
    MetFree l (⟨"com/example/lianzhuang/lianzhuang/simulation/SeededRandom", "nextLong", "()J"⟩ : MethodName) (head1 (Jvm.Cond.code (⟨"com/example/lianzhuang/lianzhuang/simulation/SeededRandom", "nextLong", "()J"⟩ : MethodName) prog_40_method_2_code 3 (some .long) :: ws) ({ frames := 0, cells := 0, slots := 0, locals := 0 } : Room)) (fun a U => a = #[(.ref a1)] ∧ Z.Warmed39 U.vm ∧ U.heap = h0) (fun _ _ _ _ _ => True) (fun _ U o U' => ∃ v L, o = .returned v ∧ (Q3 Z a1 w h0 n0) v U'.heap L ∧ FrameEnd U o U' L 0 0) := by
  refine MetFree.of_bodySF (plainFor_of_name pn_com_example_lianzhuang_lianzhuang_simulation_SeededRandom) hisR ?_
  intro p e s m args below meth c s₁ Bd hml0 hP hK
  obtain ⟨rfl, hZ, hh⟩ := hP
  have hx := Bd.exec
  have hby := Bd.bytes
  have hml : c.maxLocals = 3 := hml0
  have hown : s.vm.findClass "com/example/lianzhuang/lianzhuang/simulation/SeededRandom" = some m.cls := findClass_of_methodNamed Bd.named
  have hnm := (name_of_methodNamed Bd.named Bd.method).1
  have X0 : Stand p l e ({ frames := 0, cells := 0, slots := 0, locals := 0 } : Room) s m #[(.ref a1)] below meth c s₁ [] 0 0 := Stand.of_body Bd
  have e0 : s₁.heap = h0 := by rw [← hh, Bd.state]; rfl
  have N0 := Fr.nil n0
  refine GoW.mk ?_
  refine GoW.st (fun t k => castTop (ef3_rm3 m a1) k) ?_
  show GoW p e below s (Q3 Z a1 w h0 n0) 0 0 (s₁.setTop (mkF m 0 (K1 a1) []))
  refine GoW.sg (mkF m 1 (K1 a1) [(.ref a1)]) (fun t k => XS.aloadN X0.here hx rfl (hb hby d3_0) rfl rfl k) ?_
  refine GoW.sg (mkF m 2 (K1 a1) [(.ref a1), (.ref a1)]) (fun t k => XS.dup X0.here hx rfl (hb hby d3_1) rfl rfl k) ?_
  obtain ⟨T3, X3, e3, st3⟩ := getF X0 hx hZ hown (host := "") (Or.inl (ww hw 10 rfl)) Via.refl e0 P1 (g := (mkF m 2 (K1 a1) [(.ref a1), (.ref a1)])) rfl rfl (hb hby d3_2)
  refine GoW.sg (mkF m 5 (K1 a1) [(.long w), (.ref a1)]) (fun t k => st3 t k) ?_
  refine GoW.sg (mkF m 8 (K1 a1) [(.long (-7046029254386353131)), (.long w), (.ref a1)]) (fun t k => X3.ldc2Long hx hown (mvT hZ (ww hw 17 rfl)) (g := (mkF m 5 (K1 a1) [(.long w), (.ref a1)])) rfl (hb hby d3_5) t k) ?_
  refine GoW.sg (mkF m 9 (K1 a1) [(.long (w + (-7046029254386353131 : Int64))), (.ref a1)]) (fun t k => XS.ladd X3.here hx rfl (hb hby d3_8) rfl k) ?_
  obtain ⟨T4, h4, X4, e4, W4, st4⟩ := putF X3 hx hZ hown (host := "") (Or.inl (ww hw 10 rfl)) Via.refl e3 P1 P0 (Or.inl (ww hw 11 rfl)) (ww hw 2 rfl) (ty := .long) (by decide) rfl rfl (g := (mkF m 9 (K1 a1) [(.long (w + (-7046029254386353131 : Int64))), (.ref a1)])) rfl rfl (hb hby d3_9)
  have N4 := Fr.snoc X4 N0 g_a1
  have Exa_a1_4 : Exa Z h4 a1 "com/example/lianzhuang/lianzhuang/simulation/SeededRandom" := P0.wr W4
  have Keep_4 : Keep h0 h4 [a1] := (Keep.refl h0 [a1]).wr W4 (Or.inl (List.mem_of_getElem? (i := 0) rfl))
  have Fld_a1_state_4 : Fld Z h4 a1 "com/example/lianzhuang/lianzhuang/simulation/SeededRandom" "state" "J" (.long (w + (-7046029254386353131 : Int64))) := P1.same W4
  refine GoW.sg (mkF m 12 (K1 a1) []) (fun t k => st4 t k) ?_
  refine GoW.sg (mkF m 13 (K1 a1) [(.ref a1)]) (fun t k => XS.aloadN X4.here hx rfl (hb hby d3_12) rfl rfl k) ?_
  obtain ⟨T5, X5, e5, st5⟩ := getF X4 hx hZ hown (host := "") (Or.inl (ww hw 10 rfl)) Via.refl e4 Fld_a1_state_4 (g := (mkF m 13 (K1 a1) [(.ref a1)])) rfl rfl (hb hby d3_13)
  refine GoW.sg (mkF m 16 (K1 a1) [(.long (w + (-7046029254386353131 : Int64)))]) (fun t k => st5 t k) ?_
  refine GoW.sg (mkF m 17 (K0 a1 (w + (-7046029254386353131 : Int64))) []) (fun t k => XS.lstoreN X5.here hx rfl (hb hby d3_16) rfl (l' := (K0 a1 (w + (-7046029254386353131 : Int64)))) rfl k) ?_
  obtain ⟨z6, hz6⟩ : ∃ z : Int64, z = (w + (-7046029254386353131 : Int64)) := ⟨_, rfl⟩
  rw [← hz6]
  have hFz6 : (F3 w) = (F3_1 w z6) := by unfold F3; rw [hz6]
  show GoW p e below s (Q3 Z a1 w h0 n0) 0 0 (T5.setTop (mkF m 17 (K0 a1 z6) []))
  refine GoW.sg (mkF m 18 (K0 a1 z6) [(.long z6)]) (fun t k => XS.lloadN X5.here hx rfl (hb hby d3_17) rfl k) ?_
  refine GoW.sg (mkF m 19 (K0 a1 z6) [(.long z6), (.long z6)]) (fun t k => XS.lloadN X5.here hx rfl (hb hby d3_18) rfl k) ?_
  refine GoW.sg (mkF m 21 (K0 a1 z6) [(.int 30), (.long z6), (.long z6)]) (fun t k => XS.bipush X5.here hx rfl (hb hby d3_19) k) ?_
  refine GoW.sg (mkF m 22 (K0 a1 z6) [(.long (z6.toUInt64 >>> ((30 : Int32) &&& 0x3f).toInt64.toUInt64).toInt64), (.long z6)]) (fun t k => XS.lushr X5.here hx rfl (hb hby d3_21) rfl k) ?_
  refine GoW.sg (mkF m 23 (K0 a1 z6) [(.long (z6 ^^^ (z6.toUInt64 >>> ((30 : Int32) &&& 0x3f).toInt64.toUInt64).toInt64))]) (fun t k => XS.lxor X5.here hx rfl (hb hby d3_22) rfl k) ?_
  refine GoW.sg (mkF m 26 (K0 a1 z6) [(.long (-4658895280553007687)), (.long (z6 ^^^ (z6.toUInt64 >>> ((30 : Int32) &&& 0x3f).toInt64.toUInt64).toInt64))]) (fun t k => X5.ldc2Long hx hown (mvT hZ (ww hw 18 rfl)) (g := (mkF m 23 (K0 a1 z6) [(.long (z6 ^^^ (z6.toUInt64 >>> ((30 : Int32) &&& 0x3f).toInt64.toUInt64).toInt64))])) rfl (hb hby d3_23) t k) ?_
  refine GoW.sg (mkF m 27 (K0 a1 z6) [(.long ((z6 ^^^ (z6.toUInt64 >>> ((30 : Int32) &&& 0x3f).toInt64.toUInt64).toInt64) * (-4658895280553007687 : Int64)))]) (fun t k => XS.lmul X5.here hx rfl (hb hby d3_26) rfl k) ?_
  refine GoW.sg (mkF m 28 (K0 a1 ((z6 ^^^ (z6.toUInt64 >>> ((30 : Int32) &&& 0x3f).toInt64.toUInt64).toInt64) * (-4658895280553007687 : Int64))) []) (fun t k => XS.lstoreN X5.here hx rfl (hb hby d3_27) rfl (l' := (K0 a1 ((z6 ^^^ (z6.toUInt64 >>> ((30 : Int32) &&& 0x3f).toInt64.toUInt64).toInt64) * (-4658895280553007687 : Int64)))) rfl k) ?_
  obtain ⟨z7, hz7⟩ : ∃ z : Int64, z = ((z6 ^^^ (z6.toUInt64 >>> ((30 : Int32) &&& 0x3f).toInt64.toUInt64).toInt64) * (-4658895280553007687 : Int64)) := ⟨_, rfl⟩
  rw [← hz7]
  have hFz7 : (F3_1 w z6) = (F3_2 w z6 z7) := by unfold F3_1; rw [hz7]
  show GoW p e below s (Q3 Z a1 w h0 n0) 0 0 (T5.setTop (mkF m 28 (K0 a1 z7) []))
  refine GoW.sg (mkF m 29 (K0 a1 z7) [(.long z7)]) (fun t k => XS.lloadN X5.here hx rfl (hb hby d3_28) rfl k) ?_
  refine GoW.sg (mkF m 30 (K0 a1 z7) [(.long z7), (.long z7)]) (fun t k => XS.lloadN X5.here hx rfl (hb hby d3_29) rfl k) ?_
  refine GoW.sg (mkF m 32 (K0 a1 z7) [(.int 27), (.long z7), (.long z7)]) (fun t k => XS.bipush X5.here hx rfl (hb hby d3_30) k) ?_
  refine GoW.sg (mkF m 33 (K0 a1 z7) [(.long (z7.toUInt64 >>> ((27 : Int32) &&& 0x3f).toInt64.toUInt64).toInt64), (.long z7)]) (fun t k => XS.lushr X5.here hx rfl (hb hby d3_32) rfl k) ?_
  refine GoW.sg (mkF m 34 (K0 a1 z7) [(.long (z7 ^^^ (z7.toUInt64 >>> ((27 : Int32) &&& 0x3f).toInt64.toUInt64).toInt64))]) (fun t k => XS.lxor X5.here hx rfl (hb hby d3_33) rfl k) ?_
  refine GoW.sg (mkF m 37 (K0 a1 z7) [(.long (-7723592293110705685)), (.long (z7 ^^^ (z7.toUInt64 >>> ((27 : Int32) &&& 0x3f).toInt64.toUInt64).toInt64))]) (fun t k => X5.ldc2Long hx hown (mvT hZ (ww hw 19 rfl)) (g := (mkF m 34 (K0 a1 z7) [(.long (z7 ^^^ (z7.toUInt64 >>> ((27 : Int32) &&& 0x3f).toInt64.toUInt64).toInt64))])) rfl (hb hby d3_34) t k) ?_
  refine GoW.sg (mkF m 38 (K0 a1 z7) [(.long ((z7 ^^^ (z7.toUInt64 >>> ((27 : Int32) &&& 0x3f).toInt64.toUInt64).toInt64) * (-7723592293110705685 : Int64)))]) (fun t k => XS.lmul X5.here hx rfl (hb hby d3_37) rfl k) ?_
  refine GoW.sg (mkF m 39 (K0 a1 ((z7 ^^^ (z7.toUInt64 >>> ((27 : Int32) &&& 0x3f).toInt64.toUInt64).toInt64) * (-7723592293110705685 : Int64))) []) (fun t k => XS.lstoreN X5.here hx rfl (hb hby d3_38) rfl (l' := (K0 a1 ((z7 ^^^ (z7.toUInt64 >>> ((27 : Int32) &&& 0x3f).toInt64.toUInt64).toInt64) * (-7723592293110705685 : Int64)))) rfl k) ?_
  obtain ⟨z8, hz8⟩ : ∃ z : Int64, z = ((z7 ^^^ (z7.toUInt64 >>> ((27 : Int32) &&& 0x3f).toInt64.toUInt64).toInt64) * (-7723592293110705685 : Int64)) := ⟨_, rfl⟩
  rw [← hz8]
  have hFz8 : (F3_2 w z6 z7) = (F3_3 w z6 z7 z8) := by unfold F3_2; rw [hz8]
  show GoW p e below s (Q3 Z a1 w h0 n0) 0 0 (T5.setTop (mkF m 39 (K0 a1 z8) []))
  refine GoW.sg (mkF m 40 (K0 a1 z8) [(.long z8)]) (fun t k => XS.lloadN X5.here hx rfl (hb hby d3_39) rfl k) ?_
  refine GoW.sg (mkF m 41 (K0 a1 z8) [(.long z8), (.long z8)]) (fun t k => XS.lloadN X5.here hx rfl (hb hby d3_40) rfl k) ?_
  refine GoW.sg (mkF m 43 (K0 a1 z8) [(.int 31), (.long z8), (.long z8)]) (fun t k => XS.bipush X5.here hx rfl (hb hby d3_41) k) ?_
  refine GoW.sg (mkF m 44 (K0 a1 z8) [(.long (z8.toUInt64 >>> ((31 : Int32) &&& 0x3f).toInt64.toUInt64).toInt64), (.long z8)]) (fun t k => XS.lushr X5.here hx rfl (hb hby d3_43) rfl k) ?_
  refine GoW.sg (mkF m 45 (K0 a1 z8) [(.long (z8 ^^^ (z8.toUInt64 >>> ((31 : Int32) &&& 0x3f).toInt64.toUInt64).toInt64))]) (fun t k => XS.lxor X5.here hx rfl (hb hby d3_44) rfl k) ?_
  refine GoW.retL X5 hx Bd.returns (hb hby d3_45) Bd.notSynchronized ?_ (by decide) (by decide)
  rw [e5]
  have hq : (F3 w) = (z8 ^^^ (z8.toUInt64 >>> ((31 : Int32) &&& 0x3f).toInt64.toUInt64).toInt64) := by rw [hFz6, hFz7, hFz8]; unfold F3_3; try rfl
  exact ⟨by rw [hq] <;> rfl, N4, Keep_4, Exa_a1_4, Fld_a1_state_4⟩
def F5_5 (q1 : Int64) (z9 : Int64) (z10 : Int64) (z11 : Int64) (z12 : Int64) (z13 : Int64) : Int64 := z13
def F5_4 (q1 : Int64) (z9 : Int64) (z10 : Int64) (z11 : Int64) (z12 : Int64) : Int64 := (F5_5 q1 z9 z10 z11 z12 (z12 * ((2 : Int64) - (q1 * z12))))
def F5_3 (q1 : Int64) (z9 : Int64) (z10 : Int64) (z11 : Int64) : Int64 := (F5_4 q1 z9 z10 z11 (z11 * ((2 : Int64) - (q1 * z11))))
def F5_2 (q1 : Int64) (z9 : Int64) (z10 : Int64) : Int64 := (F5_3 q1 z9 z10 (z10 * ((2 : Int64) - (q1 * z10))))
def F5_1 (q1 : Int64) (z9 : Int64) : Int64 := (F5_2 q1 z9 (z9 * ((2 : Int64) - (q1 * z9))))
def F5 (q1 : Int64) : Int64 := (F5_1 q1 (q1 * ((2 : Int64) - (q1 * q1))))
theorem ef5_rm5 (m : MethodId) (q1 : Int64) : entryFrame m #[(.long q1)] 4 = (mkF m 0 #[.val (.long q1), .second, .unset, .unset] []) := by first | (simp [entryFrame, mkF, argsToLocals, Value.category, maxLocals]; done) | rfl
set_option maxRecDepth 65536 in
set_option maxHeartbeats 40000000 in
theorem rm5 (l : Launch) (Z : State) (a0 : Array Value) (hw : ∀ d ∈ tables_1, d.before a0 Z = true) (ws : List Jvm.Cond) (q1 : Int64)  (h0 : Heap) (n0 : Nat)  :
    MetFree l (⟨"com/example/lianzhuang/lianzhuang/simulation/SeededRandomNextLongPinLaw", "inverseOdd", "(J)J"⟩ : MethodName) (head1 (Jvm.Cond.code (⟨"com/example/lianzhuang/lianzhuang/simulation/SeededRandomNextLongPinLaw", "inverseOdd", "(J)J"⟩ : MethodName) method_2_code 4 (some .long) :: ws) ({ frames := 0, cells := 0, slots := 0, locals := 0 } : Room)) (fun a U => a = #[(.long q1)] ∧ Z.Warmed39 U.vm ∧ U.heap = h0) (fun _ _ _ _ _ => True) (fun _ U o U' => ∃ v L, o = .returned v ∧ (PureQ (.long (F5 q1)) h0 n0) v U'.heap L ∧ FrameEnd U o U' L 0 0) := by
  refine MetFree.of_bodySF (plainFor_of_name pn_com_example_lianzhuang_lianzhuang_simulation_SeededRandomNextLongPinLaw) hisR ?_
  intro p e s m args below meth c s₁ Bd hml0 hP hK
  obtain ⟨rfl, hZ, hh⟩ := hP
  have hx := Bd.exec
  have hby := Bd.bytes
  have hml : c.maxLocals = 4 := hml0
  have hown : s.vm.findClass "com/example/lianzhuang/lianzhuang/simulation/SeededRandomNextLongPinLaw" = some m.cls := findClass_of_methodNamed Bd.named
  have hnm := (name_of_methodNamed Bd.named Bd.method).1
  have X0 : Stand p l e ({ frames := 0, cells := 0, slots := 0, locals := 0 } : Room) s m #[(.long q1)] below meth c s₁ [] 0 0 := Stand.of_body Bd
  have e0 : s₁.heap = h0 := by rw [← hh, Bd.state]; rfl
  have N0 := Fr.nil n0
  refine GoW.mk ?_
  refine GoW.st (fun t k => castTop (ef5_rm5 m q1) k) ?_
  show GoW p e below s (PureQ (.long (F5 q1)) h0 n0) 0 0 (s₁.setTop (mkF m 0 (K2 q1) []))
  refine GoW.sg (mkF m 1 (K2 q1) [(.long q1)]) (fun t k => XS.lloadN X0.here hx rfl (hb hby d5_0) rfl k) ?_
  refine GoW.sg (mkF m 2 (K3 q1 q1) []) (fun t k => XS.lstoreN X0.here hx rfl (hb hby d5_1) rfl (l' := (K3 q1 q1)) rfl k) ?_
  refine GoW.sg (mkF m 3 (K3 q1 q1) [(.long q1)]) (fun t k => XS.lloadN X0.here hx rfl (hb hby d5_2) rfl k) ?_
  refine GoW.sg (mkF m 6 (K3 q1 q1) [(.long 2), (.long q1)]) (fun t k => X0.ldc2Long hx hown (mvT hZ (ww hw 28 rfl)) (g := (mkF m 3 (K3 q1 q1) [(.long q1)])) rfl (hb hby d5_3) t k) ?_
  refine GoW.sg (mkF m 7 (K3 q1 q1) [(.long q1), (.long 2), (.long q1)]) (fun t k => XS.lloadN X0.here hx rfl (hb hby d5_6) rfl k) ?_
  refine GoW.sg (mkF m 8 (K3 q1 q1) [(.long q1), (.long q1), (.long 2), (.long q1)]) (fun t k => XS.lloadN X0.here hx rfl (hb hby d5_7) rfl k) ?_
  refine GoW.sg (mkF m 9 (K3 q1 q1) [(.long (q1 * q1)), (.long 2), (.long q1)]) (fun t k => XS.lmul X0.here hx rfl (hb hby d5_8) rfl k) ?_
  refine GoW.sg (mkF m 10 (K3 q1 q1) [(.long ((2 : Int64) - (q1 * q1))), (.long q1)]) (fun t k => XS.lsub X0.here hx rfl (hb hby d5_9) rfl k) ?_
  refine GoW.sg (mkF m 11 (K3 q1 q1) [(.long (q1 * ((2 : Int64) - (q1 * q1))))]) (fun t k => XS.lmul X0.here hx rfl (hb hby d5_10) rfl k) ?_
  refine GoW.sg (mkF m 12 (K3 q1 (q1 * ((2 : Int64) - (q1 * q1)))) []) (fun t k => XS.lstoreN X0.here hx rfl (hb hby d5_11) rfl (l' := (K3 q1 (q1 * ((2 : Int64) - (q1 * q1))))) rfl k) ?_
  obtain ⟨z9, hz9⟩ : ∃ z : Int64, z = (q1 * ((2 : Int64) - (q1 * q1))) := ⟨_, rfl⟩
  rw [← hz9]
  have hFz9 : (F5 q1) = (F5_1 q1 z9) := by unfold F5; rw [hz9]
  show GoW p e below s (PureQ (.long (F5 q1)) h0 n0) 0 0 (s₁.setTop (mkF m 12 (K3 q1 z9) []))
  refine GoW.sg (mkF m 13 (K3 q1 z9) [(.long z9)]) (fun t k => XS.lloadN X0.here hx rfl (hb hby d5_12) rfl k) ?_
  refine GoW.sg (mkF m 16 (K3 q1 z9) [(.long 2), (.long z9)]) (fun t k => X0.ldc2Long hx hown (mvT hZ (ww hw 28 rfl)) (g := (mkF m 13 (K3 q1 z9) [(.long z9)])) rfl (hb hby d5_13) t k) ?_
  refine GoW.sg (mkF m 17 (K3 q1 z9) [(.long q1), (.long 2), (.long z9)]) (fun t k => XS.lloadN X0.here hx rfl (hb hby d5_16) rfl k) ?_
  refine GoW.sg (mkF m 18 (K3 q1 z9) [(.long z9), (.long q1), (.long 2), (.long z9)]) (fun t k => XS.lloadN X0.here hx rfl (hb hby d5_17) rfl k) ?_
  refine GoW.sg (mkF m 19 (K3 q1 z9) [(.long (q1 * z9)), (.long 2), (.long z9)]) (fun t k => XS.lmul X0.here hx rfl (hb hby d5_18) rfl k) ?_
  refine GoW.sg (mkF m 20 (K3 q1 z9) [(.long ((2 : Int64) - (q1 * z9))), (.long z9)]) (fun t k => XS.lsub X0.here hx rfl (hb hby d5_19) rfl k) ?_
  refine GoW.sg (mkF m 21 (K3 q1 z9) [(.long (z9 * ((2 : Int64) - (q1 * z9))))]) (fun t k => XS.lmul X0.here hx rfl (hb hby d5_20) rfl k) ?_
  refine GoW.sg (mkF m 22 (K3 q1 (z9 * ((2 : Int64) - (q1 * z9)))) []) (fun t k => XS.lstoreN X0.here hx rfl (hb hby d5_21) rfl (l' := (K3 q1 (z9 * ((2 : Int64) - (q1 * z9))))) rfl k) ?_
  obtain ⟨z10, hz10⟩ : ∃ z : Int64, z = (z9 * ((2 : Int64) - (q1 * z9))) := ⟨_, rfl⟩
  rw [← hz10]
  have hFz10 : (F5_1 q1 z9) = (F5_2 q1 z9 z10) := by unfold F5_1; rw [hz10]
  show GoW p e below s (PureQ (.long (F5 q1)) h0 n0) 0 0 (s₁.setTop (mkF m 22 (K3 q1 z10) []))
  refine GoW.sg (mkF m 23 (K3 q1 z10) [(.long z10)]) (fun t k => XS.lloadN X0.here hx rfl (hb hby d5_22) rfl k) ?_
  refine GoW.sg (mkF m 26 (K3 q1 z10) [(.long 2), (.long z10)]) (fun t k => X0.ldc2Long hx hown (mvT hZ (ww hw 28 rfl)) (g := (mkF m 23 (K3 q1 z10) [(.long z10)])) rfl (hb hby d5_23) t k) ?_
  refine GoW.sg (mkF m 27 (K3 q1 z10) [(.long q1), (.long 2), (.long z10)]) (fun t k => XS.lloadN X0.here hx rfl (hb hby d5_26) rfl k) ?_
  refine GoW.sg (mkF m 28 (K3 q1 z10) [(.long z10), (.long q1), (.long 2), (.long z10)]) (fun t k => XS.lloadN X0.here hx rfl (hb hby d5_27) rfl k) ?_
  refine GoW.sg (mkF m 29 (K3 q1 z10) [(.long (q1 * z10)), (.long 2), (.long z10)]) (fun t k => XS.lmul X0.here hx rfl (hb hby d5_28) rfl k) ?_
  refine GoW.sg (mkF m 30 (K3 q1 z10) [(.long ((2 : Int64) - (q1 * z10))), (.long z10)]) (fun t k => XS.lsub X0.here hx rfl (hb hby d5_29) rfl k) ?_
  refine GoW.sg (mkF m 31 (K3 q1 z10) [(.long (z10 * ((2 : Int64) - (q1 * z10))))]) (fun t k => XS.lmul X0.here hx rfl (hb hby d5_30) rfl k) ?_
  refine GoW.sg (mkF m 32 (K3 q1 (z10 * ((2 : Int64) - (q1 * z10)))) []) (fun t k => XS.lstoreN X0.here hx rfl (hb hby d5_31) rfl (l' := (K3 q1 (z10 * ((2 : Int64) - (q1 * z10))))) rfl k) ?_
  obtain ⟨z11, hz11⟩ : ∃ z : Int64, z = (z10 * ((2 : Int64) - (q1 * z10))) := ⟨_, rfl⟩
  rw [← hz11]
  have hFz11 : (F5_2 q1 z9 z10) = (F5_3 q1 z9 z10 z11) := by unfold F5_2; rw [hz11]
  show GoW p e below s (PureQ (.long (F5 q1)) h0 n0) 0 0 (s₁.setTop (mkF m 32 (K3 q1 z11) []))
  refine GoW.sg (mkF m 33 (K3 q1 z11) [(.long z11)]) (fun t k => XS.lloadN X0.here hx rfl (hb hby d5_32) rfl k) ?_
  refine GoW.sg (mkF m 36 (K3 q1 z11) [(.long 2), (.long z11)]) (fun t k => X0.ldc2Long hx hown (mvT hZ (ww hw 28 rfl)) (g := (mkF m 33 (K3 q1 z11) [(.long z11)])) rfl (hb hby d5_33) t k) ?_
  refine GoW.sg (mkF m 37 (K3 q1 z11) [(.long q1), (.long 2), (.long z11)]) (fun t k => XS.lloadN X0.here hx rfl (hb hby d5_36) rfl k) ?_
  refine GoW.sg (mkF m 38 (K3 q1 z11) [(.long z11), (.long q1), (.long 2), (.long z11)]) (fun t k => XS.lloadN X0.here hx rfl (hb hby d5_37) rfl k) ?_
  refine GoW.sg (mkF m 39 (K3 q1 z11) [(.long (q1 * z11)), (.long 2), (.long z11)]) (fun t k => XS.lmul X0.here hx rfl (hb hby d5_38) rfl k) ?_
  refine GoW.sg (mkF m 40 (K3 q1 z11) [(.long ((2 : Int64) - (q1 * z11))), (.long z11)]) (fun t k => XS.lsub X0.here hx rfl (hb hby d5_39) rfl k) ?_
  refine GoW.sg (mkF m 41 (K3 q1 z11) [(.long (z11 * ((2 : Int64) - (q1 * z11))))]) (fun t k => XS.lmul X0.here hx rfl (hb hby d5_40) rfl k) ?_
  refine GoW.sg (mkF m 42 (K3 q1 (z11 * ((2 : Int64) - (q1 * z11)))) []) (fun t k => XS.lstoreN X0.here hx rfl (hb hby d5_41) rfl (l' := (K3 q1 (z11 * ((2 : Int64) - (q1 * z11))))) rfl k) ?_
  obtain ⟨z12, hz12⟩ : ∃ z : Int64, z = (z11 * ((2 : Int64) - (q1 * z11))) := ⟨_, rfl⟩
  rw [← hz12]
  have hFz12 : (F5_3 q1 z9 z10 z11) = (F5_4 q1 z9 z10 z11 z12) := by unfold F5_3; rw [hz12]
  show GoW p e below s (PureQ (.long (F5 q1)) h0 n0) 0 0 (s₁.setTop (mkF m 42 (K3 q1 z12) []))
  refine GoW.sg (mkF m 43 (K3 q1 z12) [(.long z12)]) (fun t k => XS.lloadN X0.here hx rfl (hb hby d5_42) rfl k) ?_
  refine GoW.sg (mkF m 46 (K3 q1 z12) [(.long 2), (.long z12)]) (fun t k => X0.ldc2Long hx hown (mvT hZ (ww hw 28 rfl)) (g := (mkF m 43 (K3 q1 z12) [(.long z12)])) rfl (hb hby d5_43) t k) ?_
  refine GoW.sg (mkF m 47 (K3 q1 z12) [(.long q1), (.long 2), (.long z12)]) (fun t k => XS.lloadN X0.here hx rfl (hb hby d5_46) rfl k) ?_
  refine GoW.sg (mkF m 48 (K3 q1 z12) [(.long z12), (.long q1), (.long 2), (.long z12)]) (fun t k => XS.lloadN X0.here hx rfl (hb hby d5_47) rfl k) ?_
  refine GoW.sg (mkF m 49 (K3 q1 z12) [(.long (q1 * z12)), (.long 2), (.long z12)]) (fun t k => XS.lmul X0.here hx rfl (hb hby d5_48) rfl k) ?_
  refine GoW.sg (mkF m 50 (K3 q1 z12) [(.long ((2 : Int64) - (q1 * z12))), (.long z12)]) (fun t k => XS.lsub X0.here hx rfl (hb hby d5_49) rfl k) ?_
  refine GoW.sg (mkF m 51 (K3 q1 z12) [(.long (z12 * ((2 : Int64) - (q1 * z12))))]) (fun t k => XS.lmul X0.here hx rfl (hb hby d5_50) rfl k) ?_
  refine GoW.sg (mkF m 52 (K3 q1 (z12 * ((2 : Int64) - (q1 * z12)))) []) (fun t k => XS.lstoreN X0.here hx rfl (hb hby d5_51) rfl (l' := (K3 q1 (z12 * ((2 : Int64) - (q1 * z12))))) rfl k) ?_
  obtain ⟨z13, hz13⟩ : ∃ z : Int64, z = (z12 * ((2 : Int64) - (q1 * z12))) := ⟨_, rfl⟩
  rw [← hz13]
  have hFz13 : (F5_4 q1 z9 z10 z11 z12) = (F5_5 q1 z9 z10 z11 z12 z13) := by unfold F5_4; rw [hz13]
  show GoW p e below s (PureQ (.long (F5 q1)) h0 n0) 0 0 (s₁.setTop (mkF m 52 (K3 q1 z13) []))
  refine GoW.sg (mkF m 53 (K3 q1 z13) [(.long z13)]) (fun t k => XS.lloadN X0.here hx rfl (hb hby d5_52) rfl k) ?_
  refine GoW.retL X0 hx Bd.returns (hb hby d5_53) Bd.notSynchronized ?_ (by decide) (by decide)
  have hq : (F5 q1) = z13 := by rw [hFz9, hFz10, hFz11, hFz12, hFz13]; unfold F5_5; try rfl
  exact ⟨by rw [hq] <;> rfl, N0, e0⟩
def F4_4 (q1 : Int64) (z14 : Int64) (z16 : Int64) (z17 : Int64) (z19 : Int64) : Int64 := ((z19 ^^^ (z19.toUInt64 >>> ((30 : Int32) &&& 0x3f).toInt64.toUInt64).toInt64) ^^^ (z19.toUInt64 >>> ((60 : Int32) &&& 0x3f).toInt64.toUInt64).toInt64)
def F4_3 (q1 : Int64) (z14 : Int64) (z16 : Int64) (z17 : Int64) : Int64 := (F4_4 q1 z14 z16 z17 (z17 * (F5 (-4658895280553007687 : Int64))))
def F4_2 (q1 : Int64) (z14 : Int64) (z16 : Int64) : Int64 := (F4_3 q1 z14 z16 ((z16 ^^^ (z16.toUInt64 >>> ((27 : Int32) &&& 0x3f).toInt64.toUInt64).toInt64) ^^^ (z16.toUInt64 >>> ((54 : Int32) &&& 0x3f).toInt64.toUInt64).toInt64))
def F4_1 (q1 : Int64) (z14 : Int64) : Int64 := (F4_2 q1 z14 (z14 * (F5 (-7723592293110705685 : Int64))))
def F4 (q1 : Int64) : Int64 := (F4_1 q1 ((q1 ^^^ (q1.toUInt64 >>> ((31 : Int32) &&& 0x3f).toInt64.toUInt64).toInt64) ^^^ (q1.toUInt64 >>> ((62 : Int32) &&& 0x3f).toInt64.toUInt64).toInt64))
theorem ef4_rm4 (m : MethodId) (q1 : Int64) : entryFrame m #[(.long q1)] 4 = (mkF m 0 #[.val (.long q1), .second, .unset, .unset] []) := by first | (simp [entryFrame, mkF, argsToLocals, Value.category, maxLocals]; done) | rfl
set_option maxRecDepth 65536 in
set_option maxHeartbeats 40000000 in
theorem rm4 (l : Launch) (Z : State) (a0 : Array Value) (hw : ∀ d ∈ tables_1, d.before a0 Z = true) (ws : List Jvm.Cond) (q1 : Int64)  (h0 : Heap) (n0 : Nat)  :
    MetFree l (⟨"com/example/lianzhuang/lianzhuang/simulation/SeededRandomNextLongPinLaw", "unmix", "(J)J"⟩ : MethodName) (head1 (Jvm.Cond.code (⟨"com/example/lianzhuang/lianzhuang/simulation/SeededRandomNextLongPinLaw", "unmix", "(J)J"⟩ : MethodName) method_3_code 4 (some .long) :: ws) ({ frames := 1, cells := 0, slots := 0, locals := 17 } : Room)) (fun a U => a = #[(.long q1)] ∧ Z.Warmed39 U.vm ∧ U.heap = h0) (fun _ _ _ _ _ => True) (fun _ U o U' => ∃ v L, o = .returned v ∧ (PureQ (.long (F4 q1)) h0 n0) v U'.heap L ∧ FrameEnd U o U' L 0 0) := by
  refine MetFree.of_bodySF (plainFor_of_name pn_com_example_lianzhuang_lianzhuang_simulation_SeededRandomNextLongPinLaw) hisR ?_
  intro p e s m args below meth c s₁ Bd hml0 hP hK
  obtain ⟨rfl, hZ, hh⟩ := hP
  have hx := Bd.exec
  have hby := Bd.bytes
  have hml : c.maxLocals = 4 := hml0
  have hown : s.vm.findClass "com/example/lianzhuang/lianzhuang/simulation/SeededRandomNextLongPinLaw" = some m.cls := findClass_of_methodNamed Bd.named
  have hnm := (name_of_methodNamed Bd.named Bd.method).1
  have X0 : Stand p l e ({ frames := 1, cells := 0, slots := 0, locals := 17 } : Room) s m #[(.long q1)] below meth c s₁ [] 0 0 := Stand.of_body Bd
  have e0 : s₁.heap = h0 := by rw [← hh, Bd.state]; rfl
  have N0 := Fr.nil n0
  refine GoW.mk ?_
  refine GoW.st (fun t k => castTop (ef4_rm4 m q1) k) ?_
  show GoW p e below s (PureQ (.long (F4 q1)) h0 n0) 0 0 (s₁.setTop (mkF m 0 (K2 q1) []))
  refine GoW.sg (mkF m 1 (K2 q1) [(.long q1)]) (fun t k => XS.lloadN X0.here hx rfl (hb hby d4_0) rfl k) ?_
  refine GoW.sg (mkF m 2 (K2 q1) [(.long q1), (.long q1)]) (fun t k => XS.lloadN X0.here hx rfl (hb hby d4_1) rfl k) ?_
  refine GoW.sg (mkF m 4 (K2 q1) [(.int 31), (.long q1), (.long q1)]) (fun t k => XS.bipush X0.here hx rfl (hb hby d4_2) k) ?_
  refine GoW.sg (mkF m 5 (K2 q1) [(.long (q1.toUInt64 >>> ((31 : Int32) &&& 0x3f).toInt64.toUInt64).toInt64), (.long q1)]) (fun t k => XS.lushr X0.here hx rfl (hb hby d4_4) rfl k) ?_
  refine GoW.sg (mkF m 6 (K2 q1) [(.long (q1 ^^^ (q1.toUInt64 >>> ((31 : Int32) &&& 0x3f).toInt64.toUInt64).toInt64))]) (fun t k => XS.lxor X0.here hx rfl (hb hby d4_5) rfl k) ?_
  refine GoW.sg (mkF m 7 (K2 q1) [(.long q1), (.long (q1 ^^^ (q1.toUInt64 >>> ((31 : Int32) &&& 0x3f).toInt64.toUInt64).toInt64))]) (fun t k => XS.lloadN X0.here hx rfl (hb hby d4_6) rfl k) ?_
  refine GoW.sg (mkF m 9 (K2 q1) [(.int 62), (.long q1), (.long (q1 ^^^ (q1.toUInt64 >>> ((31 : Int32) &&& 0x3f).toInt64.toUInt64).toInt64))]) (fun t k => XS.bipush X0.here hx rfl (hb hby d4_7) k) ?_
  refine GoW.sg (mkF m 10 (K2 q1) [(.long (q1.toUInt64 >>> ((62 : Int32) &&& 0x3f).toInt64.toUInt64).toInt64), (.long (q1 ^^^ (q1.toUInt64 >>> ((31 : Int32) &&& 0x3f).toInt64.toUInt64).toInt64))]) (fun t k => XS.lushr X0.here hx rfl (hb hby d4_9) rfl k) ?_
  refine GoW.sg (mkF m 11 (K2 q1) [(.long ((q1 ^^^ (q1.toUInt64 >>> ((31 : Int32) &&& 0x3f).toInt64.toUInt64).toInt64) ^^^ (q1.toUInt64 >>> ((62 : Int32) &&& 0x3f).toInt64.toUInt64).toInt64))]) (fun t k => XS.lxor X0.here hx rfl (hb hby d4_10) rfl k) ?_
  refine GoW.sg (mkF m 12 (K3 q1 ((q1 ^^^ (q1.toUInt64 >>> ((31 : Int32) &&& 0x3f).toInt64.toUInt64).toInt64) ^^^ (q1.toUInt64 >>> ((62 : Int32) &&& 0x3f).toInt64.toUInt64).toInt64)) []) (fun t k => XS.lstoreN X0.here hx rfl (hb hby d4_11) rfl (l' := (K3 q1 ((q1 ^^^ (q1.toUInt64 >>> ((31 : Int32) &&& 0x3f).toInt64.toUInt64).toInt64) ^^^ (q1.toUInt64 >>> ((62 : Int32) &&& 0x3f).toInt64.toUInt64).toInt64))) rfl k) ?_
  obtain ⟨z14, hz14⟩ : ∃ z : Int64, z = ((q1 ^^^ (q1.toUInt64 >>> ((31 : Int32) &&& 0x3f).toInt64.toUInt64).toInt64) ^^^ (q1.toUInt64 >>> ((62 : Int32) &&& 0x3f).toInt64.toUInt64).toInt64) := ⟨_, rfl⟩
  rw [← hz14]
  have hFz14 : (F4 q1) = (F4_1 q1 z14) := by unfold F4; rw [hz14]
  show GoW p e below s (PureQ (.long (F4 q1)) h0 n0) 0 0 (s₁.setTop (mkF m 12 (K3 q1 z14) []))
  refine GoW.sg (mkF m 13 (K3 q1 z14) [(.long z14)]) (fun t k => XS.lloadN X0.here hx rfl (hb hby d4_12) rfl k) ?_
  refine GoW.sg (mkF m 16 (K3 q1 z14) [(.long (-7723592293110705685)), (.long z14)]) (fun t k => X0.ldc2Long hx hown (mvT hZ (ww hw 24 rfl)) (g := (mkF m 13 (K3 q1 z14) [(.long z14)])) rfl (hb hby d4_13) t k) ?_
  obtain ⟨_, _, ⟨T15, L15, k15, n15⟩, -, X15, ⟨Lc15, hQ15, l15, y15, z15⟩, st15⟩ := Jvm.LawKit.callS X0 hx (y := (⟨"com/example/lianzhuang/lianzhuang/simulation/SeededRandomNextLongPinLaw", "inverseOdd", "(J)J"⟩ : MethodName)) hown (mvT hZ (ww hw 25 rfl)) (mvT hZ (ww hw 26 rfl)) (mvT hZ (ww hw 22 rfl)) (mvT hZ (ww hw 27 rfl)) (by decide) (backOf (W := 2) (rm5 l Z a0 hw [] (-7723592293110705685 : Int64) h0 n0) hZ (ww hw 27 rfl) (ww hw 22 rfl) (by decide) (by decide)) (g := (mkF m 16 (K3 q1 z14) [(.long (-7723592293110705685)), (.long z14)])) rfl (by rw [hml]; rfl) (argsL := [(.long (-7723592293110705685 : Int64))]) (rest := [(.long z14)]) (lenOf pd_28J29J rfl) rfl (by show 2 * 0 + _ ≤ _; exact Nat.le_of_eq rfl) (hb hby d4_16) (fun _ _ => ⟨rfl, e0, (by decide : 0 + 0 ≤ _), (by decide : 0 + 0 ≤ _)⟩)
  dsimp only [Pt.U, Pt.locs, Pt.cells, Pt.slots] at X15 l15 y15 z15 st15 hQ15
  subst l15 y15 z15
  obtain ⟨rfl, N15q, e15⟩ := hQ15
  have N15 := Fr.app N0 N15q
  refine GoW.sg (mkF m 19 (K3 q1 z14) [(.long (F5 (-7723592293110705685 : Int64))), (.long z14)]) (fun t k => st15 t k) ?_
  refine GoW.sg (mkF m 20 (K3 q1 z14) [(.long (z14 * (F5 (-7723592293110705685 : Int64))))]) (fun t k => XS.lmul X15.here hx rfl (hb hby d4_19) rfl k) ?_
  refine GoW.sg (mkF m 21 (K3 q1 (z14 * (F5 (-7723592293110705685 : Int64)))) []) (fun t k => XS.lstoreN X15.here hx rfl (hb hby d4_20) rfl (l' := (K3 q1 (z14 * (F5 (-7723592293110705685 : Int64))))) rfl k) ?_
  obtain ⟨z16, hz16⟩ : ∃ z : Int64, z = (z14 * (F5 (-7723592293110705685 : Int64))) := ⟨_, rfl⟩
  rw [← hz16]
  have hFz16 : (F4_1 q1 z14) = (F4_2 q1 z14 z16) := by unfold F4_1; rw [hz16]
  show GoW p e below s (PureQ (.long (F4 q1)) h0 n0) 0 0 (T15.setTop (mkF m 21 (K3 q1 z16) []))
  refine GoW.sg (mkF m 22 (K3 q1 z16) [(.long z16)]) (fun t k => XS.lloadN X15.here hx rfl (hb hby d4_21) rfl k) ?_
  refine GoW.sg (mkF m 23 (K3 q1 z16) [(.long z16), (.long z16)]) (fun t k => XS.lloadN X15.here hx rfl (hb hby d4_22) rfl k) ?_
  refine GoW.sg (mkF m 25 (K3 q1 z16) [(.int 27), (.long z16), (.long z16)]) (fun t k => XS.bipush X15.here hx rfl (hb hby d4_23) k) ?_
  refine GoW.sg (mkF m 26 (K3 q1 z16) [(.long (z16.toUInt64 >>> ((27 : Int32) &&& 0x3f).toInt64.toUInt64).toInt64), (.long z16)]) (fun t k => XS.lushr X15.here hx rfl (hb hby d4_25) rfl k) ?_
  refine GoW.sg (mkF m 27 (K3 q1 z16) [(.long (z16 ^^^ (z16.toUInt64 >>> ((27 : Int32) &&& 0x3f).toInt64.toUInt64).toInt64))]) (fun t k => XS.lxor X15.here hx rfl (hb hby d4_26) rfl k) ?_
  refine GoW.sg (mkF m 28 (K3 q1 z16) [(.long z16), (.long (z16 ^^^ (z16.toUInt64 >>> ((27 : Int32) &&& 0x3f).toInt64.toUInt64).toInt64))]) (fun t k => XS.lloadN X15.here hx rfl (hb hby d4_27) rfl k) ?_
  refine GoW.sg (mkF m 30 (K3 q1 z16) [(.int 54), (.long z16), (.long (z16 ^^^ (z16.toUInt64 >>> ((27 : Int32) &&& 0x3f).toInt64.toUInt64).toInt64))]) (fun t k => XS.bipush X15.here hx rfl (hb hby d4_28) k) ?_
  refine GoW.sg (mkF m 31 (K3 q1 z16) [(.long (z16.toUInt64 >>> ((54 : Int32) &&& 0x3f).toInt64.toUInt64).toInt64), (.long (z16 ^^^ (z16.toUInt64 >>> ((27 : Int32) &&& 0x3f).toInt64.toUInt64).toInt64))]) (fun t k => XS.lushr X15.here hx rfl (hb hby d4_30) rfl k) ?_
  refine GoW.sg (mkF m 32 (K3 q1 z16) [(.long ((z16 ^^^ (z16.toUInt64 >>> ((27 : Int32) &&& 0x3f).toInt64.toUInt64).toInt64) ^^^ (z16.toUInt64 >>> ((54 : Int32) &&& 0x3f).toInt64.toUInt64).toInt64))]) (fun t k => XS.lxor X15.here hx rfl (hb hby d4_31) rfl k) ?_
  refine GoW.sg (mkF m 33 (K3 q1 ((z16 ^^^ (z16.toUInt64 >>> ((27 : Int32) &&& 0x3f).toInt64.toUInt64).toInt64) ^^^ (z16.toUInt64 >>> ((54 : Int32) &&& 0x3f).toInt64.toUInt64).toInt64)) []) (fun t k => XS.lstoreN X15.here hx rfl (hb hby d4_32) rfl (l' := (K3 q1 ((z16 ^^^ (z16.toUInt64 >>> ((27 : Int32) &&& 0x3f).toInt64.toUInt64).toInt64) ^^^ (z16.toUInt64 >>> ((54 : Int32) &&& 0x3f).toInt64.toUInt64).toInt64))) rfl k) ?_
  obtain ⟨z17, hz17⟩ : ∃ z : Int64, z = ((z16 ^^^ (z16.toUInt64 >>> ((27 : Int32) &&& 0x3f).toInt64.toUInt64).toInt64) ^^^ (z16.toUInt64 >>> ((54 : Int32) &&& 0x3f).toInt64.toUInt64).toInt64) := ⟨_, rfl⟩
  rw [← hz17]
  have hFz17 : (F4_2 q1 z14 z16) = (F4_3 q1 z14 z16 z17) := by unfold F4_2; rw [hz17]
  show GoW p e below s (PureQ (.long (F4 q1)) h0 n0) 0 0 (T15.setTop (mkF m 33 (K3 q1 z17) []))
  refine GoW.sg (mkF m 34 (K3 q1 z17) [(.long z17)]) (fun t k => XS.lloadN X15.here hx rfl (hb hby d4_33) rfl k) ?_
  refine GoW.sg (mkF m 37 (K3 q1 z17) [(.long (-4658895280553007687)), (.long z17)]) (fun t k => X15.ldc2Long hx hown (mvT hZ (ww hw 29 rfl)) (g := (mkF m 34 (K3 q1 z17) [(.long z17)])) rfl (hb hby d4_34) t k) ?_
  obtain ⟨_, _, ⟨T18, L18, k18, n18⟩, -, X18, ⟨Lc18, hQ18, l18, y18, z18⟩, st18⟩ := Jvm.LawKit.callS X15 hx (y := (⟨"com/example/lianzhuang/lianzhuang/simulation/SeededRandomNextLongPinLaw", "inverseOdd", "(J)J"⟩ : MethodName)) hown (mvT hZ (ww hw 25 rfl)) (mvT hZ (ww hw 26 rfl)) (mvT hZ (ww hw 22 rfl)) (mvT hZ (ww hw 27 rfl)) (by decide) (backOf (W := 2) (rm5 l Z a0 hw [] (-4658895280553007687 : Int64) h0 n0) hZ (ww hw 27 rfl) (ww hw 22 rfl) (by decide) (by decide)) (g := (mkF m 37 (K3 q1 z17) [(.long (-4658895280553007687)), (.long z17)])) rfl (by rw [hml]; rfl) (argsL := [(.long (-4658895280553007687 : Int64))]) (rest := [(.long z17)]) (lenOf pd_28J29J rfl) rfl (by show 2 * 0 + _ ≤ _; exact Nat.le_of_eq rfl) (hb hby d4_37) (fun _ _ => ⟨rfl, e15, (by decide : 0 + 0 ≤ _), (by decide : 0 + 0 ≤ _)⟩)
  dsimp only [Pt.U, Pt.locs, Pt.cells, Pt.slots] at X18 l18 y18 z18 st18 hQ18
  subst l18 y18 z18
  obtain ⟨rfl, N18q, e18⟩ := hQ18
  have N18 := Fr.app N15 N18q
  refine GoW.sg (mkF m 40 (K3 q1 z17) [(.long (F5 (-4658895280553007687 : Int64))), (.long z17)]) (fun t k => st18 t k) ?_
  refine GoW.sg (mkF m 41 (K3 q1 z17) [(.long (z17 * (F5 (-4658895280553007687 : Int64))))]) (fun t k => XS.lmul X18.here hx rfl (hb hby d4_40) rfl k) ?_
  refine GoW.sg (mkF m 42 (K3 q1 (z17 * (F5 (-4658895280553007687 : Int64)))) []) (fun t k => XS.lstoreN X18.here hx rfl (hb hby d4_41) rfl (l' := (K3 q1 (z17 * (F5 (-4658895280553007687 : Int64))))) rfl k) ?_
  obtain ⟨z19, hz19⟩ : ∃ z : Int64, z = (z17 * (F5 (-4658895280553007687 : Int64))) := ⟨_, rfl⟩
  rw [← hz19]
  have hFz19 : (F4_3 q1 z14 z16 z17) = (F4_4 q1 z14 z16 z17 z19) := by unfold F4_3; rw [hz19]
  show GoW p e below s (PureQ (.long (F4 q1)) h0 n0) 0 0 (T18.setTop (mkF m 42 (K3 q1 z19) []))
  refine GoW.sg (mkF m 43 (K3 q1 z19) [(.long z19)]) (fun t k => XS.lloadN X18.here hx rfl (hb hby d4_42) rfl k) ?_
  refine GoW.sg (mkF m 44 (K3 q1 z19) [(.long z19), (.long z19)]) (fun t k => XS.lloadN X18.here hx rfl (hb hby d4_43) rfl k) ?_
  refine GoW.sg (mkF m 46 (K3 q1 z19) [(.int 30), (.long z19), (.long z19)]) (fun t k => XS.bipush X18.here hx rfl (hb hby d4_44) k) ?_
  refine GoW.sg (mkF m 47 (K3 q1 z19) [(.long (z19.toUInt64 >>> ((30 : Int32) &&& 0x3f).toInt64.toUInt64).toInt64), (.long z19)]) (fun t k => XS.lushr X18.here hx rfl (hb hby d4_46) rfl k) ?_
  refine GoW.sg (mkF m 48 (K3 q1 z19) [(.long (z19 ^^^ (z19.toUInt64 >>> ((30 : Int32) &&& 0x3f).toInt64.toUInt64).toInt64))]) (fun t k => XS.lxor X18.here hx rfl (hb hby d4_47) rfl k) ?_
  refine GoW.sg (mkF m 49 (K3 q1 z19) [(.long z19), (.long (z19 ^^^ (z19.toUInt64 >>> ((30 : Int32) &&& 0x3f).toInt64.toUInt64).toInt64))]) (fun t k => XS.lloadN X18.here hx rfl (hb hby d4_48) rfl k) ?_
  refine GoW.sg (mkF m 51 (K3 q1 z19) [(.int 60), (.long z19), (.long (z19 ^^^ (z19.toUInt64 >>> ((30 : Int32) &&& 0x3f).toInt64.toUInt64).toInt64))]) (fun t k => XS.bipush X18.here hx rfl (hb hby d4_49) k) ?_
  refine GoW.sg (mkF m 52 (K3 q1 z19) [(.long (z19.toUInt64 >>> ((60 : Int32) &&& 0x3f).toInt64.toUInt64).toInt64), (.long (z19 ^^^ (z19.toUInt64 >>> ((30 : Int32) &&& 0x3f).toInt64.toUInt64).toInt64))]) (fun t k => XS.lushr X18.here hx rfl (hb hby d4_51) rfl k) ?_
  refine GoW.sg (mkF m 53 (K3 q1 z19) [(.long ((z19 ^^^ (z19.toUInt64 >>> ((30 : Int32) &&& 0x3f).toInt64.toUInt64).toInt64) ^^^ (z19.toUInt64 >>> ((60 : Int32) &&& 0x3f).toInt64.toUInt64).toInt64))]) (fun t k => XS.lxor X18.here hx rfl (hb hby d4_52) rfl k) ?_
  refine GoW.retL X18 hx Bd.returns (hb hby d4_53) Bd.notSynchronized ?_ (by decide) (by decide)
  have hq : (F4 q1) = ((z19 ^^^ (z19.toUInt64 >>> ((30 : Int32) &&& 0x3f).toInt64.toUInt64).toInt64) ^^^ (z19.toUInt64 >>> ((60 : Int32) &&& 0x3f).toInt64.toUInt64).toInt64) := by rw [hFz14, hFz16, hFz17, hFz19]; unfold F4_4; try rfl
  exact ⟨by rw [hq] <;> rfl, N18, e18⟩
def F0_2 (q1 : Int64) (z23 : Int64) (z25 : Int64) : Int32 := (if (F4 z23) = (q1 + (-7046029254386353131 : Int64)) then (if (F4 z25) = ((q1 + (-7046029254386353131 : Int64)) + (-7046029254386353131 : Int64)) then (1 : Int32) else (0 : Int32)) else (0 : Int32))
def F0_1 (q1 : Int64) (z23 : Int64) : Int32 := (F0_2 q1 z23 (F3 (q1 + (-7046029254386353131 : Int64))))
def F0 (q1 : Int64) : Int32 := (F0_1 q1 (F3 q1))
theorem ef0_rm0 (m : MethodId) (q1 : Int64) : entryFrame m #[(.long q1)] maxLocals = (mkF m 0 #[.val (.long q1), .second, .unset, .unset, .unset, .unset, .unset, .unset, .unset] []) := by first | (simp [entryFrame, mkF, argsToLocals, Value.category, maxLocals]; done) | rfl
set_option maxRecDepth 65536 in
set_option maxHeartbeats 40000000 in
theorem rm0 (l : Launch) (Z : State) (a0 : Array Value) (hw : ∀ d ∈ tables_1, d.before a0 Z = true) (ws : List Jvm.Cond) (q1 : Int64)  (h0 : Heap) (n0 : Nat) (Z0 : n0 ≤ h0.size)    :
    MetFree l x (head1 (Jvm.Cond.code x code maxLocals ret :: ws) room_1) (fun a U => a = #[(.long q1)] ∧ Z.Warmed39 U.vm ∧ U.heap = h0) (fun _ _ _ _ _ => True) (fun _ U o U' => ∃ v L, o = .returned v ∧ (ValQ (.int (F0 q1)) n0) v U'.heap L ∧ FrameEnd U o U' L room_1.cells room_1.slots) := by
  refine MetFree.of_bodySF (plainFor_of_name pn_com_example_lianzhuang_lianzhuang_simulation_SeededRandomNextLongPinLaw) hisR ?_
  intro p e s m args below meth c s₁ Bd hml0 hP hK
  obtain ⟨rfl, hZ, hh⟩ := hP
  have hx := Bd.exec
  have hby := Bd.bytes
  have hml : c.maxLocals = 9 := hml0
  have hown : s.vm.findClass "com/example/lianzhuang/lianzhuang/simulation/SeededRandomNextLongPinLaw" = some m.cls := findClass_of_methodNamed Bd.named
  have hnm := (name_of_methodNamed Bd.named Bd.method).1
  have X0 : Stand p l e room_1 s m #[(.long q1)] below meth c s₁ [] 0 0 := Stand.of_body Bd
  have e0 : s₁.heap = h0 := by rw [← hh, Bd.state]; rfl
  have N0 := Fr.nil n0
  refine GoW.mk ?_
  refine GoW.st (fun t k => castTop (ef0_rm0 m q1) k) ?_
  show GoW p e below s (ValQ (.int (F0 q1)) n0) room_1.cells room_1.slots (s₁.setTop (mkF m 0 (K4 q1) []))
  refine GoW.sg (mkF m 3 (K4 q1) [(.long (-7046029254386353131))]) (fun t k => X0.ldc2Long hx hown (mvT hZ (ww hw 0 rfl)) (g := (mkF m 0 (K4 q1) [])) rfl (hb hby at_0) t k) ?_
  refine GoW.sg (mkF m 4 (K5 q1 (-7046029254386353131)) []) (fun t k => XS.lstoreN X0.here hx rfl (hb hby at_3) rfl (l' := (K5 q1 (-7046029254386353131))) rfl k) ?_
  obtain ⟨T20, h20, X20, e20, E20, A20, D20, -, st20⟩ := newO X0 hx hZ hown (ww hw 1 rfl) (ww hw 2 rfl) (ww hw 3 rfl) e0 (g := (mkF m 4 (K5 q1 (-7046029254386353131)) [])) rfl (hb hby at_4) (by decide) (by decide)
  obtain ⟨b20, g20⟩ : ∃ z, z = h0.size := ⟨_, rfl⟩
  rw [← g20] at A20 D20 st20
  have g_b20 : n0 ≤ b20 := Nat.le_trans Z0 (Nat.le_of_eq g20.symm)
  have Zs_20 : n0 ≤ h20.size := Nat.le_trans Z0 E20.1
  have Fld_b20_state_20 : Fld Z h20 b20 "com/example/lianzhuang/lianzhuang/simulation/SeededRandom" "state" "J" (.long (0 : Int64)) := D20 (Or.inl (ww hw 11 rfl)) (ty := .long) (by decide)
  refine GoW.sg (mkF m 7 (K5 q1 (-7046029254386353131)) [(.ref b20)]) (fun t k => st20 t k) ?_
  refine GoW.sg (mkF m 8 (K5 q1 (-7046029254386353131)) [(.ref b20), (.ref b20)]) (fun t k => XS.dup X20.here hx rfl (hb hby at_7) rfl rfl k) ?_
  refine GoW.sg (mkF m 9 (K5 q1 (-7046029254386353131)) [(.long q1), (.ref b20), (.ref b20)]) (fun t k => XS.lloadN X20.here hx rfl (hb hby at_8) rfl k) ?_
  obtain ⟨_, _, ⟨T21, L21, k21, n21⟩, -, X21, ⟨Lc21, hQ21, l21, y21, z21⟩, st21⟩ := X20.specialBack hx (y := (⟨"com/example/lianzhuang/lianzhuang/simulation/SeededRandom", "<init>", "(J)V"⟩ : MethodName)) rfl hown (mvT hZ (ww hw 4 rfl)) (mvT hZ (ww hw 5 rfl)) (mvT hZ (ww hw 6 rfl)) (by decide) (backOf (W := 1) (rm1 l Z a0 hw [] b20 q1  h20 n0  A20 Fld_b20_state_20 g_b20  ) hZ (ww hw 6 rfl) (ww hw 3 rfl) (by decide) (by decide)) (g := (mkF m 9 (K5 q1 (-7046029254386353131)) [(.long q1), (.ref b20), (.ref b20)])) rfl (by rw [hml]; rfl) (Steps.refl _) (a := b20) (argsL := [(.long q1)]) (rest := [(.ref b20)]) (lenOf pd_28J29V rfl) rfl (by show 2 * 0 + _ ≤ _; exact Nat.le_of_eq rfl) (hb hby at_9) (fun _ _ => ⟨rfl, e20, (by decide : 1 + 0 ≤ _), (by decide : 1 + 0 ≤ _)⟩)
  dsimp only [Pt.U, Pt.locs, Pt.cells, Pt.slots] at X21 l21 y21 z21 st21 hQ21
  subst l21 y21 z21
  obtain ⟨rfl, N21q, K21, p21_0, p21_1⟩ := hQ21
  have N21 := Fr.app N0 N21q
  have Zs_21 : n0 ≤ T21.heap.size := Nat.le_trans Zs_20 K21.1
  refine GoW.sg (mkF m 12 (K5 q1 (-7046029254386353131)) [(.ref b20)]) (fun t k => st21.trans k) ?_
  refine GoW.sg (mkF m 14 (K6 q1 (-7046029254386353131) b20) []) (fun t k => XS.astore X21.here hx rfl (hb hby at_12) rfl rfl (l' := (K6 q1 (-7046029254386353131) b20)) rfl k) ?_
  refine GoW.sg (mkF m 16 (K6 q1 (-7046029254386353131) b20) [(.ref b20)]) (fun t k => XS.aload X21.here hx rfl (hb hby at_14) rfl rfl k) ?_
  obtain ⟨cq22, kq22, q22a, q22b, q22c⟩ := isOf hZ rfl p21_0
  obtain ⟨_, _, ⟨T22, L22, k22, n22⟩, -, X22, ⟨Lc22, hQ22, l22, y22, z22⟩, st22⟩ := X21.virtualBack hx (y := (⟨"com/example/lianzhuang/lianzhuang/simulation/SeededRandom", "nextLong", "()J"⟩ : MethodName)) (z := (⟨"com/example/lianzhuang/lianzhuang/simulation/SeededRandom", "nextLong", "()J"⟩ : MethodName)) hown (mvT hZ (ww hw 12 rfl)) (mvT hZ (ww hw 13 rfl)) (notFace_of_selects (args := #[]) (mvT hZ (ww hw 15 rfl))) (mvT hZ (ww hw 15 rfl)) (mvT hZ (ww hw 14 rfl)) (by decide) (backOf (W := 0) (rm3 l Z a0 hw [] b20 q1 T21.heap n0  p21_0 p21_1 g_b20  ) hZ (ww hw 16 rfl) (ww hw 3 rfl) (by decide) (by decide)) q22a q22c (g := (mkF m 16 (K6 q1 (-7046029254386353131) b20) [(.ref b20)])) rfl (by rw [hml]; rfl) (Steps.refl _) (argsL := []) (rest := []) (lenOf pd_2829J rfl) rfl (by show 2 * 0 + _ ≤ _; exact Nat.le_of_eq rfl) (hb hby at_16) (fun _ _ => ⟨rfl, rfl, (by decide : 1 + 0 ≤ _), (by decide : 1 + 0 ≤ _)⟩)
  dsimp only [Pt.U, Pt.locs, Pt.cells, Pt.slots] at X22 l22 y22 z22 st22 hQ22
  subst l22 y22 z22
  obtain ⟨rfl, N22q, K22, p22_0, p22_1⟩ := hQ22
  have N22 := Fr.app N21 N22q
  have Zs_22 : n0 ≤ T22.heap.size := Nat.le_trans Zs_21 K22.1
  refine GoW.sg (mkF m 19 (K6 q1 (-7046029254386353131) b20) [(.long (F3 q1))]) (fun t k => st22.trans k) ?_
  refine GoW.sg (mkF m 21 (K7 q1 (-7046029254386353131) b20 (F3 q1)) []) (fun t k => XS.lstore X22.here hx rfl (hb hby at_19) rfl (l' := (K7 q1 (-7046029254386353131) b20 (F3 q1))) rfl k) ?_
  obtain ⟨z23, hz23⟩ : ∃ z : Int64, z = (F3 q1) := ⟨_, rfl⟩
  rw [← hz23]
  have hFz23 : (F0 q1) = (F0_1 q1 z23) := by unfold F0; rw [hz23]
  show GoW p e below s (ValQ (.int (F0 q1)) n0) room_1.cells room_1.slots (T22.setTop (mkF m 21 (K7 q1 (-7046029254386353131) b20 z23) []))
  refine GoW.sg (mkF m 23 (K7 q1 (-7046029254386353131) b20 z23) [(.ref b20)]) (fun t k => XS.aload X22.here hx rfl (hb hby at_21) rfl rfl k) ?_
  obtain ⟨cq24, kq24, q24a, q24b, q24c⟩ := isOf hZ rfl p22_0
  obtain ⟨_, _, ⟨T24, L24, k24, n24⟩, -, X24, ⟨Lc24, hQ24, l24, y24, z24⟩, st24⟩ := X22.virtualBack hx (y := (⟨"com/example/lianzhuang/lianzhuang/simulation/SeededRandom", "nextLong", "()J"⟩ : MethodName)) (z := (⟨"com/example/lianzhuang/lianzhuang/simulation/SeededRandom", "nextLong", "()J"⟩ : MethodName)) hown (mvT hZ (ww hw 12 rfl)) (mvT hZ (ww hw 13 rfl)) (notFace_of_selects (args := #[]) (mvT hZ (ww hw 15 rfl))) (mvT hZ (ww hw 15 rfl)) (mvT hZ (ww hw 14 rfl)) (by decide) (backOf (W := 0) (rm3 l Z a0 hw [] b20 (q1 + (-7046029254386353131 : Int64)) T22.heap n0  p22_0 p22_1 g_b20  ) hZ (ww hw 16 rfl) (ww hw 3 rfl) (by decide) (by decide)) q24a q24c (g := (mkF m 23 (K7 q1 (-7046029254386353131) b20 z23) [(.ref b20)])) rfl (by rw [hml]; rfl) (Steps.refl _) (argsL := []) (rest := []) (lenOf pd_2829J rfl) rfl (by show 2 * 0 + _ ≤ _; exact Nat.le_of_eq rfl) (hb hby at_23) (fun _ _ => ⟨rfl, rfl, (by decide : 1 + 0 ≤ _), (by decide : 1 + 0 ≤ _)⟩)
  dsimp only [Pt.U, Pt.locs, Pt.cells, Pt.slots] at X24 l24 y24 z24 st24 hQ24
  subst l24 y24 z24
  obtain ⟨rfl, N24q, K24, p24_0, p24_1⟩ := hQ24
  have N24 := Fr.app N22 N24q
  have Zs_24 : n0 ≤ T24.heap.size := Nat.le_trans Zs_22 K24.1
  refine GoW.sg (mkF m 26 (K7 q1 (-7046029254386353131) b20 z23) [(.long (F3 (q1 + (-7046029254386353131 : Int64))))]) (fun t k => st24.trans k) ?_
  refine GoW.sg (mkF m 28 (K8 q1 (-7046029254386353131) b20 z23 (F3 (q1 + (-7046029254386353131 : Int64)))) []) (fun t k => XS.lstore X24.here hx rfl (hb hby at_26) rfl (l' := (K8 q1 (-7046029254386353131) b20 z23 (F3 (q1 + (-7046029254386353131 : Int64))))) rfl k) ?_
  obtain ⟨z25, hz25⟩ : ∃ z : Int64, z = (F3 (q1 + (-7046029254386353131 : Int64))) := ⟨_, rfl⟩
  rw [← hz25]
  have hFz25 : (F0_1 q1 z23) = (F0_2 q1 z23 z25) := by unfold F0_1; rw [hz25]
  show GoW p e below s (ValQ (.int (F0 q1)) n0) room_1.cells room_1.slots (T24.setTop (mkF m 28 (K8 q1 (-7046029254386353131) b20 z23 z25) []))
  refine GoW.sg (mkF m 30 (K8 q1 (-7046029254386353131) b20 z23 z25) [(.long z23)]) (fun t k => XS.lload X24.here hx rfl (hb hby at_28) rfl k) ?_
  obtain ⟨_, _, ⟨T26, L26, k26, n26⟩, -, X26, ⟨Lc26, hQ26, l26, y26, z26⟩, st26⟩ := Jvm.LawKit.callS X24 hx (y := (⟨"com/example/lianzhuang/lianzhuang/simulation/SeededRandomNextLongPinLaw", "unmix", "(J)J"⟩ : MethodName)) hown (mvT hZ (ww hw 20 rfl)) (mvT hZ (ww hw 21 rfl)) (mvT hZ (ww hw 22 rfl)) (mvT hZ (ww hw 23 rfl)) (by decide) (backOf (W := 0) (rm4 l Z a0 hw [] z23 T24.heap n0) hZ (ww hw 23 rfl) (ww hw 22 rfl) (by decide) (by decide)) (g := (mkF m 30 (K8 q1 (-7046029254386353131) b20 z23 z25) [(.long z23)])) rfl (by rw [hml]; rfl) (argsL := [(.long z23)]) (rest := []) (lenOf pd_28J29J rfl) rfl (by show 2 * 0 + _ ≤ _; exact Nat.le_of_eq rfl) (hb hby at_30) (fun _ _ => ⟨rfl, rfl, (by decide : 1 + 0 ≤ _), (by decide : 1 + 0 ≤ _)⟩)
  dsimp only [Pt.U, Pt.locs, Pt.cells, Pt.slots] at X26 l26 y26 z26 st26 hQ26
  subst l26 y26 z26
  obtain ⟨rfl, N26q, e26⟩ := hQ26
  have N26 := Fr.app N24 N26q
  refine GoW.sg (mkF m 33 (K8 q1 (-7046029254386353131) b20 z23 z25) [(.long (F4 z23))]) (fun t k => st26 t k) ?_
  refine GoW.sg (mkF m 34 (K8 q1 (-7046029254386353131) b20 z23 z25) [(.long q1), (.long (F4 z23))]) (fun t k => XS.lloadN X26.here hx rfl (hb hby at_33) rfl k) ?_
  refine GoW.sg (mkF m 35 (K8 q1 (-7046029254386353131) b20 z23 z25) [(.long (-7046029254386353131)), (.long q1), (.long (F4 z23))]) (fun t k => XS.lloadN X26.here hx rfl (hb hby at_34) rfl k) ?_
  refine GoW.sg (mkF m 36 (K8 q1 (-7046029254386353131) b20 z23 z25) [(.long (q1 + (-7046029254386353131 : Int64))), (.long (F4 z23))]) (fun t k => XS.ladd X26.here hx rfl (hb hby at_35) rfl k) ?_
  refine GoW.sg (mkF m 37 (K8 q1 (-7046029254386353131) b20 z23 z25) [(.int (lcmpW (F4 z23) (q1 + (-7046029254386353131 : Int64))))]) (fun t k => XS.lcmp X26.here hx rfl (hb hby at_36) rfl k) ?_
  by_cases c27 : (F4 z23) = (q1 + (-7046029254386353131 : Int64))
  · refine GoW.sg (mkF m 40 (K8 q1 (-7046029254386353131) b20 z23 z25) []) (fun t k => XS.ifNo X26.here hx rfl (hb hby at_37) rfl ((if0 _ _).trans (teq ((lw_eq _ _).mpr c27)).2) k) ?_
    refine GoW.sg (mkF m 42 (K8 q1 (-7046029254386353131) b20 z23 z25) [(.long z25)]) (fun t k => XS.lload X26.here hx rfl (hb hby at_40) rfl k) ?_
    obtain ⟨_, _, ⟨T28, L28, k28, n28⟩, -, X28, ⟨Lc28, hQ28, l28, y28, z28⟩, st28⟩ := Jvm.LawKit.callS X26 hx (y := (⟨"com/example/lianzhuang/lianzhuang/simulation/SeededRandomNextLongPinLaw", "unmix", "(J)J"⟩ : MethodName)) hown (mvT hZ (ww hw 20 rfl)) (mvT hZ (ww hw 21 rfl)) (mvT hZ (ww hw 22 rfl)) (mvT hZ (ww hw 23 rfl)) (by decide) (backOf (W := 0) (rm4 l Z a0 hw [] z25 T24.heap n0) hZ (ww hw 23 rfl) (ww hw 22 rfl) (by decide) (by decide)) (g := (mkF m 42 (K8 q1 (-7046029254386353131) b20 z23 z25) [(.long z25)])) rfl (by rw [hml]; rfl) (argsL := [(.long z25)]) (rest := []) (lenOf pd_28J29J rfl) rfl (by show 2 * 0 + _ ≤ _; exact Nat.le_of_eq rfl) (hb hby at_42) (fun _ _ => ⟨rfl, e26, (by decide : 1 + 0 ≤ _), (by decide : 1 + 0 ≤ _)⟩)
    dsimp only [Pt.U, Pt.locs, Pt.cells, Pt.slots] at X28 l28 y28 z28 st28 hQ28
    subst l28 y28 z28
    obtain ⟨rfl, N28q, e28⟩ := hQ28
    have N28 := Fr.app N26 N28q
    refine GoW.sg (mkF m 45 (K8 q1 (-7046029254386353131) b20 z23 z25) [(.long (F4 z25))]) (fun t k => st28 t k) ?_
    refine GoW.sg (mkF m 46 (K8 q1 (-7046029254386353131) b20 z23 z25) [(.long q1), (.long (F4 z25))]) (fun t k => XS.lloadN X28.here hx rfl (hb hby at_45) rfl k) ?_
    refine GoW.sg (mkF m 47 (K8 q1 (-7046029254386353131) b20 z23 z25) [(.long (-7046029254386353131)), (.long q1), (.long (F4 z25))]) (fun t k => XS.lloadN X28.here hx rfl (hb hby at_46) rfl k) ?_
    refine GoW.sg (mkF m 48 (K8 q1 (-7046029254386353131) b20 z23 z25) [(.long (q1 + (-7046029254386353131 : Int64))), (.long (F4 z25))]) (fun t k => XS.ladd X28.here hx rfl (hb hby at_47) rfl k) ?_
    refine GoW.sg (mkF m 49 (K8 q1 (-7046029254386353131) b20 z23 z25) [(.long (-7046029254386353131)), (.long (q1 + (-7046029254386353131 : Int64))), (.long (F4 z25))]) (fun t k => XS.lloadN X28.here hx rfl (hb hby at_48) rfl k) ?_
    refine GoW.sg (mkF m 50 (K8 q1 (-7046029254386353131) b20 z23 z25) [(.long ((q1 + (-7046029254386353131 : Int64)) + (-7046029254386353131 : Int64))), (.long (F4 z25))]) (fun t k => XS.ladd X28.here hx rfl (hb hby at_49) rfl k) ?_
    refine GoW.sg (mkF m 51 (K8 q1 (-7046029254386353131) b20 z23 z25) [(.int (lcmpW (F4 z25) ((q1 + (-7046029254386353131 : Int64)) + (-7046029254386353131 : Int64))))]) (fun t k => XS.lcmp X28.here hx rfl (hb hby at_50) rfl k) ?_
    by_cases c29 : (F4 z25) = ((q1 + (-7046029254386353131 : Int64)) + (-7046029254386353131 : Int64))
    · refine GoW.sg (mkF m 54 (K8 q1 (-7046029254386353131) b20 z23 z25) []) (fun t k => XS.ifNo X28.here hx rfl (hb hby at_51) rfl ((if0 _ _).trans (teq ((lw_eq _ _).mpr c29)).2) k) ?_
      refine GoW.sg (mkF m 55 (K8 q1 (-7046029254386353131) b20 z23 z25) [(.int 1)]) (fun t k => XS.iconst X28.here hx rfl (hb hby at_54) k) ?_
      refine GoW.sg (mkF m 59 (K8 q1 (-7046029254386353131) b20 z23 z25) [(.int 1)]) (fun t k => XS.goto X28.here hx rfl (pc0 := 55) (pc' := 59) rfl (hb hby at_55) (by decide) (by decide) k) ?_
      refine GoW.retN X28 hx (t := .boolean) Bd.returns (by simp) (hb hby at_59) Bd.notSynchronized ?_ (by decide) (by decide)
      have hq : (F0 q1) = (1 : Int32) := by rw [hFz23, hFz25]; unfold F0_2; rw [if_pos c27, if_pos c29]; try rfl
      exact ⟨by rw [hq] <;> rfl, N28⟩
    · refine GoW.sg (mkF m 58 (K8 q1 (-7046029254386353131) b20 z23 z25) []) (fun t k => XS.ifYes X28.here hx rfl (pc0 := 51) (pc' := 58) rfl (hb hby at_51) rfl ((if0 _ _).trans (feq (mt (lw_eq _ _).mp c29)).2) (by decide) (by decide) k) ?_
      refine GoW.sg (mkF m 59 (K8 q1 (-7046029254386353131) b20 z23 z25) [(.int 0)]) (fun t k => XS.iconst X28.here hx rfl (hb hby at_58) k) ?_
      refine GoW.retN X28 hx (t := .boolean) Bd.returns (by simp) (hb hby at_59) Bd.notSynchronized ?_ (by decide) (by decide)
      have hq : (F0 q1) = (0 : Int32) := by rw [hFz23, hFz25]; unfold F0_2; rw [if_pos c27, if_neg c29]; try rfl
      exact ⟨by rw [hq] <;> rfl, N28⟩
  · refine GoW.sg (mkF m 58 (K8 q1 (-7046029254386353131) b20 z23 z25) []) (fun t k => XS.ifYes X26.here hx rfl (pc0 := 37) (pc' := 58) rfl (hb hby at_37) rfl ((if0 _ _).trans (feq (mt (lw_eq _ _).mp c27)).2) (by decide) (by decide) k) ?_
    refine GoW.sg (mkF m 59 (K8 q1 (-7046029254386353131) b20 z23 z25) [(.int 0)]) (fun t k => XS.iconst X26.here hx rfl (hb hby at_58) k) ?_
    refine GoW.retN X26 hx (t := .boolean) Bd.returns (by simp) (hb hby at_59) Bd.notSynchronized ?_ (by decide) (by decide)
    have hq : (F0 q1) = (0 : Int32) := by rw [hFz23, hFz25]; unfold F0_2; rw [if_neg c27]; try rfl
    exact ⟨by rw [hq] <;> rfl, N26⟩
theorem own_sh (x : Int64) (q : Int32) (k : Nat) (hk : q.toBitVec.toNat % 64 = k) : ((x.toUInt64 >>> (q &&& 0x3f).toInt64.toUInt64).toInt64).toBitVec = x.toBitVec >>> k := by
  show (x.toBitVec >>> ((q &&& 0x3f).toInt64.toBitVec % 64)) = _
  have h5 := (sm64 q k hk).2
  rw [BitVec.ushiftRight_eq', BitVec.toNat_umod, (sm64 q k hk).1, BitVec.toNat_ofNat]
  congr 1; show k % 2 ^ 64 % 64 = k; omega
theorem own_xs (x y : Int64) (p q : Int32) (k : Nat) (hp : p.toBitVec.toNat % 64 = k) (hq : q.toBitVec.toNat % 64 = k + k) (hk : 64 ≤ k + k + k) (hy : y = x ^^^ (x.toUInt64 >>> (p &&& 0x3f).toInt64.toUInt64).toInt64) :
    (y ^^^ (y.toUInt64 >>> (p &&& 0x3f).toInt64.toUInt64).toInt64) ^^^ (y.toUInt64 >>> (q &&& 0x3f).toInt64.toUInt64).toInt64 = x := by
  apply Int64.toBitVec_inj.mp
  rw [Int64.toBitVec_xor, Int64.toBitVec_xor, own_sh y p k hp, own_sh y q (k + k) hq, hy, Int64.toBitVec_xor, own_sh x p k hp]
  generalize x.toBitVec = v
  apply BitVec.eq_of_getLsbD_eq
  intro i hi
  simp only [BitVec.getLsbD_xor, BitVec.getLsbD_ushiftRight]
  have e1 : v.getLsbD (k + (k + k + i)) = false := BitVec.getLsbD_of_ge _ _ (by omega)
  rw [e1, show k + (k + i) = k + k + i by omega]
  cases v.getLsbD i <;> cases v.getLsbD (k + i) <;> cases v.getLsbD (k + k + i) <;> rfl
theorem own_mul (x c d : Int64) (h : c * d = 1) : x * c * d = x := by rw [Int64.mul_assoc, h, Int64.mul_one]
theorem own_inv (w : Int64) : F4 (F3 w) = w + (-7046029254386353131 : Int64) := by
  unfold F3 F3_1 F3_2 F3_3
  generalize w + (-7046029254386353131 : Int64) = z
  unfold F4 F4_1 F4_2 F4_3 F4_4
  rw [own_xs _ _ 31 62 31 (by decide) (by decide) (by decide) rfl, own_mul _ _ _ (by decide +kernel), own_xs _ _ 27 54 27 (by decide) (by decide) (by decide) rfl, own_mul _ _ _ (by decide +kernel), own_xs _ _ 30 60 30 (by decide) (by decide) (by decide) rfl]
theorem own_law (q1 : Int64) : F0 q1 = 1 := by
  unfold F0 F0_1 F0_2
  rw [if_pos (own_inv _), if_pos (own_inv _)]

set_option maxRecDepth 65536 in
set_option maxHeartbeats 40000000 in
theorem comes_1 {Post : Tables → Env → Array Value → State → Outcome → State → Prop} (hpost : ∀ tb e args s v u, (limb_1_1.after args s (.returned v) u = true ∧ limb_1_2.after args s (.returned v) u = true ∧ True) → FrameEnd s (.returned v) u (Jvm.fieldLocs frame_1_writes args s ++ Jvm.arrayLocs frame_1_arrays args s ++ Jvm.staticLocs frame_1_statics s) 16 128 → Post tb e args s (.returned v) u) :
    ArmFor flags0 classFile x code maxLocals ret World_1 tables_1 room_1 Calls_1 rest_1 Pre_1 Post := by
  intro l hfl _ _ p e ha hc hk s m args below hf hA hF happ hP
  obtain ⟨hcalls, hrest, hpre⟩ := hP
  obtain ⟨-, -, -, hnamed, -, -, -, hat⟩ := (Spec.applies_iff hf).mp happ
  obtain ⟨hg, hn⟩ := and_e (Cond.before_iff.mp (show (Jvm.Cond.and given_1 narrow_1).before args s = true from hpre))
  obtain ⟨ga0, gb0⟩ := and_e hg
  obtain ⟨w0, rfl⟩ : ∃ w0 : Value, args = #[w0] := by
    have hs : args.size = 1 := by simpa [Cond.value, given_1] using ga0
    obtain ⟨L⟩ := args
    match L, hs with
    | [w0], _ => exact ⟨w0, rfl⟩
  have hw := fun d (hd : d ∈ tables_1) => atoms_spec (ws := Jvm.Cond.code x code maxLocals ret :: tables_1) hat d (List.mem_cons_of_mem _ hd)
  have hfit : Fit s := fun {y c} hc i hi => by
    obtain ⟨ha, rfl⟩ := Array.getElem?_eq_some_iff.mp hc
    have q := List.all_eq_true.mp ((Array.all_eq_true_iff_forall_mem.mp hF) _ (Array.getElem_mem ha)) i (List.mem_range.mpr hi)
    simpa [Array.getElem?_eq_getElem hi] using q
  obtain ⟨i0, ei0⟩ := isL_v gb0
  obtain rfl : w0 = (.long i0) := Option.some.inj ei0
  obtain ⟨n, o, h1, h2, h3, v, L, rfl, ⟨hv, N⟩, hq⟩ := rm0 l s _ hw tables_1 i0  s.heap s.heap.size (Nat.le_refl _)  p e ha hc hk s m _ below hf ((Spec.applies_iff_loose hf).mp happ).1 ⟨rfl, State.Warmed39.refl s, rfl⟩ trivial
  rw [own_law i0] at hv
  subst hv
  refine ⟨n, _, h1, h2, h3, hpost _ _ _ _ _ _ ⟨Cond.after_iff.mpr rfl, Cond.after_iff.mpr (eq_i res_at (Term.int_eval (1)) rfl), trivial⟩ ⟨hq.1, hq.2.1, (hq.2.2.sift fun y hy => Or.inr (N y hy)).mono (by decide) (by decide)⟩⟩
theorem main_1_1 : Claimed_1_1 := comes_1 fun _ _ _ _ _ _ h hF => ⟨h.1, hF⟩
theorem main_1_2 : Claimed_1_2 := comes_1 fun _ _ _ _ _ _ h hF => ⟨h.2.1, hF⟩
end Jvm.Pilot.@@N@@
namespace Jvm.Pilot.@@N@@
open Jvm Jvm.ClassFile Sem Op Lib Jvm.Free Jvm.Stand Jvm.Pilot.@@N@@.Jvm.D
/-! MADE BY PROGRAM (witnessworld.py) out of the Statement's table words and the real class files: 9 classes; the members and pool entries that the words name. The judged class is class 1, her method 3. -/
namespace start1
open Jvm.ClassFile
def u (s : String) : CpInfo := .utf8 (stringToUtf16 s)
/-- a pool by its gaps: so many unusable entries, then the entry; so many at the end -/
def gap : Nat → List CpInfo → List CpInfo
  | 0, r => r
  | n + 1, r => .unusable :: gap n r
def poolList (es : List (Nat × CpInfo)) (last : Nat) : List CpInfo := es.foldr (fun e r => gap e.1 (e.2 :: r)) (gap last [])
def pool (es : List (Nat × CpInfo)) (last : Nat) : Array CpInfo := ⟨poolList es last⟩
def fileOf (pool : Array CpInfo) (this : Nat) (attrs : Array Attribute := #[]) (ms : Array MethodInfo := #[]) (fl : Nat := 33) (sup : Nat := 0) (ifs : Array Nat := #[]) (fds : Array FieldInfo := #[]) : ClassFile where
  minorVersion := 0
  majorVersion := 65
  constantPool := pool
  accessFlags := fl
  thisClass := this
  superClass := sup
  interfaces := ifs
  fields := fds
  methods := ms
  attributes := attrs
def plain (name : String) (sup : Option ClassId) : Class where
  name := name
  kind := .ordinary
  loader := none
  accessFlags := 33
  super := sup
  interfaces := #[]
  cf := none
  fields := #[]
  methods := #[]
  instanceTypes := #[]
  staticTypes := #[]
  resolved := #[]
  callSites := []
  init := .initialized
  statics := none
  mirror := none

def pool0 : Array CpInfo := pool [(5, u "<init>"), (0, u "()V"), (1, .class_ 10), (1, u "java/lang/Object")] 113

def k0c0 : Code := { maxStack := 0, maxLocals := 1, code := object_method_1_code, exceptionTable := #[], attributes := #[] }
def k0m0 : Method := { name := "<init>", desc := "()V", sig := { parameters := [], returnType := none }, accessFlags := 1, code := some k0c0 }
/-- java/lang/Object -/
def k0 : Class := { plain "java/lang/Object" none with
  accessFlags := 33
  interfaces := #[]
  cf := some (fileOf pool0 8 #[] #[{ accessFlags := 1, nameIndex := 5, descriptorIndex := 6, attributes := #[] }] 33 0 #[] #[])
  fields := #[]
  methods := #[k0m0]
  instanceTypes := #[]
  staticTypes := #[]
  resolved := Array.replicate 124 none
  statics := none }

def pool1 : Array CpInfo := pool [(2, .class_ 4), (1, u "java/lang/Object"), (0, u "<init>"), (0, u "()V"), (0, .long 2), (1, .long 10723151780598845931), (1, .methodref 12 13), (0, .class_ 14), (0, .nameAndType 15 16), (0, u "com/example/lianzhuang/lianzhuang/simulation/SeededRandomNextLongPinLaw"), (0, u "inverseOdd"), (0, u "(J)J"), (0, .long 13787848793156543929), (1, .long 11400714819323198485), (1, .class_ 22), (0, u "com/example/lianzhuang/lianzhuang/simulation/SeededRandom"), (0, .methodref 21 24), (0, .nameAndType 5 25), (0, u "(J)V"), (0, .methodref 21 27), (0, .nameAndType 28 29), (0, u "nextLong"), (0, u "()J"), (0, .methodref 12 31), (0, .nameAndType 32 16), (0, u "unmix"), (2, u "law"), (0, u "(J)Z")] 3

def k1m0 : Method := { name := "<init>", desc := "()V", sig := { parameters := [], returnType := none }, accessFlags := 1, code := none }
def k1c1 : Code := { maxStack := 8, maxLocals := 4, code := method_2_code, exceptionTable := #[], attributes := #[] }
def k1m1 : Method := { name := "inverseOdd", desc := "(J)J", sig := { parameters := [.long], returnType := some .long }, accessFlags := 10, code := some k1c1 }
def k1c2 : Code := { maxStack := 5, maxLocals := 4, code := method_3_code, exceptionTable := #[], attributes := #[] }
def k1m2 : Method := { name := "unmix", desc := "(J)J", sig := { parameters := [.long], returnType := some .long }, accessFlags := 10, code := some k1c2 }
def k1c3 : Code := { maxStack := 6, maxLocals := 9, code := code, exceptionTable := #[], attributes := #[] }
def k1m3 : Method := { name := "law", desc := "(J)Z", sig := { parameters := [.long], returnType := some .boolean }, accessFlags := 9, code := some k1c3 }
/-- com/example/lianzhuang/lianzhuang/simulation/SeededRandomNextLongPinLaw -/
def k1 : Class := { plain "com/example/lianzhuang/lianzhuang/simulation/SeededRandomNextLongPinLaw" (some 0) with
  accessFlags := 49
  interfaces := #[]
  cf := some (fileOf pool1 12 #[] #[{ accessFlags := 1, nameIndex := 5, descriptorIndex := 6, attributes := #[] }, { accessFlags := 10, nameIndex := 15, descriptorIndex := 16, attributes := #[] }, { accessFlags := 10, nameIndex := 32, descriptorIndex := 16, attributes := #[] }, { accessFlags := 9, nameIndex := 35, descriptorIndex := 36, attributes := #[] }] 49 2 #[] #[])
  fields := #[]
  methods := #[k1m0, k1m1, k1m2, k1m3]
  instanceTypes := #[]
  staticTypes := #[]
  resolved := Array.replicate 40 none
  statics := none }

def pool2 : Array CpInfo := pool [(1, .methodref 2 3), (0, .class_ 4), (0, .nameAndType 5 6), (0, u "java/lang/Object"), (0, u "<init>"), (0, u "()V"), (0, .fieldref 8 9), (0, .class_ 10), (0, .nameAndType 11 12), (0, u "com/example/lianzhuang/lianzhuang/simulation/SeededRandom"), (0, u "state"), (0, u "J"), (0, .long 11400714819323198485), (1, .long 13787848793156543929), (1, .long 10723151780598845931), (3, u "nextLong"), (0, u "()J"), (2, u "(J)V"), (16, u "GAMMA")] 12

def k2c0 : Code := { maxStack := 3, maxLocals := 3, code := prog_40_method_1_code, exceptionTable := #[], attributes := #[] }
def k2m0 : Method := { name := "<init>", desc := "(J)V", sig := { parameters := [.long], returnType := none }, accessFlags := 0, code := some k2c0 }
def k2c1 : Code := { maxStack := 5, maxLocals := 3, code := prog_40_method_2_code, exceptionTable := #[], attributes := #[] }
def k2m1 : Method := { name := "nextLong", desc := "()J", sig := { parameters := [], returnType := some .long }, accessFlags := 0, code := some k2c1 }
/-- com/example/lianzhuang/lianzhuang/simulation/SeededRandom -/
def k2 : Class := { plain "com/example/lianzhuang/lianzhuang/simulation/SeededRandom" (some 0) with
  accessFlags := 48
  interfaces := #[]
  cf := some (fileOf pool2 8 #[] #[{ accessFlags := 0, nameIndex := 5, descriptorIndex := 25, attributes := #[] }, { accessFlags := 0, nameIndex := 21, descriptorIndex := 22, attributes := #[] }] 48 2 #[] #[{ accessFlags := 26, nameIndex := 42, descriptorIndex := 12, attributes := #[] }, { accessFlags := 2, nameIndex := 11, descriptorIndex := 12, attributes := #[] }])
  fields := #[{ name := "GAMMA", type := .long, accessFlags := 26, slot := 0, constantValue := 0 }, { name := "state", type := .long, accessFlags := 2, slot := 0, constantValue := 0 }]
  methods := #[k2m0, k2m1]
  instanceTypes := #[.long]
  staticTypes := #[.long]
  resolved := Array.replicate 55 none
  statics := none }

def pool3 : Array CpInfo := pool [(1, u "java/lang/Cloneable"), (0, .class_ 1), (0, u "java/lang/Object"), (0, .class_ 3)] 3

/-- java/lang/Cloneable -/
def k3 : Class := { plain "java/lang/Cloneable" (some 0) with
  accessFlags := 1537
  interfaces := #[]
  cf := some (fileOf pool3 2 #[] #[] 1537 4 #[] #[])
  fields := #[]
  methods := #[]
  instanceTypes := #[]
  staticTypes := #[]
  resolved := Array.replicate 8 none
  statics := none }

def pool4 : Array CpInfo := pool [(1, u "java/io/Serializable"), (0, .class_ 1), (0, u "java/lang/Object"), (0, .class_ 3)] 3

/-- java/io/Serializable -/
def k4 : Class := { plain "java/io/Serializable" (some 0) with
  accessFlags := 1537
  interfaces := #[]
  cf := some (fileOf pool4 2 #[] #[] 1537 4 #[] #[])
  fields := #[]
  methods := #[]
  instanceTypes := #[]
  staticTypes := #[]
  resolved := Array.replicate 8 none
  statics := none }

/-- the primitive byte -/
def k5 : Class := { plain "byte" none with kind := .primitive 'B', accessFlags := 0x411 }
/-- [B -/
def k6 : Class := { plain "[B" (some 0) with kind := .array 5 .byte, interfaces := #[3, 4], accessFlags := 1041 }

/-- the primitive int -/
def k7 : Class := { plain "int" none with kind := .primitive 'I', accessFlags := 0x411 }
/-- [I -/
def k8 : Class := { plain "[I" (some 0) with kind := .array 7 .int, interfaces := #[3, 4], accessFlags := 1041 }

def heap : Heap := #[]
def classes : Array Class := #[k0, k1, k2, k3, k4, k5, k6, k7, k8]
def interned : List (Array UInt16 × Addr) := []
def slotsUsed : Nat := 0
def theMethod : MethodId := ⟨1, 3⟩
def args0 : Array Value := #[.long 65]
def aboutOver (below : List Frame) : State where
  vm := { classes := classes, interned := interned.toArray }
  heap := heap
  slotsUsed := slotsUsed
  threads := #[{ frames := .invoking theMethod args0 :: below }]
def below0 : List Frame := [.native { method := ⟨0, 0⟩, args := #[] }]
def about1 : State := aboutOver below0
def p0 : Program := .bare "" "" ""
def e0 : Env := launch0.env 0 0 0
theorem w_frames : about1.frames = Frame.invoking theMethod args0 :: below0 := rfl
set_option maxRecDepth 65536 in
theorem w_args : argsFit about1.vm theMethod args0 = true := by decide +kernel
set_option maxRecDepth 65536 in
theorem w_heap : heapFits about1 = true := by decide +kernel
set_option maxRecDepth 65536 in
theorem w_runnable : about1.curStatus? = some .runnable := by decide +kernel
set_option maxRecDepth 65536 in
theorem w_alone : about1.alone = true := by decide +kernel
set_option maxRecDepth 65536 in
theorem w_named : about1.methodNamed? x = some theMethod := by decide +kernel
set_option maxRecDepth 65536 in
theorem w_hears : about1.hears theMethod below0 = true := by decide +kernel
set_option maxRecDepth 65536 in
theorem w_ripe : about1.ripe theMethod args0 below0 = true := by decide +kernel
theorem w_running : about1.status = .running := rfl
set_option maxRecDepth 65536 in
theorem w_room : about1.hasRoom e0.platform room_1 = true :=
  launch0.hasRoom_least _ room_1 (by decide +kernel) (by decide +kernel) (by decide +kernel) (by decide +kernel) (by decide +kernel) (by decide +kernel)
theorem allAtoms_all (ts : List Jvm.Cond) (a : Array Jvm.Value) (st : Jvm.State) : (allAtoms ts).before a st = ts.all (fun c => c.before a st) := by
  induction ts with
  | nil => rfl
  | cons c t ih =>
    show (Jvm.Cond.and c (allAtoms t)).before a st = _
    rw [Jvm.Cond.before_and, ih, List.all_cons]
def words1 : List Jvm.Cond := Jvm.Cond.code x code maxLocals ret :: tables_1
/-- a 'code' word, met by the world's own term for the bytes: nothing is compared byte by byte -/
theorem code_word {y : MethodName} {bytes : ByteArray} {mx : Nat} {rt : Option FieldType} {a : Array Value} {s : State} {m : MethodId} {meth : Method} {c : Code} (h1 : s.methodNamed? y = some m) (h2 : s.vm.method? m = some meth) (h3 : meth.code = some c) (h4 : c.code = bytes)
    (h5 : (c.maxLocals == mx && c.exceptionTable.isEmpty && decide (c.maxStack ≤ mostOperands) && decide (meth.sig.returnType = rt) && !meth.locks && decide (parseMethodDescriptor y.desc = some meth.sig)) = true) : (Jvm.Cond.code y bytes mx rt).before a s = true := by
  simp only [Bool.and_eq_true, beq_iff_eq, Bool.not_eq_true', decide_eq_true_eq] at h5
  obtain ⟨⟨⟨⟨⟨g1, g2⟩, g3⟩, g4⟩, g5⟩, g6⟩ := h5
  simp [Cond.before, Cond.holds, Cond.value, h1, h2, h3, h4, g1, g2, g3, g4, g5, g6]
def isCode : Jvm.Cond → Bool
  | .code _ _ _ _ => true
  | _ => false
theorem all_split {L : List Jvm.Cond} {P : Jvm.Cond → Bool} (h1 : L.all (fun c => isCode c || P c) = true) (h2 : ∀ c ∈ L.filter isCode, P c = true) : L.all P = true := by
  refine List.all_eq_true.mpr fun c hc => ?_
  have h := List.all_eq_true.mp h1 c hc
  rcases Bool.eq_false_or_eq_true (isCode c) with hi | hi
  · exact h2 c (List.mem_filter.mpr ⟨hc, hi⟩)
  · simpa [hi] using h
set_option maxRecDepth 65536 in
theorem w_c0 : (Jvm.Cond.code x code maxLocals ret).before args0 about1 = true := code_word (m := ⟨1, 3⟩) (meth := k1m3) (c := k1c3) (by decide +kernel) rfl rfl rfl (by decide +kernel)
set_option maxRecDepth 65536 in
theorem w_c1 : (Jvm.Cond.code ({ cls := "com/example/lianzhuang/lianzhuang/simulation/SeededRandom", name := "<init>", desc := "(J)V" } : Jvm.MethodName) prog_40_method_1_code (3 : Nat) (Option.none : Option Jvm.ClassFile.FieldType)).before args0 about1 = true := code_word (m := ⟨2, 0⟩) (meth := k2m0) (c := k2c0) (by decide +kernel) rfl rfl rfl (by decide +kernel)
set_option maxRecDepth 65536 in
theorem w_c2 : (Jvm.Cond.code ({ cls := "java/lang/Object", name := "<init>", desc := "()V" } : Jvm.MethodName) object_method_1_code (1 : Nat) (Option.none : Option Jvm.ClassFile.FieldType)).before args0 about1 = true := code_word (m := ⟨0, 0⟩) (meth := k0m0) (c := k0c0) (by decide +kernel) rfl rfl rfl (by decide +kernel)
set_option maxRecDepth 65536 in
theorem w_c3 : (Jvm.Cond.code ({ cls := "com/example/lianzhuang/lianzhuang/simulation/SeededRandom", name := "nextLong", desc := "()J" } : Jvm.MethodName) prog_40_method_2_code (3 : Nat) (Option.some Jvm.ClassFile.FieldType.long)).before args0 about1 = true := code_word (m := ⟨2, 1⟩) (meth := k2m1) (c := k2c1) (by decide +kernel) rfl rfl rfl (by decide +kernel)
set_option maxRecDepth 65536 in
theorem w_c4 : (Jvm.Cond.code ({ cls := "com/example/lianzhuang/lianzhuang/simulation/SeededRandomNextLongPinLaw", name := "unmix", desc := "(J)J" } : Jvm.MethodName) method_3_code (4 : Nat) (Option.some Jvm.ClassFile.FieldType.long)).before args0 about1 = true := code_word (m := ⟨1, 2⟩) (meth := k1m2) (c := k1c2) (by decide +kernel) rfl rfl rfl (by decide +kernel)
set_option maxRecDepth 65536 in
theorem w_c5 : (Jvm.Cond.code ({ cls := "com/example/lianzhuang/lianzhuang/simulation/SeededRandomNextLongPinLaw", name := "inverseOdd", desc := "(J)J" } : Jvm.MethodName) method_2_code (4 : Nat) (Option.some Jvm.ClassFile.FieldType.long)).before args0 about1 = true := code_word (m := ⟨1, 1⟩) (meth := k1m1) (c := k1c1) (by decide +kernel) rfl rfl rfl (by decide +kernel)
def codes1 : List Jvm.Cond := [Jvm.Cond.code x code maxLocals ret, Jvm.Cond.code ({ cls := "com/example/lianzhuang/lianzhuang/simulation/SeededRandom", name := "<init>", desc := "(J)V" } : Jvm.MethodName) prog_40_method_1_code (3 : Nat) (Option.none : Option Jvm.ClassFile.FieldType), Jvm.Cond.code ({ cls := "java/lang/Object", name := "<init>", desc := "()V" } : Jvm.MethodName) object_method_1_code (1 : Nat) (Option.none : Option Jvm.ClassFile.FieldType), Jvm.Cond.code ({ cls := "com/example/lianzhuang/lianzhuang/simulation/SeededRandom", name := "nextLong", desc := "()J" } : Jvm.MethodName) prog_40_method_2_code (3 : Nat) (Option.some Jvm.ClassFile.FieldType.long), Jvm.Cond.code ({ cls := "com/example/lianzhuang/lianzhuang/simulation/SeededRandomNextLongPinLaw", name := "unmix", desc := "(J)J" } : Jvm.MethodName) method_3_code (4 : Nat) (Option.some Jvm.ClassFile.FieldType.long), Jvm.Cond.code ({ cls := "com/example/lianzhuang/lianzhuang/simulation/SeededRandomNextLongPinLaw", name := "inverseOdd", desc := "(J)J" } : Jvm.MethodName) method_2_code (4 : Nat) (Option.some Jvm.ClassFile.FieldType.long)]
set_option maxRecDepth 65536 in
theorem codes_eq : words1.filter isCode = codes1 := rfl
theorem w_codes : ∀ c ∈ words1.filter isCode, c.before args0 about1 = true := by
  rw [codes_eq]
  intro c hc
  simp only [codes1, List.mem_cons, List.not_mem_nil, or_false] at hc
  rcases hc with rfl | rfl | rfl | rfl | rfl | rfl
  · exact w_c0
  · exact w_c1
  · exact w_c2
  · exact w_c3
  · exact w_c4
  · exact w_c5
set_option maxRecDepth 65536 in
theorem w_t1 : (words1.take 24).all (fun c => isCode c || c.before args0 about1) = true := by decide +kernel
set_option maxRecDepth 65536 in
theorem w_t2 : (words1.drop 24).all (fun c => isCode c || c.before args0 about1) = true := by decide +kernel
theorem w_tables : (allAtoms (Jvm.Cond.code x code maxLocals ret :: tables_1)).before args0 about1 = true := by
  rw [allAtoms_all]
  show words1.all (fun c => c.before args0 about1) = true
  refine all_split ?_ w_codes
  rw [← List.take_append_drop 24 words1, List.all_append, w_t1, w_t2]
  rfl
set_option maxRecDepth 65536 in
theorem w_case : (Jvm.Cond.and given_1 narrow_1).before args0 about1 = true := by decide +kernel
theorem w_applies : (headSpec (Jvm.Cond.code x code maxLocals ret :: tables_1) room_1).applies x e0.platform about1 = true :=
  (Spec.applies_iff w_frames).mpr ⟨w_running, w_runnable, w_alone, w_named, w_hears, w_ripe, w_room, w_tables⟩
theorem atStart : AtStart classFile x code maxLocals ret World_1 tables_1 room_1 Calls_1 rest_1 Pre_1 launch0 p0 e0 about1 theMethod args0 below0 :=
  ⟨lists_1, trivial, launch0.admits_env _ _ _, launch0.least_env, fairChoices_fair.cas, fairChoices_fair.clock, w_frames, w_args, w_heap, w_applies, trivial, trivial, w_case⟩
end start1
theorem witness_1 : WitnessClaimed_1 := ⟨start1.p0, start1.e0, start1.about1, start1.theMethod, start1.args0, start1.below0, start1.atStart⟩
end Jvm.Pilot.@@N@@
