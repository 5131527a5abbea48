import JvmDerived
import JvmDerived.Pilot.@@N@@Statement
import JvmDerived.Pilot.@@N@@Code
set_option linter.unusedVariables false
set_option linter.unusedSimpArgs false
namespace Jvm.RoadKit
open Sem ClassFile Op Lib Jvm.Stand Jvm.Free Jvm.LawKit
def GoW (p : Program) (e : Env) (below : List Frame) (s : State) (Q : Option Value → Heap → List Loc → Prop) (k n : Nat) (u : State) : Prop :=
  ∃ s₂ o, Steps p.tables e below u s₂ ∧ s₂.status = .running ∧ Ended s₂ below o ∧ ∃ v L, o = .returned v ∧ Q v s₂.heap L ∧ FrameEnd s o s₂ L k n
def PureQ (r : Value) (h0 : Heap) (n0 : Nat) (v : Option Value) (h : Heap) (L : List Loc) : Prop := v = some r ∧ Fr n0 L ∧ h = h0
def ValQ (r : Value) (n0 : Nat) (v : Option Value) (h : Heap) (L : List Loc) : Prop := v = some r ∧ Fr n0 L
section New
variable {p : Program} {l : Launch} {e : Env} {R : Room} {s : State} {m : MethodId} {args : Array Value} {below : List Frame} {meth : Method} {c : Code} {T : State} {locs : List Loc} {cells slots : Nat} {Q : Option Value → Heap → List Loc → Prop} {k n : Nat} {u v : State}
theorem GoW.mk (h : GoW p e below s Q k n u) : ∃ s₂ o, Steps p.tables e below u s₂ ∧ s₂.status = .running ∧ Ended s₂ below o ∧ ∃ v L, o = .returned v ∧ Q v s₂.heap L ∧ FrameEnd s o s₂ L k n := h
theorem GoW.st (h : ∀ t, Steps p.tables e below u t → Steps p.tables e below v t) (q : GoW p e below s Q k n u) : GoW p e below s Q k n v := by
  obtain ⟨s₂, o, h1, h2⟩ := q; exact ⟨s₂, o, h _ h1, h2⟩
theorem GoW.sg {T' : State} (g' : JFrame) (h : ∀ t, Steps p.tables e below (T'.setTop g') t → Steps p.tables e below v t) (q : GoW p e below s Q k n (T'.setTop g')) : GoW p e below s Q k n v := GoW.st h q
theorem retI (X : Stand p l e R s m args below meth c T locs cells slots) (hx : p.tables.exec = Jvm.exec) {pc : Nat} {Ls : Array Slot} {z : Int32} {rest : List Value} (hret : meth.sig.returnType = some .int) (hd : decode c.code pc = .ok (.ireturn, 1)) {fs : List Frame}
    (hl : ∀ (f : JFrame) (acts : List Action), f.method = m → f.locked = none → f.entered = [] → (doReturn e (T.setTop f) acts (some (.int z))).1 = T.setFrames fs) : Steps p.tables e below (T.setTop (mkF m pc Ls (.int z :: rest))) (T.setFrames fs) := by
  have hm' : T.vm.method? m = some meth := X.method'
  have hn : narrow .int (.int z) = .int z := rfl
  show Steps p.tables e below (T.setTop { method := m, pc := pc, locals := Ls, stack := _ :: rest, locked := none }) _
  jvm_step X.here [X.here.top, hx, hd, hm', hret, hn]
  first | (intro acts; rw [hl _ acts rfl rfl rfl]) | rw [hl _ _ rfl rfl rfl]
  exact Steps.refl _
theorem GoW.retN (X : Stand p l e R s m args below meth c T locs cells slots) (hx : p.tables.exec = Jvm.exec) {pc : Nat} {Ls : Array Slot} {z : Int32} {t : FieldType} {rest : List Value} (hret : meth.sig.returnType = some t) (ht : t = .boolean ∨ t = .byte ∨ t = .char ∨ t = .short)
    (hd : decode c.code pc = .ok (.ireturn, 1)) (hlk : meth.locks = false) (hq : Q (some (.int (nar t z))) T.heap locs) (hk : cells ≤ k) (hn : slots ≤ n) : GoW p e below s Q k n (T.setTop (mkF m pc Ls (.int z :: rest))) := by
  obtain ⟨fs, hr, hrun, hended, hW, hsame⟩ := X.leave (v := some (.int (nar t z))) (fun h => by rw [hret] at h; cases h) hlk
  exact ⟨_, _, Jvm.RoadKit.retN X hx hret ht hd hr, hrun, hended, _, _, rfl, hq, ⟨_, rfl⟩, hW, hsame.mono hk hn⟩
theorem GoW.retI (X : Stand p l e R s m args below meth c T locs cells slots) (hx : p.tables.exec = Jvm.exec) {pc : Nat} {Ls : Array Slot} {z : Int32} {rest : List Value} (hret : meth.sig.returnType = some .int)
    (hd : decode c.code pc = .ok (.ireturn, 1)) (hlk : meth.locks = false) (hq : Q (some (.int z)) T.heap locs) (hk : cells ≤ k) (hn : slots ≤ n) : GoW p e below s Q k n (T.setTop (mkF m pc Ls (.int z :: rest))) := by
  obtain ⟨fs, hr, hrun, hended, hW, hsame⟩ := X.leave (v := some (.int z)) (fun h => by rw [hret] at h; cases h) hlk
  exact ⟨_, _, Jvm.RoadKit.retI X hx hret hd hr, hrun, hended, _, _, rfl, hq, ⟨_, rfl⟩, hW, hsame.mono hk hn⟩
theorem GoW.retL (X : Stand p l e R s m args below meth c T locs cells slots) (hx : p.tables.exec = Jvm.exec) {pc : Nat} {Ls : Array Slot} {z : Int64} {rest : List Value} (hret : meth.sig.returnType = some .long)
    (hd : decode c.code pc = .ok (.lreturn, 1)) (hlk : meth.locks = false) (hq : Q (some (.long z)) T.heap locs) (hk : cells ≤ k) (hn : slots ≤ n) : GoW p e below s Q k n (T.setTop (mkF m pc Ls (.long z :: rest))) := by
  obtain ⟨fs, hr, hrun, hended, hW, hsame⟩ := X.leave (v := some (.long z)) (fun h => by rw [hret] at h; cases h) hlk
  exact ⟨_, _, retOut X hx hret rfl (Or.inr (Or.inl ⟨rfl, rfl, z, rfl⟩)) hd hr, hrun, hended, _, _, rfl, hq, ⟨_, rfl⟩, hW, hsame.mono hk hn⟩
theorem GoW.retA (X : Stand p l e R s m args below meth c T locs cells slots) (hx : p.tables.exec = Jvm.exec) {pc : Nat} {Ls : Array Slot} {w : Value} {t : FieldType} {rest : List Value} (hret : meth.sig.returnType = some t) (hw : w.isRef = true) (ht : t.isReference = true)
    (hn' : narrow t w = w) (hd : decode c.code pc = .ok (.areturn, 1)) (hlk : meth.locks = false) (hq : Q (some w) T.heap locs) (hk : cells ≤ k) (hn : slots ≤ n) : GoW p e below s Q k n (T.setTop (mkF m pc Ls (w :: rest))) := by
  obtain ⟨fs, hr, hrun, hended, hW, hsame⟩ := X.leave (v := some w) (fun h => by rw [hret] at h; cases h) hlk
  exact ⟨_, _, retOut X hx hret hn' (Or.inr (Or.inr (Or.inr (Or.inr ⟨rfl, ht, hw⟩)))) hd hr, hrun, hended, _, _, rfl, hq, ⟨_, rfl⟩, hW, hsame.mono hk hn⟩
theorem GoW.retV (X : Stand p l e R s m args below meth c T locs cells slots) (hx : p.tables.exec = Jvm.exec) {pc : Nat} {Ls : Array Slot} (hret : meth.sig.returnType = none)
    (hd : decode c.code pc = .ok (.return_, 1)) (hlk : meth.locks = false) (hq : Q none T.heap locs) (hk : cells ≤ k) (hn : slots ≤ n) : GoW p e below s Q k n (T.setTop (mkF m pc Ls [])) := by
  obtain ⟨fs, hr, hrun, hended, hW, hsame⟩ := X.leave (v := none) (fun _ => rfl) hlk
  exact ⟨_, _, X.returnOut hx hret hd hr, hrun, hended, _, _, rfl, hq, ⟨_, rfl⟩, hW, hsame.mono hk hn⟩
theorem own_eqI {args : Array Value} {first s : State} {o : Option Outcome} {idx : List Nat} {t : Term} {i : Int32} (h : (Jvm.Cond.eq t (.int i)).value args first o s idx = some true) : t.eval args first o idx s = some (.int i) := by
  obtain ⟨x, y, hx, hy, k1, k2⟩ := cmp_v (Or.inl h)
  rw [Term.int_eval] at hy
  cases hy
  obtain ⟨z, rfl⟩ := k2
  have q := gotT (Cond.eq_ints hx (Term.int_eval i)) h
  rw [hx, q]
theorem own_ne {args : Array Value} {first s : State} {o : Option Outcome} {idx : List Nat} {t u : Term} {C n d : String} {i j : Int32} {a b : Addr} (h1 : (Jvm.Cond.eq (.field t C n d) (.int i)).value args first o s idx = some true) (h2 : (Jvm.Cond.eq (.field u C n d) (.int j)).value args first o s idx = some true)
    (ha : t.eval args first o idx s = some (.ref a)) (hb : u.eval args first o idx s = some (.ref b)) (hij : i ≠ j) : a ≠ b := fun e => by
  subst e
  have q1 := own_eqI h1
  have q2 := own_eqI h2
  rw [fld_at ha] at q1
  rw [fld_at hb, q1] at q2
  exact hij (by cases q2; rfl)
theorem own_staK0 {Z : State} {h h' : Heap} {C n d : String} {v : Value} (F : Sta Z h C n d v) (K : Keep h h' []) : Sta Z h' C n d v := by
  obtain ⟨cf, i, k, f, st, cell, h1, h2, h3, h4, h5, r⟩ := F; exact ⟨cf, i, k, f, st, cell, h1, h2, h3, h4, K.2.1 _ _ h5 nin0, r⟩
theorem own_staK1 {Z : State} {h h' : Heap} {C n d K0 : String} {v : Value} {a : Addr} (F : Sta Z h C n d v) (K : Keep h h' [a]) (E : Exa Z h a K0) : Sta Z h' C n d v := by
  obtain ⟨cf, i, k, f, st, cell, h1, h2, h3, h4, h5, h6, r⟩ := F
  refine ⟨cf, i, k, f, st, cell, h1, h2, h3, h4, K.2.1 _ _ h5 (ninS (fun q => ?_) nin0), h6, r⟩
  subst q
  obtain ⟨cell2, k2, g1, -, -, g2, -⟩ := E
  cases h5.symm.trans g1
  rw [h6] at g2; cases g2
theorem GoW.retD (X : Stand p l e R s m args below meth c T locs cells slots) (hx : p.tables.exec = Jvm.exec) {pc : Nat} {Ls : Array Slot} {z : UInt64} {rest : List Value} (hret : meth.sig.returnType = some .double)
    (hd : decode c.code pc = .ok (.dreturn, 1)) (hlk : meth.locks = false) (hq : Q (some (.double z)) T.heap locs) (hk : cells ≤ k) (hn : slots ≤ n) : GoW p e below s Q k n (T.setTop (mkF m pc Ls (.double z :: rest))) := by
  obtain ⟨fs, hr, hrun, hended, hW, hsame⟩ := X.leave (v := some (.double z)) (fun h => by rw [hret] at h; cases h) hlk
  exact ⟨_, _, retOut X hx hret rfl (Or.inr (Or.inr (Or.inl ⟨rfl, rfl, z, rfl⟩))) hd hr, hrun, hended, _, _, rfl, hq, ⟨_, rfl⟩, hW, hsame.mono hk hn⟩
theorem own_pop2L {tb : Tables} [Ours tb] {e : Env} {below : List Frame} {T target : State} {m : MethodId} {c : Code} {g : JFrame} (h : At T m c below) (hx : tb.exec = Jvm.exec) (hg : g.method = m) {x : Int64} {rest : List Value} (hd : decode c.code g.pc = .ok (.pop2, 1)) (hs : g.stack = .long x :: rest)
    (hr : Steps tb e below (T.setTop { g with pc := g.pc + 1, stack := rest }) target) : Steps tb e below (T.setTop g) target := by
  subst hg
  jvm_step h [h.top, hx, hd, hs, Value.category]
  exact hr
end New
end Jvm.RoadKit
namespace Jvm.Pilot.@@N@@
open Jvm Jvm.ClassFile Sem Op Lib Jvm.Free Jvm.Stand Jvm.LawKit Jvm.RoadKit Bundle Jvm.Pilot.@@N@@.Jvm.D
theorem ww {Z : State} {a0 : Array Value} (hw : ∀ d ∈ tables_1, d.before a0 Z = true) (i : Nat) {d : Jvm.Cond} (h : tables_1[i]? = some d) : d.before a0 Z = true := hw _ (List.mem_of_getElem? h)
theorem d1_0 : decode jdk_29_method_69_code 0 = .ok (.iload_n 0, 1) := by decide +kernel
theorem d1_1 : decode jdk_29_method_69_code 1 = .ok (.iload_n 1, 1) := by decide +kernel
theorem d1_2 : decode jdk_29_method_69_code 2 = .ok (.if_icmp .gt 7, 3) := by decide +kernel
theorem d1_9 : decode jdk_29_method_69_code 9 = .ok (.iload_n 1, 1) := by decide +kernel
theorem d1_10 : decode jdk_29_method_69_code 10 = .ok (.ireturn, 1) := by decide +kernel
theorem d1_5 : decode jdk_29_method_69_code 5 = .ok (.iload_n 0, 1) := by decide +kernel
theorem d1_6 : decode jdk_29_method_69_code 6 = .ok (.goto 4, 3) := by decide +kernel
theorem d2_0 : decode jdk_29_method_65_code 0 = .ok (.iload_n 0, 1) := by decide +kernel
theorem d2_1 : decode jdk_29_method_65_code 1 = .ok (.iload_n 1, 1) := by decide +kernel
theorem d2_2 : decode jdk_29_method_65_code 2 = .ok (.if_icmp .lt 7, 3) := by decide +kernel
theorem d2_9 : decode jdk_29_method_65_code 9 = .ok (.iload_n 1, 1) := by decide +kernel
theorem d2_10 : decode jdk_29_method_65_code 10 = .ok (.ireturn, 1) := by decide +kernel
theorem d2_5 : decode jdk_29_method_65_code 5 = .ok (.iload_n 0, 1) := by decide +kernel
theorem d2_6 : decode jdk_29_method_65_code 6 = .ok (.goto 4, 3) := by decide +kernel
theorem pn_com_example_relaystack_relaystack_Element : plainName "com/example/relaystack/relaystack/Element" = true := by first | (simp [plainName, overriddenIn]; done) | decide +kernel
theorem d3_0 : decode prog_11_method_11_code 0 = .ok (.iload_n 0, 1) := by decide +kernel
theorem d3_1 : decode prog_11_method_11_code 1 = .ok (.bipush 32, 2) := by decide +kernel
theorem d3_3 : decode prog_11_method_11_code 3 = .ok (.if_icmp .lt 9, 3) := by decide +kernel
theorem d3_12 : decode prog_11_method_11_code 12 = .ok (.iload_n 0, 1) := by decide +kernel
theorem d3_13 : decode prog_11_method_11_code 13 = .ok (.bipush 9, 2) := by decide +kernel
theorem d3_15 : decode prog_11_method_11_code 15 = .ok (.if_icmp .eq 33, 3) := by decide +kernel
theorem d3_48 : decode prog_11_method_11_code 48 = .ok (.iconst 1, 1) := by decide +kernel
theorem d3_49 : decode prog_11_method_11_code 49 = .ok (.goto 4, 3) := by decide +kernel
theorem d3_53 : decode prog_11_method_11_code 53 = .ok (.ireturn, 1) := by decide +kernel
theorem d3_18 : decode prog_11_method_11_code 18 = .ok (.iload_n 0, 1) := by decide +kernel
theorem d3_19 : decode prog_11_method_11_code 19 = .ok (.bipush 10, 2) := by decide +kernel
theorem d3_21 : decode prog_11_method_11_code 21 = .ok (.if_icmp .eq 27, 3) := by decide +kernel
theorem d3_24 : decode prog_11_method_11_code 24 = .ok (.iload_n 0, 1) := by decide +kernel
theorem d3_25 : decode prog_11_method_11_code 25 = .ok (.bipush 13, 2) := by decide +kernel
theorem d3_27 : decode prog_11_method_11_code 27 = .ok (.if_icmp .eq 21, 3) := by decide +kernel
theorem d3_30 : decode prog_11_method_11_code 30 = .ok (.iload_n 0, 1) := by decide +kernel
theorem d3_31 : decode prog_11_method_11_code 31 = .ok (.ldc 176, 2) := by decide +kernel
theorem d3_33 : decode prog_11_method_11_code 33 = .ok (.if_icmp .lt 9, 3) := by decide +kernel
theorem d3_42 : decode prog_11_method_11_code 42 = .ok (.iload_n 0, 1) := by decide +kernel
theorem d3_43 : decode prog_11_method_11_code 43 = .ok (.ldc 178, 2) := by decide +kernel
theorem d3_45 : decode prog_11_method_11_code 45 = .ok (.if_icmp .le 7, 3) := by decide +kernel
theorem d3_52 : decode prog_11_method_11_code 52 = .ok (.iconst 0, 1) := by decide +kernel
theorem d3_36 : decode prog_11_method_11_code 36 = .ok (.iload_n 0, 1) := by decide +kernel
theorem d3_37 : decode prog_11_method_11_code 37 = .ok (.ldc 177, 2) := by decide +kernel
theorem d3_39 : decode prog_11_method_11_code 39 = .ok (.if_icmp .lt 9, 3) := by decide +kernel
theorem d3_6 : decode prog_11_method_11_code 6 = .ok (.iload_n 0, 1) := by decide +kernel
theorem d3_7 : decode prog_11_method_11_code 7 = .ok (.ldc 144, 2) := by decide +kernel
theorem d3_9 : decode prog_11_method_11_code 9 = .ok (.if_icmp .lt 39, 3) := by decide +kernel
theorem pn_com_example_relaystack_relaystack_ElementCanHoldPinLaw : plainName "com/example/relaystack/relaystack/ElementCanHoldPinLaw" = true := by first | (simp [plainName, overriddenIn]; done) | decide +kernel
theorem d4_0 : decode method_2_code 0 = .ok (.iload_n 0, 1) := by decide +kernel
theorem d4_1 : decode method_2_code 1 = .ok (.bipush 32, 2) := by decide +kernel
theorem d4_3 : decode method_2_code 3 = .ok (.if_icmp .ge 27, 3) := by decide +kernel
theorem d4_6 : decode method_2_code 6 = .ok (.iload_n 0, 1) := by decide +kernel
theorem d4_7 : decode method_2_code 7 = .ok (.bipush 9, 2) := by decide +kernel
theorem d4_9 : decode method_2_code 9 = .ok (.if_icmp .eq 19, 3) := by decide +kernel
theorem d4_28 : decode method_2_code 28 = .ok (.iconst 0, 1) := by decide +kernel
theorem d4_29 : decode method_2_code 29 = .ok (.ireturn, 1) := by decide +kernel
theorem d4_12 : decode method_2_code 12 = .ok (.iload_n 0, 1) := by decide +kernel
theorem d4_13 : decode method_2_code 13 = .ok (.bipush 10, 2) := by decide +kernel
theorem d4_15 : decode method_2_code 15 = .ok (.if_icmp .eq 13, 3) := by decide +kernel
theorem d4_18 : decode method_2_code 18 = .ok (.iload_n 0, 1) := by decide +kernel
theorem d4_19 : decode method_2_code 19 = .ok (.bipush 13, 2) := by decide +kernel
theorem d4_21 : decode method_2_code 21 = .ok (.if_icmp .eq 7, 3) := by decide +kernel
theorem d4_24 : decode method_2_code 24 = .ok (.iconst 1, 1) := by decide +kernel
theorem d4_25 : decode method_2_code 25 = .ok (.goto 4, 3) := by decide +kernel
theorem d4_30 : decode method_2_code 30 = .ok (.iload_n 0, 1) := by decide +kernel
theorem d4_31 : decode method_2_code 31 = .ok (.ldc 7, 2) := by decide +kernel
theorem d4_33 : decode method_2_code 33 = .ok (.if_icmp .lt 11, 3) := by decide +kernel
theorem d4_44 : decode method_2_code 44 = .ok (.iload_n 0, 1) := by decide +kernel
theorem d4_45 : decode method_2_code 45 = .ok (.ldc 9, 2) := by decide +kernel
theorem d4_47 : decode method_2_code 47 = .ok (.if_icmp .eq 9, 3) := by decide +kernel
theorem d4_56 : decode method_2_code 56 = .ok (.iconst 1, 1) := by decide +kernel
theorem d4_57 : decode method_2_code 57 = .ok (.ireturn, 1) := by decide +kernel
theorem d4_50 : decode method_2_code 50 = .ok (.iload_n 0, 1) := by decide +kernel
theorem d4_51 : decode method_2_code 51 = .ok (.ldc 10, 2) := by decide +kernel
theorem d4_53 : decode method_2_code 53 = .ok (.if_icmp .ne 5, 3) := by decide +kernel
theorem d4_58 : decode method_2_code 58 = .ok (.iconst 0, 1) := by decide +kernel
theorem d4_59 : decode method_2_code 59 = .ok (.ireturn, 1) := by decide +kernel
theorem d4_36 : decode method_2_code 36 = .ok (.iload_n 0, 1) := by decide +kernel
theorem d4_37 : decode method_2_code 37 = .ok (.ldc 8, 2) := by decide +kernel
theorem d4_39 : decode method_2_code 39 = .ok (.if_icmp .gt 5, 3) := by decide +kernel
theorem d4_42 : decode method_2_code 42 = .ok (.iconst 1, 1) := by decide +kernel
theorem d4_43 : decode method_2_code 43 = .ok (.ireturn, 1) := by decide +kernel
abbrev K0 (p0 : Int32) (p1 : Int32) : Array Slot := #[.val (.int p0), .val (.int p1), .unset, .unset, .unset]
abbrev K1 (p0 : Int32) (p1 : Int32) (p2 : Int32) : Array Slot := #[.val (.int p0), .val (.int p1), .val (.int p2), .unset, .unset]
theorem pd_28I29Z : parseMethodDescriptor "(I)Z" = some ⟨[.int], some .boolean⟩ := by decide +kernel
abbrev K2 (p0 : Int32) (p1 : Int32) (p2 : Addr) : Array Slot := #[.val (.int p0), .val (.int p1), .unset, .val (.ref p2), .unset]
abbrev K3 (p0 : Int32) (p1 : Int32) (p2 : Addr) (p3 : Int32) : Array Slot := #[.val (.int p0), .val (.int p1), .unset, .val (.ref p2), .val (.int p3)]
abbrev K4 (p0 : Int32) (p1 : Int32) (p2 : Int32) (p3 : Addr) (p4 : Int32) : Array Slot := #[.val (.int p0), .val (.int p1), .val (.int p2), .val (.ref p3), .val (.int p4)]
theorem pd_28II29I : parseMethodDescriptor "(II)I" = some ⟨[.int, .int], some .int⟩ := by decide +kernel
def own_edge (j : Int32) : Int32 := ([0, 9, 10, 13, 31, 32, 55295, 55296, 56319, 56320, 57343, 57344, 65533, 65534, 65535, 65536, 1114111] : List Int32).getD j.toNatClampNeg 0
theorem own_getD (L : List Int32) (n : Nat) : (L.map Value.int).getD n (.int 0) = .int (L.getD n 0) := by
  simp only [List.getD_eq_getElem?_getD, List.getElem?_map]
  cases L[n]? <;> rfl
theorem own_edge_at (j : Int32) : ([(.int (0 : Int32)), (.int (9 : Int32)), (.int (10 : Int32)), (.int (13 : Int32)), (.int (31 : Int32)), (.int (32 : Int32)), (.int (55295 : Int32)), (.int (55296 : Int32)), (.int (56319 : Int32)), (.int (56320 : Int32)), (.int (57343 : Int32)), (.int (57344 : Int32)), (.int (65533 : Int32)), (.int (65534 : Int32)), (.int (65535 : Int32)), (.int (65536 : Int32)), (.int (1114111 : Int32))] : List Value).getD j.toNatClampNeg (.int (0 : Int32)) = .int (own_edge j) := own_getD [0, 9, 10, 13, 31, 32, 55295, 55296, 56319, 56320, 57343, 57344, 65533, 65534, 65535, 65536, 1114111] _
theorem own_idx (y : Int32) : ¬ (((y.toUInt32 >>> ((1 : Int32) &&& 31).toUInt32).toInt32 &&& (2147483647 : Int32)) % (17 : Int32)) < 0 ∧ (((y.toUInt32 >>> ((1 : Int32) &&& 31).toUInt32).toInt32 &&& (2147483647 : Int32)) % (17 : Int32)) < (17 : Int32) := by
  have h1 := c_and (y.toUInt32 >>> ((1 : Int32) &&& 31).toUInt32).toInt32 2147483647 (by decide)
  generalize (y.toUInt32 >>> ((1 : Int32) &&& 31).toUInt32).toInt32 &&& (2147483647 : Int32) = u at *
  have h2 := (c_irem u 17 17 rfl).1 h1.1
  rw [Int32.lt_iff_toInt_lt, Int32.lt_iff_toInt_lt, h2]
  show ¬ u.toInt % 17 < 0 ∧ u.toInt % 17 < 17
  omega
def F1 (q1 : Int32) (q2 : Int32) : Int32 := (if q2 < q1 then q2 else q1)
theorem ef1_rm1 (m : MethodId) (q1 : Int32) (q2 : Int32) : entryFrame m #[(.int q1), (.int q2)] 2 = (mkF m 0 #[.val (.int q1), .val (.int q2)] []) := by first | (simp [entryFrame, mkF, argsToLocals, Value.category, maxLocals]; done) | rfl
set_option maxRecDepth 65536 in
set_option maxHeartbeats 40000000 in
theorem rm1 (l : Launch) (Z : State) (a0 : Array Value) (hw : ∀ d ∈ tables_1, d.before a0 Z = true) (ws : List Jvm.Cond) (q1 : Int32) (q2 : Int32)  (h0 : Heap) (n0 : Nat)  :
    MetFree l (⟨"java/lang/Math", "min", "(II)I"⟩ : MethodName) (head1 (Jvm.Cond.code (⟨"java/lang/Math", "min", "(II)I"⟩ : MethodName) jdk_29_method_69_code 2 (some .int) :: ws) ({ frames := 0, cells := 0, slots := 0, locals := 0 } : Room)) (fun a U => a = #[(.int q1), (.int q2)] ∧ Z.Warmed39 U.vm ∧ U.heap = h0) (fun _ _ _ _ _ => True) (fun _ U o U' => ∃ v L, o = .returned v ∧ (PureQ (.int (F1 q1 q2)) h0 n0) v U'.heap L ∧ FrameEnd U o U' L 0 0) := by
  refine MetFree.of_bodySF (Jvm.Free.JP.mathPlain rfl (by decide +kernel)) hisR ?_
  intro p e s m args below meth c s₁ Bd hml0 hP hK
  obtain ⟨rfl, hZ, hh⟩ := hP
  have hx := Bd.exec
  have hby := Bd.bytes
  have hml : c.maxLocals = 2 := hml0
  have hown : s.vm.findClass "java/lang/Math" = some m.cls := findClass_of_methodNamed Bd.named
  have hnm := (name_of_methodNamed Bd.named Bd.method).1
  have X0 : Stand p l e ({ frames := 0, cells := 0, slots := 0, locals := 0 } : Room) s m #[(.int q1), (.int q2)] below meth c s₁ [] 0 0 := Stand.of_body Bd
  have e0 : s₁.heap = h0 := by rw [← hh, Bd.state]; rfl
  have N0 := Fr.nil n0
  refine GoW.mk ?_
  refine GoW.st (fun t k => castTop (ef1_rm1 m q1 q2) k) ?_
  show GoW p e below s (PureQ (.int (F1 q1 q2)) h0 n0) 0 0 (s₁.setTop (mkF m 0 #[.val (.int q1), .val (.int q2)] []))
  refine GoW.sg (mkF m 1 #[.val (.int q1), .val (.int q2)] [(.int q1)]) (fun t k => XS.iloadN X0.here hx rfl (hb hby d1_0) rfl k) ?_
  refine GoW.sg (mkF m 2 #[.val (.int q1), .val (.int q2)] [(.int q2), (.int q1)]) (fun t k => XS.iloadN X0.here hx rfl (hb hby d1_1) rfl k) ?_
  by_cases c1 : q2 < q1
  · refine GoW.sg (mkF m 9 #[.val (.int q1), .val (.int q2)] []) (fun t k => XS.icmpYes X0.here hx rfl (pc0 := 2) (pc' := 9) rfl (hb hby d1_2) rfl (tlt c1).2.2.1 (by decide) (by decide) k) ?_
    refine GoW.sg (mkF m 10 #[.val (.int q1), .val (.int q2)] [(.int q2)]) (fun t k => XS.iloadN X0.here hx rfl (hb hby d1_9) rfl k) ?_
    refine GoW.retI X0 hx Bd.returns (hb hby d1_10) Bd.notSynchronized ?_ (by decide) (by decide)
    have hq : (F1 q1 q2) = q2 := by unfold F1; rw [if_pos c1]; try rfl
    exact ⟨by rw [hq] <;> rfl, N0, e0⟩
  · refine GoW.sg (mkF m 5 #[.val (.int q1), .val (.int q2)] []) (fun t k => XS.icmpNo X0.here hx rfl (hb hby d1_2) rfl (flt c1).2.2.1 k) ?_
    refine GoW.sg (mkF m 6 #[.val (.int q1), .val (.int q2)] [(.int q1)]) (fun t k => XS.iloadN X0.here hx rfl (hb hby d1_5) rfl k) ?_
    refine GoW.sg (mkF m 10 #[.val (.int q1), .val (.int q2)] [(.int q1)]) (fun t k => XS.goto X0.here hx rfl (pc0 := 6) (pc' := 10) rfl (hb hby d1_6) (by decide) (by decide) k) ?_
    refine GoW.retI X0 hx Bd.returns (hb hby d1_10) Bd.notSynchronized ?_ (by decide) (by decide)
    have hq : (F1 q1 q2) = q1 := by unfold F1; rw [if_neg c1]; try rfl
    exact ⟨by rw [hq] <;> rfl, N0, e0⟩
def F2 (q1 : Int32) (q2 : Int32) : Int32 := (if q1 < q2 then q2 else q1)
theorem ef2_rm2 (m : MethodId) (q1 : Int32) (q2 : Int32) : entryFrame m #[(.int q1), (.int q2)] 2 = (mkF m 0 #[.val (.int q1), .val (.int q2)] []) := by first | (simp [entryFrame, mkF, argsToLocals, Value.category, maxLocals]; done) | rfl
set_option maxRecDepth 65536 in
set_option maxHeartbeats 40000000 in
theorem rm2 (l : Launch) (Z : State) (a0 : Array Value) (hw : ∀ d ∈ tables_1, d.before a0 Z = true) (ws : List Jvm.Cond) (q1 : Int32) (q2 : Int32)  (h0 : Heap) (n0 : Nat)  :
    MetFree l (⟨"java/lang/Math", "max", "(II)I"⟩ : MethodName) (head1 (Jvm.Cond.code (⟨"java/lang/Math", "max", "(II)I"⟩ : MethodName) jdk_29_method_65_code 2 (some .int) :: ws) ({ frames := 0, cells := 0, slots := 0, locals := 0 } : Room)) (fun a U => a = #[(.int q1), (.int q2)] ∧ Z.Warmed39 U.vm ∧ U.heap = h0) (fun _ _ _ _ _ => True) (fun _ U o U' => ∃ v L, o = .returned v ∧ (PureQ (.int (F2 q1 q2)) h0 n0) v U'.heap L ∧ FrameEnd U o U' L 0 0) := by
  refine MetFree.of_bodySF (Jvm.Free.JP.mathPlain rfl (by decide +kernel)) hisR ?_
  intro p e s m args below meth c s₁ Bd hml0 hP hK
  obtain ⟨rfl, hZ, hh⟩ := hP
  have hx := Bd.exec
  have hby := Bd.bytes
  have hml : c.maxLocals = 2 := hml0
  have hown : s.vm.findClass "java/lang/Math" = some m.cls := findClass_of_methodNamed Bd.named
  have hnm := (name_of_methodNamed Bd.named Bd.method).1
  have X0 : Stand p l e ({ frames := 0, cells := 0, slots := 0, locals := 0 } : Room) s m #[(.int q1), (.int q2)] below meth c s₁ [] 0 0 := Stand.of_body Bd
  have e0 : s₁.heap = h0 := by rw [← hh, Bd.state]; rfl
  have N0 := Fr.nil n0
  refine GoW.mk ?_
  refine GoW.st (fun t k => castTop (ef2_rm2 m q1 q2) k) ?_
  show GoW p e below s (PureQ (.int (F2 q1 q2)) h0 n0) 0 0 (s₁.setTop (mkF m 0 #[.val (.int q1), .val (.int q2)] []))
  refine GoW.sg (mkF m 1 #[.val (.int q1), .val (.int q2)] [(.int q1)]) (fun t k => XS.iloadN X0.here hx rfl (hb hby d2_0) rfl k) ?_
  refine GoW.sg (mkF m 2 #[.val (.int q1), .val (.int q2)] [(.int q2), (.int q1)]) (fun t k => XS.iloadN X0.here hx rfl (hb hby d2_1) rfl k) ?_
  by_cases c2 : q1 < q2
  · refine GoW.sg (mkF m 9 #[.val (.int q1), .val (.int q2)] []) (fun t k => XS.icmpYes X0.here hx rfl (pc0 := 2) (pc' := 9) rfl (hb hby d2_2) rfl (tlt c2).1 (by decide) (by decide) k) ?_
    refine GoW.sg (mkF m 10 #[.val (.int q1), .val (.int q2)] [(.int q2)]) (fun t k => XS.iloadN X0.here hx rfl (hb hby d2_9) rfl k) ?_
    refine GoW.retI X0 hx Bd.returns (hb hby d2_10) Bd.notSynchronized ?_ (by decide) (by decide)
    have hq : (F2 q1 q2) = q2 := by unfold F2; rw [if_pos c2]; try rfl
    exact ⟨by rw [hq] <;> rfl, N0, e0⟩
  · refine GoW.sg (mkF m 5 #[.val (.int q1), .val (.int q2)] []) (fun t k => XS.icmpNo X0.here hx rfl (hb hby d2_2) rfl (flt c2).1 k) ?_
    refine GoW.sg (mkF m 6 #[.val (.int q1), .val (.int q2)] [(.int q1)]) (fun t k => XS.iloadN X0.here hx rfl (hb hby d2_5) rfl k) ?_
    refine GoW.sg (mkF m 10 #[.val (.int q1), .val (.int q2)] [(.int q1)]) (fun t k => XS.goto X0.here hx rfl (pc0 := 6) (pc' := 10) rfl (hb hby d2_6) (by decide) (by decide) k) ?_
    refine GoW.retI X0 hx Bd.returns (hb hby d2_10) Bd.notSynchronized ?_ (by decide) (by decide)
    have hq : (F2 q1 q2) = q1 := by unfold F2; rw [if_neg c2]; try rfl
    exact ⟨by rw [hq] <;> rfl, N0, e0⟩
def F3 (q1 : Int32) : Int32 := (if q1 < (32 : Int32) then (if q1 = (9 : Int32) then (1 : Int32) else (if q1 = (10 : Int32) then (1 : Int32) else (if q1 = (13 : Int32) then (1 : Int32) else (if q1 < (57344 : Int32) then (if (65535 : Int32) < q1 then (1 : Int32) else (0 : Int32)) else (if q1 < (65534 : Int32) then (1 : Int32) else (if (65535 : Int32) < q1 then (1 : Int32) else (0 : Int32))))))) else (if q1 < (55296 : Int32) then (1 : Int32) else (if q1 = (9 : Int32) then (1 : Int32) else (if q1 = (10 : Int32) then (1 : Int32) else (if q1 = (13 : Int32) then (1 : Int32) else (if q1 < (57344 : Int32) then (if (65535 : Int32) < q1 then (1 : Int32) else (0 : Int32)) else (if q1 < (65534 : Int32) then (1 : Int32) else (if (65535 : Int32) < q1 then (1 : Int32) else (0 : Int32)))))))))
theorem ef3_rm3 (m : MethodId) (q1 : Int32) : entryFrame m #[(.int q1)] 1 = (mkF m 0 #[.val (.int q1)] []) := by first | (simp [entryFrame, mkF, argsToLocals, Value.category, maxLocals]; done) | rfl
set_option maxRecDepth 65536 in
set_option maxHeartbeats 40000000 in
theorem rm3 (l : Launch) (Z : State) (a0 : Array Value) (hw : ∀ d ∈ tables_1, d.before a0 Z = true) (ws : List Jvm.Cond) (q1 : Int32)  (h0 : Heap) (n0 : Nat)  :
    MetFree l (⟨"com/example/relaystack/relaystack/Element", "canHold", "(I)Z"⟩ : MethodName) (head1 (Jvm.Cond.code (⟨"com/example/relaystack/relaystack/Element", "canHold", "(I)Z"⟩ : MethodName) prog_11_method_11_code 1 (some .boolean) :: ws) ({ frames := 0, cells := 0, slots := 0, locals := 0 } : Room)) (fun a U => a = #[(.int q1)] ∧ Z.Warmed39 U.vm ∧ U.heap = h0) (fun _ _ _ _ _ => True) (fun _ U o U' => ∃ v L, o = .returned v ∧ (PureQ (.int (F3 q1)) h0 n0) v U'.heap L ∧ FrameEnd U o U' L 0 0) := by
  refine MetFree.of_bodySF (plainFor_of_name pn_com_example_relaystack_relaystack_Element) hisR ?_
  intro p e s m args below meth c s₁ Bd hml0 hP hK
  obtain ⟨rfl, hZ, hh⟩ := hP
  have hx := Bd.exec
  have hby := Bd.bytes
  have hml : c.maxLocals = 1 := hml0
  have hown : s.vm.findClass "com/example/relaystack/relaystack/Element" = some m.cls := findClass_of_methodNamed Bd.named
  have hnm := (name_of_methodNamed Bd.named Bd.method).1
  have X0 : Stand p l e ({ frames := 0, cells := 0, slots := 0, locals := 0 } : Room) s m #[(.int q1)] below meth c s₁ [] 0 0 := Stand.of_body Bd
  have e0 : s₁.heap = h0 := by rw [← hh, Bd.state]; rfl
  have N0 := Fr.nil n0
  refine GoW.mk ?_
  refine GoW.st (fun t k => castTop (ef3_rm3 m q1) k) ?_
  show GoW p e below s (PureQ (.int (F3 q1)) h0 n0) 0 0 (s₁.setTop (mkF m 0 #[.val (.int q1)] []))
  refine GoW.sg (mkF m 1 #[.val (.int q1)] [(.int q1)]) (fun t k => XS.iloadN X0.here hx rfl (hb hby d3_0) rfl k) ?_
  refine GoW.sg (mkF m 3 #[.val (.int q1)] [(.int 32), (.int q1)]) (fun t k => XS.bipush X0.here hx rfl (hb hby d3_1) k) ?_
  by_cases c3 : q1 < (32 : Int32)
  · refine GoW.sg (mkF m 12 #[.val (.int q1)] []) (fun t k => XS.icmpYes X0.here hx rfl (pc0 := 3) (pc' := 12) rfl (hb hby d3_3) rfl (tlt c3).1 (by decide) (by decide) k) ?_
    refine GoW.sg (mkF m 13 #[.val (.int q1)] [(.int q1)]) (fun t k => XS.iloadN X0.here hx rfl (hb hby d3_12) rfl k) ?_
    refine GoW.sg (mkF m 15 #[.val (.int q1)] [(.int 9), (.int q1)]) (fun t k => XS.bipush X0.here hx rfl (hb hby d3_13) k) ?_
    by_cases c4 : q1 = (9 : Int32)
    · refine GoW.sg (mkF m 48 #[.val (.int q1)] []) (fun t k => XS.icmpYes X0.here hx rfl (pc0 := 15) (pc' := 48) rfl (hb hby d3_15) rfl (teq c4).1 (by decide) (by decide) k) ?_
      refine GoW.sg (mkF m 49 #[.val (.int q1)] [(.int 1)]) (fun t k => XS.iconst X0.here hx rfl (hb hby d3_48) k) ?_
      refine GoW.sg (mkF m 53 #[.val (.int q1)] [(.int 1)]) (fun t k => XS.goto X0.here hx rfl (pc0 := 49) (pc' := 53) rfl (hb hby d3_49) (by decide) (by decide) k) ?_
      refine GoW.retN X0 hx (t := .boolean) Bd.returns (by simp) (hb hby d3_53) Bd.notSynchronized ?_ (by decide) (by decide)
      have hq : (F3 q1) = (1 : Int32) := by unfold F3; rw [if_pos c3, if_pos c4]; try rfl
      exact ⟨by rw [hq] <;> rfl, N0, e0⟩
    · refine GoW.sg (mkF m 18 #[.val (.int q1)] []) (fun t k => XS.icmpNo X0.here hx rfl (hb hby d3_15) rfl (feq c4).1 k) ?_
      refine GoW.sg (mkF m 19 #[.val (.int q1)] [(.int q1)]) (fun t k => XS.iloadN X0.here hx rfl (hb hby d3_18) rfl k) ?_
      refine GoW.sg (mkF m 21 #[.val (.int q1)] [(.int 10), (.int q1)]) (fun t k => XS.bipush X0.here hx rfl (hb hby d3_19) k) ?_
      by_cases c5 : q1 = (10 : Int32)
      · refine GoW.sg (mkF m 48 #[.val (.int q1)] []) (fun t k => XS.icmpYes X0.here hx rfl (pc0 := 21) (pc' := 48) rfl (hb hby d3_21) rfl (teq c5).1 (by decide) (by decide) k) ?_
        refine GoW.sg (mkF m 49 #[.val (.int q1)] [(.int 1)]) (fun t k => XS.iconst X0.here hx rfl (hb hby d3_48) k) ?_
        refine GoW.sg (mkF m 53 #[.val (.int q1)] [(.int 1)]) (fun t k => XS.goto X0.here hx rfl (pc0 := 49) (pc' := 53) rfl (hb hby d3_49) (by decide) (by decide) k) ?_
        refine GoW.retN X0 hx (t := .boolean) Bd.returns (by simp) (hb hby d3_53) Bd.notSynchronized ?_ (by decide) (by decide)
        have hq : (F3 q1) = (1 : Int32) := by unfold F3; rw [if_pos c3, if_neg c4, if_pos c5]; try rfl
        exact ⟨by rw [hq] <;> rfl, N0, e0⟩
      · refine GoW.sg (mkF m 24 #[.val (.int q1)] []) (fun t k => XS.icmpNo X0.here hx rfl (hb hby d3_21) rfl (feq c5).1 k) ?_
        refine GoW.sg (mkF m 25 #[.val (.int q1)] [(.int q1)]) (fun t k => XS.iloadN X0.here hx rfl (hb hby d3_24) rfl k) ?_
        refine GoW.sg (mkF m 27 #[.val (.int q1)] [(.int 13), (.int q1)]) (fun t k => XS.bipush X0.here hx rfl (hb hby d3_25) k) ?_
        by_cases c6 : q1 = (13 : Int32)
        · refine GoW.sg (mkF m 48 #[.val (.int q1)] []) (fun t k => XS.icmpYes X0.here hx rfl (pc0 := 27) (pc' := 48) rfl (hb hby d3_27) rfl (teq c6).1 (by decide) (by decide) k) ?_
          refine GoW.sg (mkF m 49 #[.val (.int q1)] [(.int 1)]) (fun t k => XS.iconst X0.here hx rfl (hb hby d3_48) k) ?_
          refine GoW.sg (mkF m 53 #[.val (.int q1)] [(.int 1)]) (fun t k => XS.goto X0.here hx rfl (pc0 := 49) (pc' := 53) rfl (hb hby d3_49) (by decide) (by decide) k) ?_
          refine GoW.retN X0 hx (t := .boolean) Bd.returns (by simp) (hb hby d3_53) Bd.notSynchronized ?_ (by decide) (by decide)
          have hq : (F3 q1) = (1 : Int32) := by unfold F3; rw [if_pos c3, if_neg c4, if_neg c5, if_pos c6]; try rfl
          exact ⟨by rw [hq] <;> rfl, N0, e0⟩
        · refine GoW.sg (mkF m 30 #[.val (.int q1)] []) (fun t k => XS.icmpNo X0.here hx rfl (hb hby d3_27) rfl (feq c6).1 k) ?_
          refine GoW.sg (mkF m 31 #[.val (.int q1)] [(.int q1)]) (fun t k => XS.iloadN X0.here hx rfl (hb hby d3_30) rfl k) ?_
          refine GoW.sg (mkF m 33 #[.val (.int q1)] [(.int 57344), (.int q1)]) (fun t k => X0.ldcInt hx hown (mvT hZ (ww hw 24 rfl)) (g := (mkF m 31 #[.val (.int q1)] [(.int q1)])) rfl (hb hby d3_31) t k) ?_
          by_cases c7 : q1 < (57344 : Int32)
          · refine GoW.sg (mkF m 42 #[.val (.int q1)] []) (fun t k => XS.icmpYes X0.here hx rfl (pc0 := 33) (pc' := 42) rfl (hb hby d3_33) rfl (tlt c7).1 (by decide) (by decide) k) ?_
            refine GoW.sg (mkF m 43 #[.val (.int q1)] [(.int q1)]) (fun t k => XS.iloadN X0.here hx rfl (hb hby d3_42) rfl k) ?_
            refine GoW.sg (mkF m 45 #[.val (.int q1)] [(.int 65535), (.int q1)]) (fun t k => X0.ldcInt hx hown (mvT hZ (ww hw 25 rfl)) (g := (mkF m 43 #[.val (.int q1)] [(.int q1)])) rfl (hb hby d3_43) t k) ?_
            by_cases c8 : (65535 : Int32) < q1
            · refine GoW.sg (mkF m 48 #[.val (.int q1)] []) (fun t k => XS.icmpNo X0.here hx rfl (hb hby d3_45) rfl (tlt c8).2.2.2 k) ?_
              refine GoW.sg (mkF m 49 #[.val (.int q1)] [(.int 1)]) (fun t k => XS.iconst X0.here hx rfl (hb hby d3_48) k) ?_
              refine GoW.sg (mkF m 53 #[.val (.int q1)] [(.int 1)]) (fun t k => XS.goto X0.here hx rfl (pc0 := 49) (pc' := 53) rfl (hb hby d3_49) (by decide) (by decide) k) ?_
              refine GoW.retN X0 hx (t := .boolean) Bd.returns (by simp) (hb hby d3_53) Bd.notSynchronized ?_ (by decide) (by decide)
              have hq : (F3 q1) = (1 : Int32) := by unfold F3; rw [if_pos c3, if_neg c4, if_neg c5, if_neg c6, if_pos c7, if_pos c8]; try rfl
              exact ⟨by rw [hq] <;> rfl, N0, e0⟩
            · refine GoW.sg (mkF m 52 #[.val (.int q1)] []) (fun t k => XS.icmpYes X0.here hx rfl (pc0 := 45) (pc' := 52) rfl (hb hby d3_45) rfl (flt c8).2.2.2 (by decide) (by decide) k) ?_
              refine GoW.sg (mkF m 53 #[.val (.int q1)] [(.int 0)]) (fun t k => XS.iconst X0.here hx rfl (hb hby d3_52) k) ?_
              refine GoW.retN X0 hx (t := .boolean) Bd.returns (by simp) (hb hby d3_53) Bd.notSynchronized ?_ (by decide) (by decide)
              have hq : (F3 q1) = (0 : Int32) := by unfold F3; rw [if_pos c3, if_neg c4, if_neg c5, if_neg c6, if_pos c7, if_neg c8]; try rfl
              exact ⟨by rw [hq] <;> rfl, N0, e0⟩
          · refine GoW.sg (mkF m 36 #[.val (.int q1)] []) (fun t k => XS.icmpNo X0.here hx rfl (hb hby d3_33) rfl (flt c7).1 k) ?_
            refine GoW.sg (mkF m 37 #[.val (.int q1)] [(.int q1)]) (fun t k => XS.iloadN X0.here hx rfl (hb hby d3_36) rfl k) ?_
            refine GoW.sg (mkF m 39 #[.val (.int q1)] [(.int 65534), (.int q1)]) (fun t k => X0.ldcInt hx hown (mvT hZ (ww hw 31 rfl)) (g := (mkF m 37 #[.val (.int q1)] [(.int q1)])) rfl (hb hby d3_37) t k) ?_
            by_cases c9 : q1 < (65534 : Int32)
            · refine GoW.sg (mkF m 48 #[.val (.int q1)] []) (fun t k => XS.icmpYes X0.here hx rfl (pc0 := 39) (pc' := 48) rfl (hb hby d3_39) rfl (tlt c9).1 (by decide) (by decide) k) ?_
              refine GoW.sg (mkF m 49 #[.val (.int q1)] [(.int 1)]) (fun t k => XS.iconst X0.here hx rfl (hb hby d3_48) k) ?_
              refine GoW.sg (mkF m 53 #[.val (.int q1)] [(.int 1)]) (fun t k => XS.goto X0.here hx rfl (pc0 := 49) (pc' := 53) rfl (hb hby d3_49) (by decide) (by decide) k) ?_
              refine GoW.retN X0 hx (t := .boolean) Bd.returns (by simp) (hb hby d3_53) Bd.notSynchronized ?_ (by decide) (by decide)
              have hq : (F3 q1) = (1 : Int32) := by unfold F3; rw [if_pos c3, if_neg c4, if_neg c5, if_neg c6, if_neg c7, if_pos c9]; try rfl
              exact ⟨by rw [hq] <;> rfl, N0, e0⟩
            · refine GoW.sg (mkF m 42 #[.val (.int q1)] []) (fun t k => XS.icmpNo X0.here hx rfl (hb hby d3_39) rfl (flt c9).1 k) ?_
              refine GoW.sg (mkF m 43 #[.val (.int q1)] [(.int q1)]) (fun t k => XS.iloadN X0.here hx rfl (hb hby d3_42) rfl k) ?_
              refine GoW.sg (mkF m 45 #[.val (.int q1)] [(.int 65535), (.int q1)]) (fun t k => X0.ldcInt hx hown (mvT hZ (ww hw 25 rfl)) (g := (mkF m 43 #[.val (.int q1)] [(.int q1)])) rfl (hb hby d3_43) t k) ?_
              by_cases c10 : (65535 : Int32) < q1
              · refine GoW.sg (mkF m 48 #[.val (.int q1)] []) (fun t k => XS.icmpNo X0.here hx rfl (hb hby d3_45) rfl (tlt c10).2.2.2 k) ?_
                refine GoW.sg (mkF m 49 #[.val (.int q1)] [(.int 1)]) (fun t k => XS.iconst X0.here hx rfl (hb hby d3_48) k) ?_
                refine GoW.sg (mkF m 53 #[.val (.int q1)] [(.int 1)]) (fun t k => XS.goto X0.here hx rfl (pc0 := 49) (pc' := 53) rfl (hb hby d3_49) (by decide) (by decide) k) ?_
                refine GoW.retN X0 hx (t := .boolean) Bd.returns (by simp) (hb hby d3_53) Bd.notSynchronized ?_ (by decide) (by decide)
                have hq : (F3 q1) = (1 : Int32) := by unfold F3; rw [if_pos c3, if_neg c4, if_neg c5, if_neg c6, if_neg c7, if_neg c9, if_pos c10]; try rfl
                exact ⟨by rw [hq] <;> rfl, N0, e0⟩
              · refine GoW.sg (mkF m 52 #[.val (.int q1)] []) (fun t k => XS.icmpYes X0.here hx rfl (pc0 := 45) (pc' := 52) rfl (hb hby d3_45) rfl (flt c10).2.2.2 (by decide) (by decide) k) ?_
                refine GoW.sg (mkF m 53 #[.val (.int q1)] [(.int 0)]) (fun t k => XS.iconst X0.here hx rfl (hb hby d3_52) k) ?_
                refine GoW.retN X0 hx (t := .boolean) Bd.returns (by simp) (hb hby d3_53) Bd.notSynchronized ?_ (by decide) (by decide)
                have hq : (F3 q1) = (0 : Int32) := by unfold F3; rw [if_pos c3, if_neg c4, if_neg c5, if_neg c6, if_neg c7, if_neg c9, if_neg c10]; try rfl
                exact ⟨by rw [hq] <;> rfl, N0, e0⟩
  · refine GoW.sg (mkF m 6 #[.val (.int q1)] []) (fun t k => XS.icmpNo X0.here hx rfl (hb hby d3_3) rfl (flt c3).1 k) ?_
    refine GoW.sg (mkF m 7 #[.val (.int q1)] [(.int q1)]) (fun t k => XS.iloadN X0.here hx rfl (hb hby d3_6) rfl k) ?_
    refine GoW.sg (mkF m 9 #[.val (.int q1)] [(.int 55296), (.int q1)]) (fun t k => X0.ldcInt hx hown (mvT hZ (ww hw 30 rfl)) (g := (mkF m 7 #[.val (.int q1)] [(.int q1)])) rfl (hb hby d3_7) t k) ?_
    by_cases c11 : q1 < (55296 : Int32)
    · refine GoW.sg (mkF m 48 #[.val (.int q1)] []) (fun t k => XS.icmpYes X0.here hx rfl (pc0 := 9) (pc' := 48) rfl (hb hby d3_9) rfl (tlt c11).1 (by decide) (by decide) k) ?_
      refine GoW.sg (mkF m 49 #[.val (.int q1)] [(.int 1)]) (fun t k => XS.iconst X0.here hx rfl (hb hby d3_48) k) ?_
      refine GoW.sg (mkF m 53 #[.val (.int q1)] [(.int 1)]) (fun t k => XS.goto X0.here hx rfl (pc0 := 49) (pc' := 53) rfl (hb hby d3_49) (by decide) (by decide) k) ?_
      refine GoW.retN X0 hx (t := .boolean) Bd.returns (by simp) (hb hby d3_53) Bd.notSynchronized ?_ (by decide) (by decide)
      have hq : (F3 q1) = (1 : Int32) := by unfold F3; rw [if_neg c3, if_pos c11]; try rfl
      exact ⟨by rw [hq] <;> rfl, N0, e0⟩
    · refine GoW.sg (mkF m 12 #[.val (.int q1)] []) (fun t k => XS.icmpNo X0.here hx rfl (hb hby d3_9) rfl (flt c11).1 k) ?_
      refine GoW.sg (mkF m 13 #[.val (.int q1)] [(.int q1)]) (fun t k => XS.iloadN X0.here hx rfl (hb hby d3_12) rfl k) ?_
      refine GoW.sg (mkF m 15 #[.val (.int q1)] [(.int 9), (.int q1)]) (fun t k => XS.bipush X0.here hx rfl (hb hby d3_13) k) ?_
      by_cases c12 : q1 = (9 : Int32)
      · refine GoW.sg (mkF m 48 #[.val (.int q1)] []) (fun t k => XS.icmpYes X0.here hx rfl (pc0 := 15) (pc' := 48) rfl (hb hby d3_15) rfl (teq c12).1 (by decide) (by decide) k) ?_
        refine GoW.sg (mkF m 49 #[.val (.int q1)] [(.int 1)]) (fun t k => XS.iconst X0.here hx rfl (hb hby d3_48) k) ?_
        refine GoW.sg (mkF m 53 #[.val (.int q1)] [(.int 1)]) (fun t k => XS.goto X0.here hx rfl (pc0 := 49) (pc' := 53) rfl (hb hby d3_49) (by decide) (by decide) k) ?_
        refine GoW.retN X0 hx (t := .boolean) Bd.returns (by simp) (hb hby d3_53) Bd.notSynchronized ?_ (by decide) (by decide)
        have hq : (F3 q1) = (1 : Int32) := by unfold F3; rw [if_neg c3, if_neg c11, if_pos c12]; try rfl
        exact ⟨by rw [hq] <;> rfl, N0, e0⟩
      · refine GoW.sg (mkF m 18 #[.val (.int q1)] []) (fun t k => XS.icmpNo X0.here hx rfl (hb hby d3_15) rfl (feq c12).1 k) ?_
        refine GoW.sg (mkF m 19 #[.val (.int q1)] [(.int q1)]) (fun t k => XS.iloadN X0.here hx rfl (hb hby d3_18) rfl k) ?_
        refine GoW.sg (mkF m 21 #[.val (.int q1)] [(.int 10), (.int q1)]) (fun t k => XS.bipush X0.here hx rfl (hb hby d3_19) k) ?_
        by_cases c13 : q1 = (10 : Int32)
        · refine GoW.sg (mkF m 48 #[.val (.int q1)] []) (fun t k => XS.icmpYes X0.here hx rfl (pc0 := 21) (pc' := 48) rfl (hb hby d3_21) rfl (teq c13).1 (by decide) (by decide) k) ?_
          refine GoW.sg (mkF m 49 #[.val (.int q1)] [(.int 1)]) (fun t k => XS.iconst X0.here hx rfl (hb hby d3_48) k) ?_
          refine GoW.sg (mkF m 53 #[.val (.int q1)] [(.int 1)]) (fun t k => XS.goto X0.here hx rfl (pc0 := 49) (pc' := 53) rfl (hb hby d3_49) (by decide) (by decide) k) ?_
          refine GoW.retN X0 hx (t := .boolean) Bd.returns (by simp) (hb hby d3_53) Bd.notSynchronized ?_ (by decide) (by decide)
          have hq : (F3 q1) = (1 : Int32) := by unfold F3; rw [if_neg c3, if_neg c11, if_neg c12, if_pos c13]; try rfl
          exact ⟨by rw [hq] <;> rfl, N0, e0⟩
        · refine GoW.sg (mkF m 24 #[.val (.int q1)] []) (fun t k => XS.icmpNo X0.here hx rfl (hb hby d3_21) rfl (feq c13).1 k) ?_
          refine GoW.sg (mkF m 25 #[.val (.int q1)] [(.int q1)]) (fun t k => XS.iloadN X0.here hx rfl (hb hby d3_24) rfl k) ?_
          refine GoW.sg (mkF m 27 #[.val (.int q1)] [(.int 13), (.int q1)]) (fun t k => XS.bipush X0.here hx rfl (hb hby d3_25) k) ?_
          by_cases c14 : q1 = (13 : Int32)
          · refine GoW.sg (mkF m 48 #[.val (.int q1)] []) (fun t k => XS.icmpYes X0.here hx rfl (pc0 := 27) (pc' := 48) rfl (hb hby d3_27) rfl (teq c14).1 (by decide) (by decide) k) ?_
            refine GoW.sg (mkF m 49 #[.val (.int q1)] [(.int 1)]) (fun t k => XS.iconst X0.here hx rfl (hb hby d3_48) k) ?_
            refine GoW.sg (mkF m 53 #[.val (.int q1)] [(.int 1)]) (fun t k => XS.goto X0.here hx rfl (pc0 := 49) (pc' := 53) rfl (hb hby d3_49) (by decide) (by decide) k) ?_
            refine GoW.retN X0 hx (t := .boolean) Bd.returns (by simp) (hb hby d3_53) Bd.notSynchronized ?_ (by decide) (by decide)
            have hq : (F3 q1) = (1 : Int32) := by unfold F3; rw [if_neg c3, if_neg c11, if_neg c12, if_neg c13, if_pos c14]; try rfl
            exact ⟨by rw [hq] <;> rfl, N0, e0⟩
          · refine GoW.sg (mkF m 30 #[.val (.int q1)] []) (fun t k => XS.icmpNo X0.here hx rfl (hb hby d3_27) rfl (feq c14).1 k) ?_
            refine GoW.sg (mkF m 31 #[.val (.int q1)] [(.int q1)]) (fun t k => XS.iloadN X0.here hx rfl (hb hby d3_30) rfl k) ?_
            refine GoW.sg (mkF m 33 #[.val (.int q1)] [(.int 57344), (.int q1)]) (fun t k => X0.ldcInt hx hown (mvT hZ (ww hw 24 rfl)) (g := (mkF m 31 #[.val (.int q1)] [(.int q1)])) rfl (hb hby d3_31) t k) ?_
            by_cases c15 : q1 < (57344 : Int32)
            · refine GoW.sg (mkF m 42 #[.val (.int q1)] []) (fun t k => XS.icmpYes X0.here hx rfl (pc0 := 33) (pc' := 42) rfl (hb hby d3_33) rfl (tlt c15).1 (by decide) (by decide) k) ?_
              refine GoW.sg (mkF m 43 #[.val (.int q1)] [(.int q1)]) (fun t k => XS.iloadN X0.here hx rfl (hb hby d3_42) rfl k) ?_
              refine GoW.sg (mkF m 45 #[.val (.int q1)] [(.int 65535), (.int q1)]) (fun t k => X0.ldcInt hx hown (mvT hZ (ww hw 25 rfl)) (g := (mkF m 43 #[.val (.int q1)] [(.int q1)])) rfl (hb hby d3_43) t k) ?_
              by_cases c16 : (65535 : Int32) < q1
              · refine GoW.sg (mkF m 48 #[.val (.int q1)] []) (fun t k => XS.icmpNo X0.here hx rfl (hb hby d3_45) rfl (tlt c16).2.2.2 k) ?_
                refine GoW.sg (mkF m 49 #[.val (.int q1)] [(.int 1)]) (fun t k => XS.iconst X0.here hx rfl (hb hby d3_48) k) ?_
                refine GoW.sg (mkF m 53 #[.val (.int q1)] [(.int 1)]) (fun t k => XS.goto X0.here hx rfl (pc0 := 49) (pc' := 53) rfl (hb hby d3_49) (by decide) (by decide) k) ?_
                refine GoW.retN X0 hx (t := .boolean) Bd.returns (by simp) (hb hby d3_53) Bd.notSynchronized ?_ (by decide) (by decide)
                have hq : (F3 q1) = (1 : Int32) := by unfold F3; rw [if_neg c3, if_neg c11, if_neg c12, if_neg c13, if_neg c14, if_pos c15, if_pos c16]; try rfl
                exact ⟨by rw [hq] <;> rfl, N0, e0⟩
              · refine GoW.sg (mkF m 52 #[.val (.int q1)] []) (fun t k => XS.icmpYes X0.here hx rfl (pc0 := 45) (pc' := 52) rfl (hb hby d3_45) rfl (flt c16).2.2.2 (by decide) (by decide) k) ?_
                refine GoW.sg (mkF m 53 #[.val (.int q1)] [(.int 0)]) (fun t k => XS.iconst X0.here hx rfl (hb hby d3_52) k) ?_
                refine GoW.retN X0 hx (t := .boolean) Bd.returns (by simp) (hb hby d3_53) Bd.notSynchronized ?_ (by decide) (by decide)
                have hq : (F3 q1) = (0 : Int32) := by unfold F3; rw [if_neg c3, if_neg c11, if_neg c12, if_neg c13, if_neg c14, if_pos c15, if_neg c16]; try rfl
                exact ⟨by rw [hq] <;> rfl, N0, e0⟩
            · refine GoW.sg (mkF m 36 #[.val (.int q1)] []) (fun t k => XS.icmpNo X0.here hx rfl (hb hby d3_33) rfl (flt c15).1 k) ?_
              refine GoW.sg (mkF m 37 #[.val (.int q1)] [(.int q1)]) (fun t k => XS.iloadN X0.here hx rfl (hb hby d3_36) rfl k) ?_
              refine GoW.sg (mkF m 39 #[.val (.int q1)] [(.int 65534), (.int q1)]) (fun t k => X0.ldcInt hx hown (mvT hZ (ww hw 31 rfl)) (g := (mkF m 37 #[.val (.int q1)] [(.int q1)])) rfl (hb hby d3_37) t k) ?_
              by_cases c17 : q1 < (65534 : Int32)
              · refine GoW.sg (mkF m 48 #[.val (.int q1)] []) (fun t k => XS.icmpYes X0.here hx rfl (pc0 := 39) (pc' := 48) rfl (hb hby d3_39) rfl (tlt c17).1 (by decide) (by decide) k) ?_
                refine GoW.sg (mkF m 49 #[.val (.int q1)] [(.int 1)]) (fun t k => XS.iconst X0.here hx rfl (hb hby d3_48) k) ?_
                refine GoW.sg (mkF m 53 #[.val (.int q1)] [(.int 1)]) (fun t k => XS.goto X0.here hx rfl (pc0 := 49) (pc' := 53) rfl (hb hby d3_49) (by decide) (by decide) k) ?_
                refine GoW.retN X0 hx (t := .boolean) Bd.returns (by simp) (hb hby d3_53) Bd.notSynchronized ?_ (by decide) (by decide)
                have hq : (F3 q1) = (1 : Int32) := by unfold F3; rw [if_neg c3, if_neg c11, if_neg c12, if_neg c13, if_neg c14, if_neg c15, if_pos c17]; try rfl
                exact ⟨by rw [hq] <;> rfl, N0, e0⟩
              · refine GoW.sg (mkF m 42 #[.val (.int q1)] []) (fun t k => XS.icmpNo X0.here hx rfl (hb hby d3_39) rfl (flt c17).1 k) ?_
                refine GoW.sg (mkF m 43 #[.val (.int q1)] [(.int q1)]) (fun t k => XS.iloadN X0.here hx rfl (hb hby d3_42) rfl k) ?_
                refine GoW.sg (mkF m 45 #[.val (.int q1)] [(.int 65535), (.int q1)]) (fun t k => X0.ldcInt hx hown (mvT hZ (ww hw 25 rfl)) (g := (mkF m 43 #[.val (.int q1)] [(.int q1)])) rfl (hb hby d3_43) t k) ?_
                by_cases c18 : (65535 : Int32) < q1
                · refine GoW.sg (mkF m 48 #[.val (.int q1)] []) (fun t k => XS.icmpNo X0.here hx rfl (hb hby d3_45) rfl (tlt c18).2.2.2 k) ?_
                  refine GoW.sg (mkF m 49 #[.val (.int q1)] [(.int 1)]) (fun t k => XS.iconst X0.here hx rfl (hb hby d3_48) k) ?_
                  refine GoW.sg (mkF m 53 #[.val (.int q1)] [(.int 1)]) (fun t k => XS.goto X0.here hx rfl (pc0 := 49) (pc' := 53) rfl (hb hby d3_49) (by decide) (by decide) k) ?_
                  refine GoW.retN X0 hx (t := .boolean) Bd.returns (by simp) (hb hby d3_53) Bd.notSynchronized ?_ (by decide) (by decide)
                  have hq : (F3 q1) = (1 : Int32) := by unfold F3; rw [if_neg c3, if_neg c11, if_neg c12, if_neg c13, if_neg c14, if_neg c15, if_neg c17, if_pos c18]; try rfl
                  exact ⟨by rw [hq] <;> rfl, N0, e0⟩
                · refine GoW.sg (mkF m 52 #[.val (.int q1)] []) (fun t k => XS.icmpYes X0.here hx rfl (pc0 := 45) (pc' := 52) rfl (hb hby d3_45) rfl (flt c18).2.2.2 (by decide) (by decide) k) ?_
                  refine GoW.sg (mkF m 53 #[.val (.int q1)] [(.int 0)]) (fun t k => XS.iconst X0.here hx rfl (hb hby d3_52) k) ?_
                  refine GoW.retN X0 hx (t := .boolean) Bd.returns (by simp) (hb hby d3_53) Bd.notSynchronized ?_ (by decide) (by decide)
                  have hq : (F3 q1) = (0 : Int32) := by unfold F3; rw [if_neg c3, if_neg c11, if_neg c12, if_neg c13, if_neg c14, if_neg c15, if_neg c17, if_neg c18]; try rfl
                  exact ⟨by rw [hq] <;> rfl, N0, e0⟩
def F4 (q1 : Int32) : Int32 := (if q1 < (32 : Int32) then (if q1 = (9 : Int32) then (0 : Int32) else (if q1 = (10 : Int32) then (0 : Int32) else (if q1 = (13 : Int32) then (0 : Int32) else (1 : Int32)))) else (if q1 < (55296 : Int32) then (if q1 = (65534 : Int32) then (1 : Int32) else (if q1 = (65535 : Int32) then (1 : Int32) else (0 : Int32))) else (if (57343 : Int32) < q1 then (if q1 = (65534 : Int32) then (1 : Int32) else (if q1 = (65535 : Int32) then (1 : Int32) else (0 : Int32))) else (1 : Int32))))
theorem ef4_rm4 (m : MethodId) (q1 : Int32) : entryFrame m #[(.int q1)] 1 = (mkF m 0 #[.val (.int q1)] []) := by first | (simp [entryFrame, mkF, argsToLocals, Value.category, maxLocals]; done) | rfl
set_option maxRecDepth 65536 in
set_option maxHeartbeats 40000000 in
theorem rm4 (l : Launch) (Z : State) (a0 : Array Value) (hw : ∀ d ∈ tables_1, d.before a0 Z = true) (ws : List Jvm.Cond) (q1 : Int32)  (h0 : Heap) (n0 : Nat)  :
    MetFree l (⟨"com/example/relaystack/relaystack/ElementCanHoldPinLaw", "refused", "(I)Z"⟩ : MethodName) (head1 (Jvm.Cond.code (⟨"com/example/relaystack/relaystack/ElementCanHoldPinLaw", "refused", "(I)Z"⟩ : MethodName) method_2_code 1 (some .boolean) :: ws) ({ frames := 0, cells := 0, slots := 0, locals := 0 } : Room)) (fun a U => a = #[(.int q1)] ∧ Z.Warmed39 U.vm ∧ U.heap = h0) (fun _ _ _ _ _ => True) (fun _ U o U' => ∃ v L, o = .returned v ∧ (PureQ (.int (F4 q1)) h0 n0) v U'.heap L ∧ FrameEnd U o U' L 0 0) := by
  refine MetFree.of_bodySF (plainFor_of_name pn_com_example_relaystack_relaystack_ElementCanHoldPinLaw) hisR ?_
  intro p e s m args below meth c s₁ Bd hml0 hP hK
  obtain ⟨rfl, hZ, hh⟩ := hP
  have hx := Bd.exec
  have hby := Bd.bytes
  have hml : c.maxLocals = 1 := hml0
  have hown : s.vm.findClass "com/example/relaystack/relaystack/ElementCanHoldPinLaw" = some m.cls := findClass_of_methodNamed Bd.named
  have hnm := (name_of_methodNamed Bd.named Bd.method).1
  have X0 : Stand p l e ({ frames := 0, cells := 0, slots := 0, locals := 0 } : Room) s m #[(.int q1)] below meth c s₁ [] 0 0 := Stand.of_body Bd
  have e0 : s₁.heap = h0 := by rw [← hh, Bd.state]; rfl
  have N0 := Fr.nil n0
  refine GoW.mk ?_
  refine GoW.st (fun t k => castTop (ef4_rm4 m q1) k) ?_
  show GoW p e below s (PureQ (.int (F4 q1)) h0 n0) 0 0 (s₁.setTop (mkF m 0 #[.val (.int q1)] []))
  refine GoW.sg (mkF m 1 #[.val (.int q1)] [(.int q1)]) (fun t k => XS.iloadN X0.here hx rfl (hb hby d4_0) rfl k) ?_
  refine GoW.sg (mkF m 3 #[.val (.int q1)] [(.int 32), (.int q1)]) (fun t k => XS.bipush X0.here hx rfl (hb hby d4_1) k) ?_
  by_cases c19 : q1 < (32 : Int32)
  · refine GoW.sg (mkF m 6 #[.val (.int q1)] []) (fun t k => XS.icmpNo X0.here hx rfl (hb hby d4_3) rfl (tlt c19).2.1 k) ?_
    refine GoW.sg (mkF m 7 #[.val (.int q1)] [(.int q1)]) (fun t k => XS.iloadN X0.here hx rfl (hb hby d4_6) rfl k) ?_
    refine GoW.sg (mkF m 9 #[.val (.int q1)] [(.int 9), (.int q1)]) (fun t k => XS.bipush X0.here hx rfl (hb hby d4_7) k) ?_
    by_cases c20 : q1 = (9 : Int32)
    · refine GoW.sg (mkF m 28 #[.val (.int q1)] []) (fun t k => XS.icmpYes X0.here hx rfl (pc0 := 9) (pc' := 28) rfl (hb hby d4_9) rfl (teq c20).1 (by decide) (by decide) k) ?_
      refine GoW.sg (mkF m 29 #[.val (.int q1)] [(.int 0)]) (fun t k => XS.iconst X0.here hx rfl (hb hby d4_28) k) ?_
      refine GoW.retN X0 hx (t := .boolean) Bd.returns (by simp) (hb hby d4_29) Bd.notSynchronized ?_ (by decide) (by decide)
      have hq : (F4 q1) = (0 : Int32) := by unfold F4; rw [if_pos c19, if_pos c20]; try rfl
      exact ⟨by rw [hq] <;> rfl, N0, e0⟩
    · refine GoW.sg (mkF m 12 #[.val (.int q1)] []) (fun t k => XS.icmpNo X0.here hx rfl (hb hby d4_9) rfl (feq c20).1 k) ?_
      refine GoW.sg (mkF m 13 #[.val (.int q1)] [(.int q1)]) (fun t k => XS.iloadN X0.here hx rfl (hb hby d4_12) rfl k) ?_
      refine GoW.sg (mkF m 15 #[.val (.int q1)] [(.int 10), (.int q1)]) (fun t k => XS.bipush X0.here hx rfl (hb hby d4_13) k) ?_
      by_cases c21 : q1 = (10 : Int32)
      · refine GoW.sg (mkF m 28 #[.val (.int q1)] []) (fun t k => XS.icmpYes X0.here hx rfl (pc0 := 15) (pc' := 28) rfl (hb hby d4_15) rfl (teq c21).1 (by decide) (by decide) k) ?_
        refine GoW.sg (mkF m 29 #[.val (.int q1)] [(.int 0)]) (fun t k => XS.iconst X0.here hx rfl (hb hby d4_28) k) ?_
        refine GoW.retN X0 hx (t := .boolean) Bd.returns (by simp) (hb hby d4_29) Bd.notSynchronized ?_ (by decide) (by decide)
        have hq : (F4 q1) = (0 : Int32) := by unfold F4; rw [if_pos c19, if_neg c20, if_pos c21]; try rfl
        exact ⟨by rw [hq] <;> rfl, N0, e0⟩
      · refine GoW.sg (mkF m 18 #[.val (.int q1)] []) (fun t k => XS.icmpNo X0.here hx rfl (hb hby d4_15) rfl (feq c21).1 k) ?_
        refine GoW.sg (mkF m 19 #[.val (.int q1)] [(.int q1)]) (fun t k => XS.iloadN X0.here hx rfl (hb hby d4_18) rfl k) ?_
        refine GoW.sg (mkF m 21 #[.val (.int q1)] [(.int 13), (.int q1)]) (fun t k => XS.bipush X0.here hx rfl (hb hby d4_19) k) ?_
        by_cases c22 : q1 = (13 : Int32)
        · refine GoW.sg (mkF m 28 #[.val (.int q1)] []) (fun t k => XS.icmpYes X0.here hx rfl (pc0 := 21) (pc' := 28) rfl (hb hby d4_21) rfl (teq c22).1 (by decide) (by decide) k) ?_
          refine GoW.sg (mkF m 29 #[.val (.int q1)] [(.int 0)]) (fun t k => XS.iconst X0.here hx rfl (hb hby d4_28) k) ?_
          refine GoW.retN X0 hx (t := .boolean) Bd.returns (by simp) (hb hby d4_29) Bd.notSynchronized ?_ (by decide) (by decide)
          have hq : (F4 q1) = (0 : Int32) := by unfold F4; rw [if_pos c19, if_neg c20, if_neg c21, if_pos c22]; try rfl
          exact ⟨by rw [hq] <;> rfl, N0, e0⟩
        · refine GoW.sg (mkF m 24 #[.val (.int q1)] []) (fun t k => XS.icmpNo X0.here hx rfl (hb hby d4_21) rfl (feq c22).1 k) ?_
          refine GoW.sg (mkF m 25 #[.val (.int q1)] [(.int 1)]) (fun t k => XS.iconst X0.here hx rfl (hb hby d4_24) k) ?_
          refine GoW.sg (mkF m 29 #[.val (.int q1)] [(.int 1)]) (fun t k => XS.goto X0.here hx rfl (pc0 := 25) (pc' := 29) rfl (hb hby d4_25) (by decide) (by decide) k) ?_
          refine GoW.retN X0 hx (t := .boolean) Bd.returns (by simp) (hb hby d4_29) Bd.notSynchronized ?_ (by decide) (by decide)
          have hq : (F4 q1) = (1 : Int32) := by unfold F4; rw [if_pos c19, if_neg c20, if_neg c21, if_neg c22]; try rfl
          exact ⟨by rw [hq] <;> rfl, N0, e0⟩
  · refine GoW.sg (mkF m 30 #[.val (.int q1)] []) (fun t k => XS.icmpYes X0.here hx rfl (pc0 := 3) (pc' := 30) rfl (hb hby d4_3) rfl (flt c19).2.1 (by decide) (by decide) k) ?_
    refine GoW.sg (mkF m 31 #[.val (.int q1)] [(.int q1)]) (fun t k => XS.iloadN X0.here hx rfl (hb hby d4_30) rfl k) ?_
    refine GoW.sg (mkF m 33 #[.val (.int q1)] [(.int 55296), (.int q1)]) (fun t k => X0.ldcInt hx hown (mvT hZ (ww hw 2 rfl)) (g := (mkF m 31 #[.val (.int q1)] [(.int q1)])) rfl (hb hby d4_31) t k) ?_
    by_cases c23 : q1 < (55296 : Int32)
    · refine GoW.sg (mkF m 44 #[.val (.int q1)] []) (fun t k => XS.icmpYes X0.here hx rfl (pc0 := 33) (pc' := 44) rfl (hb hby d4_33) rfl (tlt c23).1 (by decide) (by decide) k) ?_
      refine GoW.sg (mkF m 45 #[.val (.int q1)] [(.int q1)]) (fun t k => XS.iloadN X0.here hx rfl (hb hby d4_44) rfl k) ?_
      refine GoW.sg (mkF m 47 #[.val (.int q1)] [(.int 65534), (.int q1)]) (fun t k => X0.ldcInt hx hown (mvT hZ (ww hw 8 rfl)) (g := (mkF m 45 #[.val (.int q1)] [(.int q1)])) rfl (hb hby d4_45) t k) ?_
      by_cases c24 : q1 = (65534 : Int32)
      · refine GoW.sg (mkF m 56 #[.val (.int q1)] []) (fun t k => XS.icmpYes X0.here hx rfl (pc0 := 47) (pc' := 56) rfl (hb hby d4_47) rfl (teq c24).1 (by decide) (by decide) k) ?_
        refine GoW.sg (mkF m 57 #[.val (.int q1)] [(.int 1)]) (fun t k => XS.iconst X0.here hx rfl (hb hby d4_56) k) ?_
        refine GoW.retN X0 hx (t := .boolean) Bd.returns (by simp) (hb hby d4_57) Bd.notSynchronized ?_ (by decide) (by decide)
        have hq : (F4 q1) = (1 : Int32) := by unfold F4; rw [if_neg c19, if_pos c23, if_pos c24]; try rfl
        exact ⟨by rw [hq] <;> rfl, N0, e0⟩
      · refine GoW.sg (mkF m 50 #[.val (.int q1)] []) (fun t k => XS.icmpNo X0.here hx rfl (hb hby d4_47) rfl (feq c24).1 k) ?_
        refine GoW.sg (mkF m 51 #[.val (.int q1)] [(.int q1)]) (fun t k => XS.iloadN X0.here hx rfl (hb hby d4_50) rfl k) ?_
        refine GoW.sg (mkF m 53 #[.val (.int q1)] [(.int 65535), (.int q1)]) (fun t k => X0.ldcInt hx hown (mvT hZ (ww hw 9 rfl)) (g := (mkF m 51 #[.val (.int q1)] [(.int q1)])) rfl (hb hby d4_51) t k) ?_
        by_cases c25 : q1 = (65535 : Int32)
        · refine GoW.sg (mkF m 56 #[.val (.int q1)] []) (fun t k => XS.icmpNo X0.here hx rfl (hb hby d4_53) rfl (teq c25).2 k) ?_
          refine GoW.sg (mkF m 57 #[.val (.int q1)] [(.int 1)]) (fun t k => XS.iconst X0.here hx rfl (hb hby d4_56) k) ?_
          refine GoW.retN X0 hx (t := .boolean) Bd.returns (by simp) (hb hby d4_57) Bd.notSynchronized ?_ (by decide) (by decide)
          have hq : (F4 q1) = (1 : Int32) := by unfold F4; rw [if_neg c19, if_pos c23, if_neg c24, if_pos c25]; try rfl
          exact ⟨by rw [hq] <;> rfl, N0, e0⟩
        · refine GoW.sg (mkF m 58 #[.val (.int q1)] []) (fun t k => XS.icmpYes X0.here hx rfl (pc0 := 53) (pc' := 58) rfl (hb hby d4_53) rfl (feq c25).2 (by decide) (by decide) k) ?_
          refine GoW.sg (mkF m 59 #[.val (.int q1)] [(.int 0)]) (fun t k => XS.iconst X0.here hx rfl (hb hby d4_58) k) ?_
          refine GoW.retN X0 hx (t := .boolean) Bd.returns (by simp) (hb hby d4_59) Bd.notSynchronized ?_ (by decide) (by decide)
          have hq : (F4 q1) = (0 : Int32) := by unfold F4; rw [if_neg c19, if_pos c23, if_neg c24, if_neg c25]; try rfl
          exact ⟨by rw [hq] <;> rfl, N0, e0⟩
    · refine GoW.sg (mkF m 36 #[.val (.int q1)] []) (fun t k => XS.icmpNo X0.here hx rfl (hb hby d4_33) rfl (flt c23).1 k) ?_
      refine GoW.sg (mkF m 37 #[.val (.int q1)] [(.int q1)]) (fun t k => XS.iloadN X0.here hx rfl (hb hby d4_36) rfl k) ?_
      refine GoW.sg (mkF m 39 #[.val (.int q1)] [(.int 57343), (.int q1)]) (fun t k => X0.ldcInt hx hown (mvT hZ (ww hw 5 rfl)) (g := (mkF m 37 #[.val (.int q1)] [(.int q1)])) rfl (hb hby d4_37) t k) ?_
      by_cases c26 : (57343 : Int32) < q1
      · refine GoW.sg (mkF m 44 #[.val (.int q1)] []) (fun t k => XS.icmpYes X0.here hx rfl (pc0 := 39) (pc' := 44) rfl (hb hby d4_39) rfl (tlt c26).2.2.1 (by decide) (by decide) k) ?_
        refine GoW.sg (mkF m 45 #[.val (.int q1)] [(.int q1)]) (fun t k => XS.iloadN X0.here hx rfl (hb hby d4_44) rfl k) ?_
        refine GoW.sg (mkF m 47 #[.val (.int q1)] [(.int 65534), (.int q1)]) (fun t k => X0.ldcInt hx hown (mvT hZ (ww hw 8 rfl)) (g := (mkF m 45 #[.val (.int q1)] [(.int q1)])) rfl (hb hby d4_45) t k) ?_
        by_cases c27 : q1 = (65534 : Int32)
        · refine GoW.sg (mkF m 56 #[.val (.int q1)] []) (fun t k => XS.icmpYes X0.here hx rfl (pc0 := 47) (pc' := 56) rfl (hb hby d4_47) rfl (teq c27).1 (by decide) (by decide) k) ?_
          refine GoW.sg (mkF m 57 #[.val (.int q1)] [(.int 1)]) (fun t k => XS.iconst X0.here hx rfl (hb hby d4_56) k) ?_
          refine GoW.retN X0 hx (t := .boolean) Bd.returns (by simp) (hb hby d4_57) Bd.notSynchronized ?_ (by decide) (by decide)
          have hq : (F4 q1) = (1 : Int32) := by unfold F4; rw [if_neg c19, if_neg c23, if_pos c26, if_pos c27]; try rfl
          exact ⟨by rw [hq] <;> rfl, N0, e0⟩
        · refine GoW.sg (mkF m 50 #[.val (.int q1)] []) (fun t k => XS.icmpNo X0.here hx rfl (hb hby d4_47) rfl (feq c27).1 k) ?_
          refine GoW.sg (mkF m 51 #[.val (.int q1)] [(.int q1)]) (fun t k => XS.iloadN X0.here hx rfl (hb hby d4_50) rfl k) ?_
          refine GoW.sg (mkF m 53 #[.val (.int q1)] [(.int 65535), (.int q1)]) (fun t k => X0.ldcInt hx hown (mvT hZ (ww hw 9 rfl)) (g := (mkF m 51 #[.val (.int q1)] [(.int q1)])) rfl (hb hby d4_51) t k) ?_
          by_cases c28 : q1 = (65535 : Int32)
          · refine GoW.sg (mkF m 56 #[.val (.int q1)] []) (fun t k => XS.icmpNo X0.here hx rfl (hb hby d4_53) rfl (teq c28).2 k) ?_
            refine GoW.sg (mkF m 57 #[.val (.int q1)] [(.int 1)]) (fun t k => XS.iconst X0.here hx rfl (hb hby d4_56) k) ?_
            refine GoW.retN X0 hx (t := .boolean) Bd.returns (by simp) (hb hby d4_57) Bd.notSynchronized ?_ (by decide) (by decide)
            have hq : (F4 q1) = (1 : Int32) := by unfold F4; rw [if_neg c19, if_neg c23, if_pos c26, if_neg c27, if_pos c28]; try rfl
            exact ⟨by rw [hq] <;> rfl, N0, e0⟩
          · refine GoW.sg (mkF m 58 #[.val (.int q1)] []) (fun t k => XS.icmpYes X0.here hx rfl (pc0 := 53) (pc' := 58) rfl (hb hby d4_53) rfl (feq c28).2 (by decide) (by decide) k) ?_
            refine GoW.sg (mkF m 59 #[.val (.int q1)] [(.int 0)]) (fun t k => XS.iconst X0.here hx rfl (hb hby d4_58) k) ?_
            refine GoW.retN X0 hx (t := .boolean) Bd.returns (by simp) (hb hby d4_59) Bd.notSynchronized ?_ (by decide) (by decide)
            have hq : (F4 q1) = (0 : Int32) := by unfold F4; rw [if_neg c19, if_neg c23, if_pos c26, if_neg c27, if_neg c28]; try rfl
            exact ⟨by rw [hq] <;> rfl, N0, e0⟩
      · refine GoW.sg (mkF m 42 #[.val (.int q1)] []) (fun t k => XS.icmpNo X0.here hx rfl (hb hby d4_39) rfl (flt c26).2.2.1 k) ?_
        refine GoW.sg (mkF m 43 #[.val (.int q1)] [(.int 1)]) (fun t k => XS.iconst X0.here hx rfl (hb hby d4_42) k) ?_
        refine GoW.retN X0 hx (t := .boolean) Bd.returns (by simp) (hb hby d4_43) Bd.notSynchronized ?_ (by decide) (by decide)
        have hq : (F4 q1) = (1 : Int32) := by unfold F4; rw [if_neg c19, if_neg c23, if_neg c26]; try rfl
        exact ⟨by rw [hq] <;> rfl, N0, e0⟩
def F0_6 (q1 : Int32) (q2 : Int32) (z58 : Int32) (z59 : Int32) (z62 : Int32) (b66 : Int32) : Int32 := (if (F3 z62) = b66 then (1 : Int32) else (0 : Int32))
def F0_5 (q1 : Int32) (q2 : Int32) (z58 : Int32) (z59 : Int32) (z62 : Int32) : Int32 := (F0_6 q1 q2 z58 z59 z62 (if (F4 z62) = (0 : Int32) then (1 : Int32) else (0 : Int32)))
def F0_4 (q1 : Int32) (q2 : Int32) (z58 : Int32) (z59 : Int32) : Int32 := (F0_5 q1 q2 z58 z59 (F2 (0 : Int32) (F1 (1114111 : Int32) z59)))
def F0_3 (q1 : Int32) (q2 : Int32) (z58 : Int32) : Int32 := (F0_4 q1 q2 z58 ((z58 + (q1 &&& (3 : Int32))) - (1 : Int32)))
def F0_2 (q1 : Int32) (q2 : Int32) (z30 : Int32) (b34 : Int32) : Int32 := (if (F3 z30) = b34 then (1 : Int32) else (0 : Int32))
def F0_1 (q1 : Int32) (q2 : Int32) (z30 : Int32) : Int32 := (F0_2 q1 q2 z30 (if (F4 z30) = (0 : Int32) then (1 : Int32) else (0 : Int32)))
def F0 (q1 : Int32) (q2 : Int32) : Int32 := (if (q2 &&& (1 : Int32)) = (0 : Int32) then (F0_1 q1 q2 ((q1 &&& (2147483647 : Int32)) % (1114112 : Int32))) else (F0_3 q1 q2 (own_edge (((q2.toUInt32 >>> ((1 : Int32) &&& 31).toUInt32).toInt32 &&& (2147483647 : Int32)) % (17 : Int32)))))
theorem ef0_rm0 (m : MethodId) (q1 : Int32) (q2 : Int32) : entryFrame m #[(.int q1), (.int q2)] maxLocals = (mkF m 0 #[.val (.int q1), .val (.int q2), .unset, .unset, .unset] []) := by first | (simp [entryFrame, mkF, argsToLocals, Value.category, maxLocals]; done) | rfl
set_option maxRecDepth 65536 in
set_option maxHeartbeats 40000000 in
theorem rm0 (l : Launch) (Z : State) (a0 : Array Value) (hw : ∀ d ∈ tables_1, d.before a0 Z = true) (ws : List Jvm.Cond) (q1 : Int32) (q2 : Int32)  (h0 : Heap) (n0 : Nat) (Z0 : n0 ≤ h0.size)    :
    MetFree l x (head1 (Jvm.Cond.code x code maxLocals ret :: ws) room_1) (fun a U => a = #[(.int q1), (.int q2)] ∧ Z.Warmed39 U.vm ∧ U.heap = h0) (fun _ _ _ _ _ => True) (fun _ U o U' => ∃ v L, o = .returned v ∧ (ValQ (.int (F0 q1 q2)) n0) v U'.heap L ∧ FrameEnd U o U' L room_1.cells room_1.slots) := by
  refine MetFree.of_bodySF (plainFor_of_name pn_com_example_relaystack_relaystack_ElementCanHoldPinLaw) hisR ?_
  intro p e s m args below meth c s₁ Bd hml0 hP hK
  obtain ⟨rfl, hZ, hh⟩ := hP
  have hx := Bd.exec
  have hby := Bd.bytes
  have hml : c.maxLocals = 5 := hml0
  have hown : s.vm.findClass "com/example/relaystack/relaystack/ElementCanHoldPinLaw" = some m.cls := findClass_of_methodNamed Bd.named
  have hnm := (name_of_methodNamed Bd.named Bd.method).1
  have X0 : Stand p l e room_1 s m #[(.int q1), (.int q2)] below meth c s₁ [] 0 0 := Stand.of_body Bd
  have e0 : s₁.heap = h0 := by rw [← hh, Bd.state]; rfl
  have N0 := Fr.nil n0
  refine GoW.mk ?_
  refine GoW.st (fun t k => castTop (ef0_rm0 m q1 q2) k) ?_
  show GoW p e below s (ValQ (.int (F0 q1 q2)) n0) room_1.cells room_1.slots (s₁.setTop (mkF m 0 (K0 q1 q2) []))
  refine GoW.sg (mkF m 1 (K0 q1 q2) [(.int q2)]) (fun t k => XS.iloadN X0.here hx rfl (hb hby at_0) rfl k) ?_
  refine GoW.sg (mkF m 2 (K0 q1 q2) [(.int 1), (.int q2)]) (fun t k => XS.iconst X0.here hx rfl (hb hby at_1) k) ?_
  refine GoW.sg (mkF m 3 (K0 q1 q2) [(.int (q2 &&& (1 : Int32)))]) (fun t k => XS.iand X0.here hx rfl (hb hby at_2) rfl k) ?_
  by_cases c29 : (q2 &&& (1 : Int32)) = (0 : Int32)
  · refine GoW.sg (mkF m 142 (K0 q1 q2) []) (fun t k => XS.ifYes X0.here hx rfl (pc0 := 3) (pc' := 142) rfl (hb hby at_3) rfl ((if0 _ _).trans (teq c29).1) (by decide) (by decide) k) ?_
    refine GoW.sg (mkF m 143 (K0 q1 q2) [(.int q1)]) (fun t k => XS.iloadN X0.here hx rfl (hb hby at_142) rfl k) ?_
    refine GoW.sg (mkF m 145 (K0 q1 q2) [(.int 2147483647), (.int q1)]) (fun t k => X0.ldcInt hx hown (mvT hZ (ww hw 12 rfl)) (g := (mkF m 143 (K0 q1 q2) [(.int q1)])) rfl (hb hby at_143) t k) ?_
    refine GoW.sg (mkF m 146 (K0 q1 q2) [(.int (q1 &&& (2147483647 : Int32)))]) (fun t k => XS.iand X0.here hx rfl (hb hby at_145) rfl k) ?_
    refine GoW.sg (mkF m 148 (K0 q1 q2) [(.int 1114112), (.int (q1 &&& (2147483647 : Int32)))]) (fun t k => X0.ldcInt hx hown (mvT hZ (ww hw 32 rfl)) (g := (mkF m 146 (K0 q1 q2) [(.int (q1 &&& (2147483647 : Int32)))])) rfl (hb hby at_146) t k) ?_
    refine GoW.sg (mkF m 149 (K0 q1 q2) [(.int ((q1 &&& (2147483647 : Int32)) % (1114112 : Int32)))]) (fun t k => iremM X0 hx rfl (hb hby at_148) rfl (by decide) k) ?_
    refine GoW.sg (mkF m 150 (K1 q1 q2 ((q1 &&& (2147483647 : Int32)) % (1114112 : Int32))) []) (fun t k => XS.istoreN X0.here hx rfl (hb hby at_149) rfl (l' := (K1 q1 q2 ((q1 &&& (2147483647 : Int32)) % (1114112 : Int32)))) rfl k) ?_
    obtain ⟨z30, hz30⟩ : ∃ z : Int32, z = ((q1 &&& (2147483647 : Int32)) % (1114112 : Int32)) := ⟨_, rfl⟩
    rw [← hz30]
    have hFz30 : (F0 q1 q2) = (F0_1 q1 q2 z30) := by unfold F0; rw [if_pos c29]; rw [hz30]
    show GoW p e below s (ValQ (.int (F0 q1 q2)) n0) room_1.cells room_1.slots (s₁.setTop (mkF m 150 (K1 q1 q2 z30) []))
    refine GoW.sg (mkF m 151 (K1 q1 q2 z30) [(.int z30)]) (fun t k => XS.iloadN X0.here hx rfl (hb hby at_150) rfl k) ?_
    obtain ⟨_, _, ⟨T31, L31, k31, n31⟩, -, X31, ⟨Lc31, hQ31, l31, y31, z31⟩, st31⟩ := Jvm.LawKit.callS X0 hx (y := (⟨"com/example/relaystack/relaystack/Element", "canHold", "(I)Z"⟩ : MethodName)) hown (mvT hZ (ww hw 20 rfl)) (mvT hZ (ww hw 21 rfl)) (mvT hZ (ww hw 22 rfl)) (mvT hZ (ww hw 23 rfl)) (by decide) (backOf (W := 0) (rm3 l Z a0 hw [] z30 h0 n0) hZ (ww hw 23 rfl) (ww hw 22 rfl) (by decide) (by decide)) (g := (mkF m 151 (K1 q1 q2 z30) [(.int z30)])) rfl (by rw [hml]; rfl) (argsL := [(.int z30)]) (rest := []) (lenOf pd_28I29Z rfl) rfl (by show 2 * 0 + _ ≤ _; exact Nat.le_of_eq rfl) (hb hby at_151) (fun _ _ => ⟨rfl, e0, (by decide : 0 + 0 ≤ _), (by decide : 0 + 0 ≤ _)⟩)
    dsimp only [Pt.U, Pt.locs, Pt.cells, Pt.slots] at X31 l31 y31 z31 st31 hQ31
    subst l31 y31 z31
    obtain ⟨rfl, N31q, e31⟩ := hQ31
    have N31 := Fr.app N0 N31q
    refine GoW.sg (mkF m 154 (K1 q1 q2 z30) [(.int (F3 z30))]) (fun t k => st31 t k) ?_
    refine GoW.sg (mkF m 155 (K1 q1 q2 z30) [(.int z30), (.int (F3 z30))]) (fun t k => XS.iloadN X31.here hx rfl (hb hby at_154) rfl k) ?_
    obtain ⟨_, _, ⟨T32, L32, k32, n32⟩, -, X32, ⟨Lc32, hQ32, l32, y32, z32⟩, st32⟩ := Jvm.LawKit.callS X31 hx (y := (⟨"com/example/relaystack/relaystack/ElementCanHoldPinLaw", "refused", "(I)Z"⟩ : MethodName)) hown (mvT hZ (ww hw 26 rfl)) (mvT hZ (ww hw 27 rfl)) (mvT hZ (ww hw 28 rfl)) (mvT hZ (ww hw 29 rfl)) (by decide) (backOf (W := 1) (rm4 l Z a0 hw [] z30 h0 n0) hZ (ww hw 29 rfl) (ww hw 28 rfl) (by decide) (by decide)) (g := (mkF m 155 (K1 q1 q2 z30) [(.int z30), (.int (F3 z30))])) rfl (by rw [hml]; rfl) (argsL := [(.int z30)]) (rest := [(.int (F3 z30))]) (lenOf pd_28I29Z rfl) rfl (by show 2 * 0 + _ ≤ _; exact Nat.le_of_eq rfl) (hb hby at_155) (fun _ _ => ⟨rfl, e31, (by decide : 0 + 0 ≤ _), (by decide : 0 + 0 ≤ _)⟩)
    dsimp only [Pt.U, Pt.locs, Pt.cells, Pt.slots] at X32 l32 y32 z32 st32 hQ32
    subst l32 y32 z32
    obtain ⟨rfl, N32q, e32⟩ := hQ32
    have N32 := Fr.app N31 N32q
    refine GoW.sg (mkF m 158 (K1 q1 q2 z30) [(.int (F4 z30)), (.int (F3 z30))]) (fun t k => st32 t k) ?_
    have J166_35 : ∀ b34 : Int32, b34 = (if (F4 z30) = (0 : Int32) then (1 : Int32) else (0 : Int32)) → GoW p e below s (ValQ (.int (F0 q1 q2)) n0) room_1.cells room_1.slots (T32.setTop (mkF m 166 (K1 q1 q2 z30) [(.int b34), (.int (F3 z30))])) := by
      intro b34 hb34
      have hFb34 : (F0_1 q1 q2 z30) = (F0_2 q1 q2 z30 b34) := by unfold F0_1; rw [hb34]
      by_cases c37 : (F3 z30) = b34
      · refine GoW.sg (mkF m 169 (K1 q1 q2 z30) []) (fun t k => XS.icmpNo X32.here hx rfl (hb hby at_166) rfl (teq c37).2 k) ?_
        refine GoW.sg (mkF m 170 (K1 q1 q2 z30) [(.int 1)]) (fun t k => XS.iconst X32.here hx rfl (hb hby at_169) k) ?_
        refine GoW.sg (mkF m 174 (K1 q1 q2 z30) [(.int 1)]) (fun t k => XS.goto X32.here hx rfl (pc0 := 170) (pc' := 174) rfl (hb hby at_170) (by decide) (by decide) k) ?_
        refine GoW.retN X32 hx (t := .boolean) Bd.returns (by simp) (hb hby at_174) Bd.notSynchronized ?_ (by decide) (by decide)
        have hq : (F0 q1 q2) = (1 : Int32) := by rw [hFz30, hFb34]; unfold F0_2; rw [if_pos c37]; try rfl
        exact ⟨by rw [hq] <;> rfl, N32⟩
      · refine GoW.sg (mkF m 173 (K1 q1 q2 z30) []) (fun t k => XS.icmpYes X32.here hx rfl (pc0 := 166) (pc' := 173) rfl (hb hby at_166) rfl (feq c37).2 (by decide) (by decide) k) ?_
        refine GoW.sg (mkF m 174 (K1 q1 q2 z30) [(.int 0)]) (fun t k => XS.iconst X32.here hx rfl (hb hby at_173) k) ?_
        refine GoW.retN X32 hx (t := .boolean) Bd.returns (by simp) (hb hby at_174) Bd.notSynchronized ?_ (by decide) (by decide)
        have hq : (F0 q1 q2) = (0 : Int32) := by rw [hFz30, hFb34]; unfold F0_2; rw [if_neg c37]; try rfl
        exact ⟨by rw [hq] <;> rfl, N32⟩
    by_cases c36 : (F4 z30) = (0 : Int32)
    · refine GoW.sg (mkF m 161 (K1 q1 q2 z30) [(.int (F3 z30))]) (fun t k => XS.ifNo X32.here hx rfl (hb hby at_158) rfl ((if0 _ _).trans (teq c36).2) k) ?_
      refine GoW.sg (mkF m 162 (K1 q1 q2 z30) [(.int 1), (.int (F3 z30))]) (fun t k => XS.iconst X32.here hx rfl (hb hby at_161) k) ?_
      refine GoW.sg (mkF m 166 (K1 q1 q2 z30) [(.int 1), (.int (F3 z30))]) (fun t k => XS.goto X32.here hx rfl (pc0 := 162) (pc' := 166) rfl (hb hby at_162) (by decide) (by decide) k) ?_
      exact J166_35 _ (by rw [if_pos c36])
    · refine GoW.sg (mkF m 165 (K1 q1 q2 z30) [(.int (F3 z30))]) (fun t k => XS.ifYes X32.here hx rfl (pc0 := 158) (pc' := 165) rfl (hb hby at_158) rfl ((if0 _ _).trans (feq c36).2) (by decide) (by decide) k) ?_
      refine GoW.sg (mkF m 166 (K1 q1 q2 z30) [(.int 0), (.int (F3 z30))]) (fun t k => XS.iconst X32.here hx rfl (hb hby at_165) k) ?_
      exact J166_35 _ (by rw [if_neg c36])
  · refine GoW.sg (mkF m 6 (K0 q1 q2) []) (fun t k => XS.ifNo X0.here hx rfl (hb hby at_3) rfl ((if0 _ _).trans (feq c29).1) k) ?_
    refine GoW.sg (mkF m 8 (K0 q1 q2) [(.int 17)]) (fun t k => XS.bipush X0.here hx rfl (hb hby at_6) k) ?_
    obtain ⟨T38, h38, k38, X38, e38, E38, A38, st38⟩ := newP X0 hx hZ (ww hw 0 rfl) e0 (g := (mkF m 8 (K0 q1 q2) [(.int 17)])) rfl (hb hby at_8) rfl (by decide) (cap := 17) (by decide) (by decide) (by decide) (by decide)
    obtain ⟨b38, g38⟩ : ∃ z, z = h0.size := ⟨_, rfl⟩
    rw [← g38] at A38 st38
    have g_b38 : n0 ≤ b38 := Nat.le_trans Z0 (Nat.le_of_eq g38.symm)
    have Zs_38 : n0 ≤ h38.size := Nat.le_trans Z0 E38.1
    have Arv_b38_38 : Arv Z h38 b38 k38 .int (17 : Int32) [(.int (0 : Int32)), (.int (0 : Int32)), (.int (0 : Int32)), (.int (0 : Int32)), (.int (0 : Int32)), (.int (0 : Int32)), (.int (0 : Int32)), (.int (0 : Int32)), (.int (0 : Int32)), (.int (0 : Int32)), (.int (0 : Int32)), (.int (0 : Int32)), (.int (0 : Int32)), (.int (0 : Int32)), (.int (0 : Int32)), (.int (0 : Int32)), (.int (0 : Int32))] (.int (0 : Int32)) := (Arv.new A38 (by decide)).pad (pad_rep [] (.int (0 : Int32)) 17)
    refine GoW.sg (mkF m 10 (K0 q1 q2) [(.ref b38)]) (fun t k => st38 t k) ?_
    refine GoW.sg (mkF m 11 (K0 q1 q2) [(.ref b38), (.ref b38)]) (fun t k => XS.dup X38.here hx rfl (hb hby at_10) rfl rfl k) ?_
    refine GoW.sg (mkF m 12 (K0 q1 q2) [(.int 0), (.ref b38), (.ref b38)]) (fun t k => XS.iconst X38.here hx rfl (hb hby at_11) k) ?_
    refine GoW.sg (mkF m 13 (K0 q1 q2) [(.int 0), (.int 0), (.ref b38), (.ref b38)]) (fun t k => XS.iconst X38.here hx rfl (hb hby at_12) k) ?_
    obtain ⟨cl39, Ar39, q39, Sz39, Nn39, Hh39, Gg39⟩ := Arv_b38_38
    have hin39 : ¬ ((0 : Int32) < 0 ∨ cl39.slots.size ≤ ((0 : Int32)).toNatClampNeg) := inb_of Sz39 ⟨by decide, by decide⟩
    obtain ⟨T39, h39, X39, e39, W39, st39⟩ := stI X38 hx hZ e38 Ar39 (j := (0 : Int32)) hin39 (g := (mkF m 13 (K0 q1 q2) [(.int 0), (.int 0), (.ref b38), (.ref b38)])) rfl rfl (hb hby at_13)
    have Zs_39 : n0 ≤ h39.size := Nat.le_trans Zs_38 (Nat.le_of_eq W39.size.symm)
    have Arv_b38_39 : Arv Z h39 b38 k38 .int (17 : Int32) [(.int (0 : Int32)), (.int (0 : Int32)), (.int (0 : Int32)), (.int (0 : Int32)), (.int (0 : Int32)), (.int (0 : Int32)), (.int (0 : Int32)), (.int (0 : Int32)), (.int (0 : Int32)), (.int (0 : Int32)), (.int (0 : Int32)), (.int (0 : Int32)), (.int (0 : Int32)), (.int (0 : Int32)), (.int (0 : Int32)), (.int (0 : Int32)), (.int (0 : Int32))] (.int (0 : Int32)) := Arv.set Ar39 q39 Sz39 Nn39 Hh39 Gg39 rfl W39 0 rfl (Nat.le_of_ble_eq_true rfl)
    have N39 := Fr.snoc X39 N0 g_b38
    refine GoW.sg (mkF m 14 (K0 q1 q2) [(.ref b38)]) (fun t k => st39 t k) ?_
    refine GoW.sg (mkF m 15 (K0 q1 q2) [(.ref b38), (.ref b38)]) (fun t k => XS.dup X39.here hx rfl (hb hby at_14) rfl rfl k) ?_
    refine GoW.sg (mkF m 16 (K0 q1 q2) [(.int 1), (.ref b38), (.ref b38)]) (fun t k => XS.iconst X39.here hx rfl (hb hby at_15) k) ?_
    refine GoW.sg (mkF m 18 (K0 q1 q2) [(.int 9), (.int 1), (.ref b38), (.ref b38)]) (fun t k => XS.bipush X39.here hx rfl (hb hby at_16) k) ?_
    obtain ⟨cl40, Ar40, q40, Sz40, Nn40, Hh40, Gg40⟩ := Arv_b38_39
    have hin40 : ¬ ((1 : Int32) < 0 ∨ cl40.slots.size ≤ ((1 : Int32)).toNatClampNeg) := inb_of Sz40 ⟨by decide, by decide⟩
    obtain ⟨T40, h40, X40, e40, W40, st40⟩ := stI X39 hx hZ e39 Ar40 (j := (1 : Int32)) hin40 (g := (mkF m 18 (K0 q1 q2) [(.int 9), (.int 1), (.ref b38), (.ref b38)])) rfl rfl (hb hby at_18)
    have Zs_40 : n0 ≤ h40.size := Nat.le_trans Zs_39 (Nat.le_of_eq W40.size.symm)
    have Arv_b38_40 : Arv Z h40 b38 k38 .int (17 : Int32) [(.int (0 : Int32)), (.int (9 : Int32)), (.int (0 : Int32)), (.int (0 : Int32)), (.int (0 : Int32)), (.int (0 : Int32)), (.int (0 : Int32)), (.int (0 : Int32)), (.int (0 : Int32)), (.int (0 : Int32)), (.int (0 : Int32)), (.int (0 : Int32)), (.int (0 : Int32)), (.int (0 : Int32)), (.int (0 : Int32)), (.int (0 : Int32)), (.int (0 : Int32))] (.int (0 : Int32)) := Arv.set Ar40 q40 Sz40 Nn40 Hh40 Gg40 rfl W40 1 rfl (Nat.le_of_ble_eq_true rfl)
    have N40 := Fr.snoc X40 N39 g_b38
    refine GoW.sg (mkF m 19 (K0 q1 q2) [(.ref b38)]) (fun t k => st40 t k) ?_
    refine GoW.sg (mkF m 20 (K0 q1 q2) [(.ref b38), (.ref b38)]) (fun t k => XS.dup X40.here hx rfl (hb hby at_19) rfl rfl k) ?_
    refine GoW.sg (mkF m 21 (K0 q1 q2) [(.int 2), (.ref b38), (.ref b38)]) (fun t k => XS.iconst X40.here hx rfl (hb hby at_20) k) ?_
    refine GoW.sg (mkF m 23 (K0 q1 q2) [(.int 10), (.int 2), (.ref b38), (.ref b38)]) (fun t k => XS.bipush X40.here hx rfl (hb hby at_21) k) ?_
    obtain ⟨cl41, Ar41, q41, Sz41, Nn41, Hh41, Gg41⟩ := Arv_b38_40
    have hin41 : ¬ ((2 : Int32) < 0 ∨ cl41.slots.size ≤ ((2 : Int32)).toNatClampNeg) := inb_of Sz41 ⟨by decide, by decide⟩
    obtain ⟨T41, h41, X41, e41, W41, st41⟩ := stI X40 hx hZ e40 Ar41 (j := (2 : Int32)) hin41 (g := (mkF m 23 (K0 q1 q2) [(.int 10), (.int 2), (.ref b38), (.ref b38)])) rfl rfl (hb hby at_23)
    have Zs_41 : n0 ≤ h41.size := Nat.le_trans Zs_40 (Nat.le_of_eq W41.size.symm)
    have Arv_b38_41 : Arv Z h41 b38 k38 .int (17 : Int32) [(.int (0 : Int32)), (.int (9 : Int32)), (.int (10 : Int32)), (.int (0 : Int32)), (.int (0 : Int32)), (.int (0 : Int32)), (.int (0 : Int32)), (.int (0 : Int32)), (.int (0 : Int32)), (.int (0 : Int32)), (.int (0 : Int32)), (.int (0 : Int32)), (.int (0 : Int32)), (.int (0 : Int32)), (.int (0 : Int32)), (.int (0 : Int32)), (.int (0 : Int32))] (.int (0 : Int32)) := Arv.set Ar41 q41 Sz41 Nn41 Hh41 Gg41 rfl W41 2 rfl (Nat.le_of_ble_eq_true rfl)
    have N41 := Fr.snoc X41 N40 g_b38
    refine GoW.sg (mkF m 24 (K0 q1 q2) [(.ref b38)]) (fun t k => st41 t k) ?_
    refine GoW.sg (mkF m 25 (K0 q1 q2) [(.ref b38), (.ref b38)]) (fun t k => XS.dup X41.here hx rfl (hb hby at_24) rfl rfl k) ?_
    refine GoW.sg (mkF m 26 (K0 q1 q2) [(.int 3), (.ref b38), (.ref b38)]) (fun t k => XS.iconst X41.here hx rfl (hb hby at_25) k) ?_
    refine GoW.sg (mkF m 28 (K0 q1 q2) [(.int 13), (.int 3), (.ref b38), (.ref b38)]) (fun t k => XS.bipush X41.here hx rfl (hb hby at_26) k) ?_
    obtain ⟨cl42, Ar42, q42, Sz42, Nn42, Hh42, Gg42⟩ := Arv_b38_41
    have hin42 : ¬ ((3 : Int32) < 0 ∨ cl42.slots.size ≤ ((3 : Int32)).toNatClampNeg) := inb_of Sz42 ⟨by decide, by decide⟩
    obtain ⟨T42, h42, X42, e42, W42, st42⟩ := stI X41 hx hZ e41 Ar42 (j := (3 : Int32)) hin42 (g := (mkF m 28 (K0 q1 q2) [(.int 13), (.int 3), (.ref b38), (.ref b38)])) rfl rfl (hb hby at_28)
    have Zs_42 : n0 ≤ h42.size := Nat.le_trans Zs_41 (Nat.le_of_eq W42.size.symm)
    have Arv_b38_42 : Arv Z h42 b38 k38 .int (17 : Int32) [(.int (0 : Int32)), (.int (9 : Int32)), (.int (10 : Int32)), (.int (13 : Int32)), (.int (0 : Int32)), (.int (0 : Int32)), (.int (0 : Int32)), (.int (0 : Int32)), (.int (0 : Int32)), (.int (0 : Int32)), (.int (0 : Int32)), (.int (0 : Int32)), (.int (0 : Int32)), (.int (0 : Int32)), (.int (0 : Int32)), (.int (0 : Int32)), (.int (0 : Int32))] (.int (0 : Int32)) := Arv.set Ar42 q42 Sz42 Nn42 Hh42 Gg42 rfl W42 3 rfl (Nat.le_of_ble_eq_true rfl)
    have N42 := Fr.snoc X42 N41 g_b38
    refine GoW.sg (mkF m 29 (K0 q1 q2) [(.ref b38)]) (fun t k => st42 t k) ?_
    refine GoW.sg (mkF m 30 (K0 q1 q2) [(.ref b38), (.ref b38)]) (fun t k => XS.dup X42.here hx rfl (hb hby at_29) rfl rfl k) ?_
    refine GoW.sg (mkF m 31 (K0 q1 q2) [(.int 4), (.ref b38), (.ref b38)]) (fun t k => XS.iconst X42.here hx rfl (hb hby at_30) k) ?_
    refine GoW.sg (mkF m 33 (K0 q1 q2) [(.int 31), (.int 4), (.ref b38), (.ref b38)]) (fun t k => XS.bipush X42.here hx rfl (hb hby at_31) k) ?_
    obtain ⟨cl43, Ar43, q43, Sz43, Nn43, Hh43, Gg43⟩ := Arv_b38_42
    have hin43 : ¬ ((4 : Int32) < 0 ∨ cl43.slots.size ≤ ((4 : Int32)).toNatClampNeg) := inb_of Sz43 ⟨by decide, by decide⟩
    obtain ⟨T43, h43, X43, e43, W43, st43⟩ := stI X42 hx hZ e42 Ar43 (j := (4 : Int32)) hin43 (g := (mkF m 33 (K0 q1 q2) [(.int 31), (.int 4), (.ref b38), (.ref b38)])) rfl rfl (hb hby at_33)
    have Zs_43 : n0 ≤ h43.size := Nat.le_trans Zs_42 (Nat.le_of_eq W43.size.symm)
    have Arv_b38_43 : Arv Z h43 b38 k38 .int (17 : Int32) [(.int (0 : Int32)), (.int (9 : Int32)), (.int (10 : Int32)), (.int (13 : Int32)), (.int (31 : Int32)), (.int (0 : Int32)), (.int (0 : Int32)), (.int (0 : Int32)), (.int (0 : Int32)), (.int (0 : Int32)), (.int (0 : Int32)), (.int (0 : Int32)), (.int (0 : Int32)), (.int (0 : Int32)), (.int (0 : Int32)), (.int (0 : Int32)), (.int (0 : Int32))] (.int (0 : Int32)) := Arv.set Ar43 q43 Sz43 Nn43 Hh43 Gg43 rfl W43 4 rfl (Nat.le_of_ble_eq_true rfl)
    have N43 := Fr.snoc X43 N42 g_b38
    refine GoW.sg (mkF m 34 (K0 q1 q2) [(.ref b38)]) (fun t k => st43 t k) ?_
    refine GoW.sg (mkF m 35 (K0 q1 q2) [(.ref b38), (.ref b38)]) (fun t k => XS.dup X43.here hx rfl (hb hby at_34) rfl rfl k) ?_
    refine GoW.sg (mkF m 36 (K0 q1 q2) [(.int 5), (.ref b38), (.ref b38)]) (fun t k => XS.iconst X43.here hx rfl (hb hby at_35) k) ?_
    refine GoW.sg (mkF m 38 (K0 q1 q2) [(.int 32), (.int 5), (.ref b38), (.ref b38)]) (fun t k => XS.bipush X43.here hx rfl (hb hby at_36) k) ?_
    obtain ⟨cl44, Ar44, q44, Sz44, Nn44, Hh44, Gg44⟩ := Arv_b38_43
    have hin44 : ¬ ((5 : Int32) < 0 ∨ cl44.slots.size ≤ ((5 : Int32)).toNatClampNeg) := inb_of Sz44 ⟨by decide, by decide⟩
    obtain ⟨T44, h44, X44, e44, W44, st44⟩ := stI X43 hx hZ e43 Ar44 (j := (5 : Int32)) hin44 (g := (mkF m 38 (K0 q1 q2) [(.int 32), (.int 5), (.ref b38), (.ref b38)])) rfl rfl (hb hby at_38)
    have Zs_44 : n0 ≤ h44.size := Nat.le_trans Zs_43 (Nat.le_of_eq W44.size.symm)
    have Arv_b38_44 : Arv Z h44 b38 k38 .int (17 : Int32) [(.int (0 : Int32)), (.int (9 : Int32)), (.int (10 : Int32)), (.int (13 : Int32)), (.int (31 : Int32)), (.int (32 : Int32)), (.int (0 : Int32)), (.int (0 : Int32)), (.int (0 : Int32)), (.int (0 : Int32)), (.int (0 : Int32)), (.int (0 : Int32)), (.int (0 : Int32)), (.int (0 : Int32)), (.int (0 : Int32)), (.int (0 : Int32)), (.int (0 : Int32))] (.int (0 : Int32)) := Arv.set Ar44 q44 Sz44 Nn44 Hh44 Gg44 rfl W44 5 rfl (Nat.le_of_ble_eq_true rfl)
    have N44 := Fr.snoc X44 N43 g_b38
    refine GoW.sg (mkF m 39 (K0 q1 q2) [(.ref b38)]) (fun t k => st44 t k) ?_
    refine GoW.sg (mkF m 40 (K0 q1 q2) [(.ref b38), (.ref b38)]) (fun t k => XS.dup X44.here hx rfl (hb hby at_39) rfl rfl k) ?_
    refine GoW.sg (mkF m 42 (K0 q1 q2) [(.int 6), (.ref b38), (.ref b38)]) (fun t k => XS.bipush X44.here hx rfl (hb hby at_40) k) ?_
    refine GoW.sg (mkF m 44 (K0 q1 q2) [(.int 55295), (.int 6), (.ref b38), (.ref b38)]) (fun t k => X44.ldcInt hx hown (mvT hZ (ww hw 1 rfl)) (g := (mkF m 42 (K0 q1 q2) [(.int 6), (.ref b38), (.ref b38)])) rfl (hb hby at_42) t k) ?_
    obtain ⟨cl45, Ar45, q45, Sz45, Nn45, Hh45, Gg45⟩ := Arv_b38_44
    have hin45 : ¬ ((6 : Int32) < 0 ∨ cl45.slots.size ≤ ((6 : Int32)).toNatClampNeg) := inb_of Sz45 ⟨by decide, by decide⟩
    obtain ⟨T45, h45, X45, e45, W45, st45⟩ := stI X44 hx hZ e44 Ar45 (j := (6 : Int32)) hin45 (g := (mkF m 44 (K0 q1 q2) [(.int 55295), (.int 6), (.ref b38), (.ref b38)])) rfl rfl (hb hby at_44)
    have Zs_45 : n0 ≤ h45.size := Nat.le_trans Zs_44 (Nat.le_of_eq W45.size.symm)
    have Arv_b38_45 : Arv Z h45 b38 k38 .int (17 : Int32) [(.int (0 : Int32)), (.int (9 : Int32)), (.int (10 : Int32)), (.int (13 : Int32)), (.int (31 : Int32)), (.int (32 : Int32)), (.int (55295 : Int32)), (.int (0 : Int32)), (.int (0 : Int32)), (.int (0 : Int32)), (.int (0 : Int32)), (.int (0 : Int32)), (.int (0 : Int32)), (.int (0 : Int32)), (.int (0 : Int32)), (.int (0 : Int32)), (.int (0 : Int32))] (.int (0 : Int32)) := Arv.set Ar45 q45 Sz45 Nn45 Hh45 Gg45 rfl W45 6 rfl (Nat.le_of_ble_eq_true rfl)
    have N45 := Fr.snoc X45 N44 g_b38
    refine GoW.sg (mkF m 45 (K0 q1 q2) [(.ref b38)]) (fun t k => st45 t k) ?_
    refine GoW.sg (mkF m 46 (K0 q1 q2) [(.ref b38), (.ref b38)]) (fun t k => XS.dup X45.here hx rfl (hb hby at_45) rfl rfl k) ?_
    refine GoW.sg (mkF m 48 (K0 q1 q2) [(.int 7), (.ref b38), (.ref b38)]) (fun t k => XS.bipush X45.here hx rfl (hb hby at_46) k) ?_
    refine GoW.sg (mkF m 50 (K0 q1 q2) [(.int 55296), (.int 7), (.ref b38), (.ref b38)]) (fun t k => X45.ldcInt hx hown (mvT hZ (ww hw 2 rfl)) (g := (mkF m 48 (K0 q1 q2) [(.int 7), (.ref b38), (.ref b38)])) rfl (hb hby at_48) t k) ?_
    obtain ⟨cl46, Ar46, q46, Sz46, Nn46, Hh46, Gg46⟩ := Arv_b38_45
    have hin46 : ¬ ((7 : Int32) < 0 ∨ cl46.slots.size ≤ ((7 : Int32)).toNatClampNeg) := inb_of Sz46 ⟨by decide, by decide⟩
    obtain ⟨T46, h46, X46, e46, W46, st46⟩ := stI X45 hx hZ e45 Ar46 (j := (7 : Int32)) hin46 (g := (mkF m 50 (K0 q1 q2) [(.int 55296), (.int 7), (.ref b38), (.ref b38)])) rfl rfl (hb hby at_50)
    have Zs_46 : n0 ≤ h46.size := Nat.le_trans Zs_45 (Nat.le_of_eq W46.size.symm)
    have Arv_b38_46 : Arv Z h46 b38 k38 .int (17 : Int32) [(.int (0 : Int32)), (.int (9 : Int32)), (.int (10 : Int32)), (.int (13 : Int32)), (.int (31 : Int32)), (.int (32 : Int32)), (.int (55295 : Int32)), (.int (55296 : Int32)), (.int (0 : Int32)), (.int (0 : Int32)), (.int (0 : Int32)), (.int (0 : Int32)), (.int (0 : Int32)), (.int (0 : Int32)), (.int (0 : Int32)), (.int (0 : Int32)), (.int (0 : Int32))] (.int (0 : Int32)) := Arv.set Ar46 q46 Sz46 Nn46 Hh46 Gg46 rfl W46 7 rfl (Nat.le_of_ble_eq_true rfl)
    have N46 := Fr.snoc X46 N45 g_b38
    refine GoW.sg (mkF m 51 (K0 q1 q2) [(.ref b38)]) (fun t k => st46 t k) ?_
    refine GoW.sg (mkF m 52 (K0 q1 q2) [(.ref b38), (.ref b38)]) (fun t k => XS.dup X46.here hx rfl (hb hby at_51) rfl rfl k) ?_
    refine GoW.sg (mkF m 54 (K0 q1 q2) [(.int 8), (.ref b38), (.ref b38)]) (fun t k => XS.bipush X46.here hx rfl (hb hby at_52) k) ?_
    refine GoW.sg (mkF m 56 (K0 q1 q2) [(.int 56319), (.int 8), (.ref b38), (.ref b38)]) (fun t k => X46.ldcInt hx hown (mvT hZ (ww hw 3 rfl)) (g := (mkF m 54 (K0 q1 q2) [(.int 8), (.ref b38), (.ref b38)])) rfl (hb hby at_54) t k) ?_
    obtain ⟨cl47, Ar47, q47, Sz47, Nn47, Hh47, Gg47⟩ := Arv_b38_46
    have hin47 : ¬ ((8 : Int32) < 0 ∨ cl47.slots.size ≤ ((8 : Int32)).toNatClampNeg) := inb_of Sz47 ⟨by decide, by decide⟩
    obtain ⟨T47, h47, X47, e47, W47, st47⟩ := stI X46 hx hZ e46 Ar47 (j := (8 : Int32)) hin47 (g := (mkF m 56 (K0 q1 q2) [(.int 56319), (.int 8), (.ref b38), (.ref b38)])) rfl rfl (hb hby at_56)
    have Zs_47 : n0 ≤ h47.size := Nat.le_trans Zs_46 (Nat.le_of_eq W47.size.symm)
    have Arv_b38_47 : Arv Z h47 b38 k38 .int (17 : Int32) [(.int (0 : Int32)), (.int (9 : Int32)), (.int (10 : Int32)), (.int (13 : Int32)), (.int (31 : Int32)), (.int (32 : Int32)), (.int (55295 : Int32)), (.int (55296 : Int32)), (.int (56319 : Int32)), (.int (0 : Int32)), (.int (0 : Int32)), (.int (0 : Int32)), (.int (0 : Int32)), (.int (0 : Int32)), (.int (0 : Int32)), (.int (0 : Int32)), (.int (0 : Int32))] (.int (0 : Int32)) := Arv.set Ar47 q47 Sz47 Nn47 Hh47 Gg47 rfl W47 8 rfl (Nat.le_of_ble_eq_true rfl)
    have N47 := Fr.snoc X47 N46 g_b38
    refine GoW.sg (mkF m 57 (K0 q1 q2) [(.ref b38)]) (fun t k => st47 t k) ?_
    refine GoW.sg (mkF m 58 (K0 q1 q2) [(.ref b38), (.ref b38)]) (fun t k => XS.dup X47.here hx rfl (hb hby at_57) rfl rfl k) ?_
    refine GoW.sg (mkF m 60 (K0 q1 q2) [(.int 9), (.ref b38), (.ref b38)]) (fun t k => XS.bipush X47.here hx rfl (hb hby at_58) k) ?_
    refine GoW.sg (mkF m 62 (K0 q1 q2) [(.int 56320), (.int 9), (.ref b38), (.ref b38)]) (fun t k => X47.ldcInt hx hown (mvT hZ (ww hw 4 rfl)) (g := (mkF m 60 (K0 q1 q2) [(.int 9), (.ref b38), (.ref b38)])) rfl (hb hby at_60) t k) ?_
    obtain ⟨cl48, Ar48, q48, Sz48, Nn48, Hh48, Gg48⟩ := Arv_b38_47
    have hin48 : ¬ ((9 : Int32) < 0 ∨ cl48.slots.size ≤ ((9 : Int32)).toNatClampNeg) := inb_of Sz48 ⟨by decide, by decide⟩
    obtain ⟨T48, h48, X48, e48, W48, st48⟩ := stI X47 hx hZ e47 Ar48 (j := (9 : Int32)) hin48 (g := (mkF m 62 (K0 q1 q2) [(.int 56320), (.int 9), (.ref b38), (.ref b38)])) rfl rfl (hb hby at_62)
    have Zs_48 : n0 ≤ h48.size := Nat.le_trans Zs_47 (Nat.le_of_eq W48.size.symm)
    have Arv_b38_48 : Arv Z h48 b38 k38 .int (17 : Int32) [(.int (0 : Int32)), (.int (9 : Int32)), (.int (10 : Int32)), (.int (13 : Int32)), (.int (31 : Int32)), (.int (32 : Int32)), (.int (55295 : Int32)), (.int (55296 : Int32)), (.int (56319 : Int32)), (.int (56320 : Int32)), (.int (0 : Int32)), (.int (0 : Int32)), (.int (0 : Int32)), (.int (0 : Int32)), (.int (0 : Int32)), (.int (0 : Int32)), (.int (0 : Int32))] (.int (0 : Int32)) := Arv.set Ar48 q48 Sz48 Nn48 Hh48 Gg48 rfl W48 9 rfl (Nat.le_of_ble_eq_true rfl)
    have N48 := Fr.snoc X48 N47 g_b38
    refine GoW.sg (mkF m 63 (K0 q1 q2) [(.ref b38)]) (fun t k => st48 t k) ?_
    refine GoW.sg (mkF m 64 (K0 q1 q2) [(.ref b38), (.ref b38)]) (fun t k => XS.dup X48.here hx rfl (hb hby at_63) rfl rfl k) ?_
    refine GoW.sg (mkF m 66 (K0 q1 q2) [(.int 10), (.ref b38), (.ref b38)]) (fun t k => XS.bipush X48.here hx rfl (hb hby at_64) k) ?_
    refine GoW.sg (mkF m 68 (K0 q1 q2) [(.int 57343), (.int 10), (.ref b38), (.ref b38)]) (fun t k => X48.ldcInt hx hown (mvT hZ (ww hw 5 rfl)) (g := (mkF m 66 (K0 q1 q2) [(.int 10), (.ref b38), (.ref b38)])) rfl (hb hby at_66) t k) ?_
    obtain ⟨cl49, Ar49, q49, Sz49, Nn49, Hh49, Gg49⟩ := Arv_b38_48
    have hin49 : ¬ ((10 : Int32) < 0 ∨ cl49.slots.size ≤ ((10 : Int32)).toNatClampNeg) := inb_of Sz49 ⟨by decide, by decide⟩
    obtain ⟨T49, h49, X49, e49, W49, st49⟩ := stI X48 hx hZ e48 Ar49 (j := (10 : Int32)) hin49 (g := (mkF m 68 (K0 q1 q2) [(.int 57343), (.int 10), (.ref b38), (.ref b38)])) rfl rfl (hb hby at_68)
    have Zs_49 : n0 ≤ h49.size := Nat.le_trans Zs_48 (Nat.le_of_eq W49.size.symm)
    have Arv_b38_49 : Arv Z h49 b38 k38 .int (17 : Int32) [(.int (0 : Int32)), (.int (9 : Int32)), (.int (10 : Int32)), (.int (13 : Int32)), (.int (31 : Int32)), (.int (32 : Int32)), (.int (55295 : Int32)), (.int (55296 : Int32)), (.int (56319 : Int32)), (.int (56320 : Int32)), (.int (57343 : Int32)), (.int (0 : Int32)), (.int (0 : Int32)), (.int (0 : Int32)), (.int (0 : Int32)), (.int (0 : Int32)), (.int (0 : Int32))] (.int (0 : Int32)) := Arv.set Ar49 q49 Sz49 Nn49 Hh49 Gg49 rfl W49 10 rfl (Nat.le_of_ble_eq_true rfl)
    have N49 := Fr.snoc X49 N48 g_b38
    refine GoW.sg (mkF m 69 (K0 q1 q2) [(.ref b38)]) (fun t k => st49 t k) ?_
    refine GoW.sg (mkF m 70 (K0 q1 q2) [(.ref b38), (.ref b38)]) (fun t k => XS.dup X49.here hx rfl (hb hby at_69) rfl rfl k) ?_
    refine GoW.sg (mkF m 72 (K0 q1 q2) [(.int 11), (.ref b38), (.ref b38)]) (fun t k => XS.bipush X49.here hx rfl (hb hby at_70) k) ?_
    refine GoW.sg (mkF m 74 (K0 q1 q2) [(.int 57344), (.int 11), (.ref b38), (.ref b38)]) (fun t k => X49.ldcInt hx hown (mvT hZ (ww hw 6 rfl)) (g := (mkF m 72 (K0 q1 q2) [(.int 11), (.ref b38), (.ref b38)])) rfl (hb hby at_72) t k) ?_
    obtain ⟨cl50, Ar50, q50, Sz50, Nn50, Hh50, Gg50⟩ := Arv_b38_49
    have hin50 : ¬ ((11 : Int32) < 0 ∨ cl50.slots.size ≤ ((11 : Int32)).toNatClampNeg) := inb_of Sz50 ⟨by decide, by decide⟩
    obtain ⟨T50, h50, X50, e50, W50, st50⟩ := stI X49 hx hZ e49 Ar50 (j := (11 : Int32)) hin50 (g := (mkF m 74 (K0 q1 q2) [(.int 57344), (.int 11), (.ref b38), (.ref b38)])) rfl rfl (hb hby at_74)
    have Zs_50 : n0 ≤ h50.size := Nat.le_trans Zs_49 (Nat.le_of_eq W50.size.symm)
    have Arv_b38_50 : Arv Z h50 b38 k38 .int (17 : Int32) [(.int (0 : Int32)), (.int (9 : Int32)), (.int (10 : Int32)), (.int (13 : Int32)), (.int (31 : Int32)), (.int (32 : Int32)), (.int (55295 : Int32)), (.int (55296 : Int32)), (.int (56319 : Int32)), (.int (56320 : Int32)), (.int (57343 : Int32)), (.int (57344 : Int32)), (.int (0 : Int32)), (.int (0 : Int32)), (.int (0 : Int32)), (.int (0 : Int32)), (.int (0 : Int32))] (.int (0 : Int32)) := Arv.set Ar50 q50 Sz50 Nn50 Hh50 Gg50 rfl W50 11 rfl (Nat.le_of_ble_eq_true rfl)
    have N50 := Fr.snoc X50 N49 g_b38
    refine GoW.sg (mkF m 75 (K0 q1 q2) [(.ref b38)]) (fun t k => st50 t k) ?_
    refine GoW.sg (mkF m 76 (K0 q1 q2) [(.ref b38), (.ref b38)]) (fun t k => XS.dup X50.here hx rfl (hb hby at_75) rfl rfl k) ?_
    refine GoW.sg (mkF m 78 (K0 q1 q2) [(.int 12), (.ref b38), (.ref b38)]) (fun t k => XS.bipush X50.here hx rfl (hb hby at_76) k) ?_
    refine GoW.sg (mkF m 80 (K0 q1 q2) [(.int 65533), (.int 12), (.ref b38), (.ref b38)]) (fun t k => X50.ldcInt hx hown (mvT hZ (ww hw 7 rfl)) (g := (mkF m 78 (K0 q1 q2) [(.int 12), (.ref b38), (.ref b38)])) rfl (hb hby at_78) t k) ?_
    obtain ⟨cl51, Ar51, q51, Sz51, Nn51, Hh51, Gg51⟩ := Arv_b38_50
    have hin51 : ¬ ((12 : Int32) < 0 ∨ cl51.slots.size ≤ ((12 : Int32)).toNatClampNeg) := inb_of Sz51 ⟨by decide, by decide⟩
    obtain ⟨T51, h51, X51, e51, W51, st51⟩ := stI X50 hx hZ e50 Ar51 (j := (12 : Int32)) hin51 (g := (mkF m 80 (K0 q1 q2) [(.int 65533), (.int 12), (.ref b38), (.ref b38)])) rfl rfl (hb hby at_80)
    have Zs_51 : n0 ≤ h51.size := Nat.le_trans Zs_50 (Nat.le_of_eq W51.size.symm)
    have Arv_b38_51 : Arv Z h51 b38 k38 .int (17 : Int32) [(.int (0 : Int32)), (.int (9 : Int32)), (.int (10 : Int32)), (.int (13 : Int32)), (.int (31 : Int32)), (.int (32 : Int32)), (.int (55295 : Int32)), (.int (55296 : Int32)), (.int (56319 : Int32)), (.int (56320 : Int32)), (.int (57343 : Int32)), (.int (57344 : Int32)), (.int (65533 : Int32)), (.int (0 : Int32)), (.int (0 : Int32)), (.int (0 : Int32)), (.int (0 : Int32))] (.int (0 : Int32)) := Arv.set Ar51 q51 Sz51 Nn51 Hh51 Gg51 rfl W51 12 rfl (Nat.le_of_ble_eq_true rfl)
    have N51 := Fr.snoc X51 N50 g_b38
    refine GoW.sg (mkF m 81 (K0 q1 q2) [(.ref b38)]) (fun t k => st51 t k) ?_
    refine GoW.sg (mkF m 82 (K0 q1 q2) [(.ref b38), (.ref b38)]) (fun t k => XS.dup X51.here hx rfl (hb hby at_81) rfl rfl k) ?_
    refine GoW.sg (mkF m 84 (K0 q1 q2) [(.int 13), (.ref b38), (.ref b38)]) (fun t k => XS.bipush X51.here hx rfl (hb hby at_82) k) ?_
    refine GoW.sg (mkF m 86 (K0 q1 q2) [(.int 65534), (.int 13), (.ref b38), (.ref b38)]) (fun t k => X51.ldcInt hx hown (mvT hZ (ww hw 8 rfl)) (g := (mkF m 84 (K0 q1 q2) [(.int 13), (.ref b38), (.ref b38)])) rfl (hb hby at_84) t k) ?_
    obtain ⟨cl52, Ar52, q52, Sz52, Nn52, Hh52, Gg52⟩ := Arv_b38_51
    have hin52 : ¬ ((13 : Int32) < 0 ∨ cl52.slots.size ≤ ((13 : Int32)).toNatClampNeg) := inb_of Sz52 ⟨by decide, by decide⟩
    obtain ⟨T52, h52, X52, e52, W52, st52⟩ := stI X51 hx hZ e51 Ar52 (j := (13 : Int32)) hin52 (g := (mkF m 86 (K0 q1 q2) [(.int 65534), (.int 13), (.ref b38), (.ref b38)])) rfl rfl (hb hby at_86)
    have Zs_52 : n0 ≤ h52.size := Nat.le_trans Zs_51 (Nat.le_of_eq W52.size.symm)
    have Arv_b38_52 : Arv Z h52 b38 k38 .int (17 : Int32) [(.int (0 : Int32)), (.int (9 : Int32)), (.int (10 : Int32)), (.int (13 : Int32)), (.int (31 : Int32)), (.int (32 : Int32)), (.int (55295 : Int32)), (.int (55296 : Int32)), (.int (56319 : Int32)), (.int (56320 : Int32)), (.int (57343 : Int32)), (.int (57344 : Int32)), (.int (65533 : Int32)), (.int (65534 : Int32)), (.int (0 : Int32)), (.int (0 : Int32)), (.int (0 : Int32))] (.int (0 : Int32)) := Arv.set Ar52 q52 Sz52 Nn52 Hh52 Gg52 rfl W52 13 rfl (Nat.le_of_ble_eq_true rfl)
    have N52 := Fr.snoc X52 N51 g_b38
    refine GoW.sg (mkF m 87 (K0 q1 q2) [(.ref b38)]) (fun t k => st52 t k) ?_
    refine GoW.sg (mkF m 88 (K0 q1 q2) [(.ref b38), (.ref b38)]) (fun t k => XS.dup X52.here hx rfl (hb hby at_87) rfl rfl k) ?_
    refine GoW.sg (mkF m 90 (K0 q1 q2) [(.int 14), (.ref b38), (.ref b38)]) (fun t k => XS.bipush X52.here hx rfl (hb hby at_88) k) ?_
    refine GoW.sg (mkF m 92 (K0 q1 q2) [(.int 65535), (.int 14), (.ref b38), (.ref b38)]) (fun t k => X52.ldcInt hx hown (mvT hZ (ww hw 9 rfl)) (g := (mkF m 90 (K0 q1 q2) [(.int 14), (.ref b38), (.ref b38)])) rfl (hb hby at_90) t k) ?_
    obtain ⟨cl53, Ar53, q53, Sz53, Nn53, Hh53, Gg53⟩ := Arv_b38_52
    have hin53 : ¬ ((14 : Int32) < 0 ∨ cl53.slots.size ≤ ((14 : Int32)).toNatClampNeg) := inb_of Sz53 ⟨by decide, by decide⟩
    obtain ⟨T53, h53, X53, e53, W53, st53⟩ := stI X52 hx hZ e52 Ar53 (j := (14 : Int32)) hin53 (g := (mkF m 92 (K0 q1 q2) [(.int 65535), (.int 14), (.ref b38), (.ref b38)])) rfl rfl (hb hby at_92)
    have Zs_53 : n0 ≤ h53.size := Nat.le_trans Zs_52 (Nat.le_of_eq W53.size.symm)
    have Arv_b38_53 : Arv Z h53 b38 k38 .int (17 : Int32) [(.int (0 : Int32)), (.int (9 : Int32)), (.int (10 : Int32)), (.int (13 : Int32)), (.int (31 : Int32)), (.int (32 : Int32)), (.int (55295 : Int32)), (.int (55296 : Int32)), (.int (56319 : Int32)), (.int (56320 : Int32)), (.int (57343 : Int32)), (.int (57344 : Int32)), (.int (65533 : Int32)), (.int (65534 : Int32)), (.int (65535 : Int32)), (.int (0 : Int32)), (.int (0 : Int32))] (.int (0 : Int32)) := Arv.set Ar53 q53 Sz53 Nn53 Hh53 Gg53 rfl W53 14 rfl (Nat.le_of_ble_eq_true rfl)
    have N53 := Fr.snoc X53 N52 g_b38
    refine GoW.sg (mkF m 93 (K0 q1 q2) [(.ref b38)]) (fun t k => st53 t k) ?_
    refine GoW.sg (mkF m 94 (K0 q1 q2) [(.ref b38), (.ref b38)]) (fun t k => XS.dup X53.here hx rfl (hb hby at_93) rfl rfl k) ?_
    refine GoW.sg (mkF m 96 (K0 q1 q2) [(.int 15), (.ref b38), (.ref b38)]) (fun t k => XS.bipush X53.here hx rfl (hb hby at_94) k) ?_
    refine GoW.sg (mkF m 98 (K0 q1 q2) [(.int 65536), (.int 15), (.ref b38), (.ref b38)]) (fun t k => X53.ldcInt hx hown (mvT hZ (ww hw 10 rfl)) (g := (mkF m 96 (K0 q1 q2) [(.int 15), (.ref b38), (.ref b38)])) rfl (hb hby at_96) t k) ?_
    obtain ⟨cl54, Ar54, q54, Sz54, Nn54, Hh54, Gg54⟩ := Arv_b38_53
    have hin54 : ¬ ((15 : Int32) < 0 ∨ cl54.slots.size ≤ ((15 : Int32)).toNatClampNeg) := inb_of Sz54 ⟨by decide, by decide⟩
    obtain ⟨T54, h54, X54, e54, W54, st54⟩ := stI X53 hx hZ e53 Ar54 (j := (15 : Int32)) hin54 (g := (mkF m 98 (K0 q1 q2) [(.int 65536), (.int 15), (.ref b38), (.ref b38)])) rfl rfl (hb hby at_98)
    have Zs_54 : n0 ≤ h54.size := Nat.le_trans Zs_53 (Nat.le_of_eq W54.size.symm)
    have Arv_b38_54 : Arv Z h54 b38 k38 .int (17 : Int32) [(.int (0 : Int32)), (.int (9 : Int32)), (.int (10 : Int32)), (.int (13 : Int32)), (.int (31 : Int32)), (.int (32 : Int32)), (.int (55295 : Int32)), (.int (55296 : Int32)), (.int (56319 : Int32)), (.int (56320 : Int32)), (.int (57343 : Int32)), (.int (57344 : Int32)), (.int (65533 : Int32)), (.int (65534 : Int32)), (.int (65535 : Int32)), (.int (65536 : Int32)), (.int (0 : Int32))] (.int (0 : Int32)) := Arv.set Ar54 q54 Sz54 Nn54 Hh54 Gg54 rfl W54 15 rfl (Nat.le_of_ble_eq_true rfl)
    have N54 := Fr.snoc X54 N53 g_b38
    refine GoW.sg (mkF m 99 (K0 q1 q2) [(.ref b38)]) (fun t k => st54 t k) ?_
    refine GoW.sg (mkF m 100 (K0 q1 q2) [(.ref b38), (.ref b38)]) (fun t k => XS.dup X54.here hx rfl (hb hby at_99) rfl rfl k) ?_
    refine GoW.sg (mkF m 102 (K0 q1 q2) [(.int 16), (.ref b38), (.ref b38)]) (fun t k => XS.bipush X54.here hx rfl (hb hby at_100) k) ?_
    refine GoW.sg (mkF m 104 (K0 q1 q2) [(.int 1114111), (.int 16), (.ref b38), (.ref b38)]) (fun t k => X54.ldcInt hx hown (mvT hZ (ww hw 11 rfl)) (g := (mkF m 102 (K0 q1 q2) [(.int 16), (.ref b38), (.ref b38)])) rfl (hb hby at_102) t k) ?_
    obtain ⟨cl55, Ar55, q55, Sz55, Nn55, Hh55, Gg55⟩ := Arv_b38_54
    have hin55 : ¬ ((16 : Int32) < 0 ∨ cl55.slots.size ≤ ((16 : Int32)).toNatClampNeg) := inb_of Sz55 ⟨by decide, by decide⟩
    obtain ⟨T55, h55, X55, e55, W55, st55⟩ := stI X54 hx hZ e54 Ar55 (j := (16 : Int32)) hin55 (g := (mkF m 104 (K0 q1 q2) [(.int 1114111), (.int 16), (.ref b38), (.ref b38)])) rfl rfl (hb hby at_104)
    have Zs_55 : n0 ≤ h55.size := Nat.le_trans Zs_54 (Nat.le_of_eq W55.size.symm)
    have Arv_b38_55 : Arv Z h55 b38 k38 .int (17 : Int32) [(.int (0 : Int32)), (.int (9 : Int32)), (.int (10 : Int32)), (.int (13 : Int32)), (.int (31 : Int32)), (.int (32 : Int32)), (.int (55295 : Int32)), (.int (55296 : Int32)), (.int (56319 : Int32)), (.int (56320 : Int32)), (.int (57343 : Int32)), (.int (57344 : Int32)), (.int (65533 : Int32)), (.int (65534 : Int32)), (.int (65535 : Int32)), (.int (65536 : Int32)), (.int (1114111 : Int32))] (.int (0 : Int32)) := Arv.set Ar55 q55 Sz55 Nn55 Hh55 Gg55 rfl W55 16 rfl (Nat.le_of_ble_eq_true rfl)
    have N55 := Fr.snoc X55 N54 g_b38
    refine GoW.sg (mkF m 105 (K0 q1 q2) [(.ref b38)]) (fun t k => st55 t k) ?_
    refine GoW.sg (mkF m 106 (K2 q1 q2 b38) []) (fun t k => XS.astoreN X55.here hx rfl (hb hby at_105) rfl rfl (l' := (K2 q1 q2 b38)) rfl k) ?_
    refine GoW.sg (mkF m 107 (K2 q1 q2 b38) [(.ref b38)]) (fun t k => XS.aloadN X55.here hx rfl (hb hby at_106) rfl rfl k) ?_
    refine GoW.sg (mkF m 108 (K2 q1 q2 b38) [(.int q2), (.ref b38)]) (fun t k => XS.iloadN X55.here hx rfl (hb hby at_107) rfl k) ?_
    refine GoW.sg (mkF m 109 (K2 q1 q2 b38) [(.int 1), (.int q2), (.ref b38)]) (fun t k => XS.iconst X55.here hx rfl (hb hby at_108) k) ?_
    refine GoW.sg (mkF m 110 (K2 q1 q2 b38) [(.int (q2.toUInt32 >>> ((1 : Int32) &&& 31).toUInt32).toInt32), (.ref b38)]) (fun t k => XS.iushr X55.here hx rfl (hb hby at_109) rfl k) ?_
    refine GoW.sg (mkF m 112 (K2 q1 q2 b38) [(.int 2147483647), (.int (q2.toUInt32 >>> ((1 : Int32) &&& 31).toUInt32).toInt32), (.ref b38)]) (fun t k => X55.ldcInt hx hown (mvT hZ (ww hw 12 rfl)) (g := (mkF m 110 (K2 q1 q2 b38) [(.int (q2.toUInt32 >>> ((1 : Int32) &&& 31).toUInt32).toInt32), (.ref b38)])) rfl (hb hby at_110) t k) ?_
    refine GoW.sg (mkF m 113 (K2 q1 q2 b38) [(.int ((q2.toUInt32 >>> ((1 : Int32) &&& 31).toUInt32).toInt32 &&& (2147483647 : Int32))), (.ref b38)]) (fun t k => XS.iand X55.here hx rfl (hb hby at_112) rfl k) ?_
    refine GoW.sg (mkF m 114 (K2 q1 q2 b38) [(.ref b38), (.int ((q2.toUInt32 >>> ((1 : Int32) &&& 31).toUInt32).toInt32 &&& (2147483647 : Int32))), (.ref b38)]) (fun t k => XS.aloadN X55.here hx rfl (hb hby at_113) rfl rfl k) ?_
    obtain ⟨cl56, Ar56, q56, Sz56, Nn56, Hh56, Gg56⟩ := id Arv_b38_55
    have st56 := X55.arraylength hx (by rw [e55]; exact Ar56.1) (State.isArrayOf_alike hZ.alike Ar56.2.1) (g := (mkF m 114 (K2 q1 q2 b38) [(.ref b38), (.int ((q2.toUInt32 >>> ((1 : Int32) &&& 31).toUInt32).toInt32 &&& (2147483647 : Int32))), (.ref b38)])) rfl rfl (hb hby at_114)
    rw [len_of Sz56 Nn56] at st56
    refine GoW.sg (mkF m 115 (K2 q1 q2 b38) [(.int 17), (.int ((q2.toUInt32 >>> ((1 : Int32) &&& 31).toUInt32).toInt32 &&& (2147483647 : Int32))), (.ref b38)]) (fun t k => st56 t k) ?_
    refine GoW.sg (mkF m 116 (K2 q1 q2 b38) [(.int (((q2.toUInt32 >>> ((1 : Int32) &&& 31).toUInt32).toInt32 &&& (2147483647 : Int32)) % (17 : Int32))), (.ref b38)]) (fun t k => iremM X55 hx rfl (hb hby at_115) rfl (by decide) k) ?_
    obtain ⟨cl57, Ar57, q57, Sz57, Nn57, Hh57, Gg57⟩ := id Arv_b38_55
    have hin57 : ¬ ((((q2.toUInt32 >>> ((1 : Int32) &&& 31).toUInt32).toInt32 &&& (2147483647 : Int32)) % (17 : Int32)) < 0 ∨ cl57.slots.size ≤ ((((q2.toUInt32 >>> ((1 : Int32) &&& 31).toUInt32).toInt32 &&& (2147483647 : Int32)) % (17 : Int32))).toNatClampNeg) := inb_of Sz57 (own_idx q2)
    refine GoW.sg (mkF m 117 (K2 q1 q2 b38) [(.int (own_edge (((q2.toUInt32 >>> ((1 : Int32) &&& 31).toUInt32).toInt32 &&& (2147483647 : Int32)) % (17 : Int32))))]) (fun t k => X55.iaload hx (j := (((q2.toUInt32 >>> ((1 : Int32) &&& 31).toUInt32).toInt32 &&& (2147483647 : Int32)) % (17 : Int32))) (v := (.int (own_edge (((q2.toUInt32 >>> ((1 : Int32) &&& 31).toUInt32).toInt32 &&& (2147483647 : Int32)) % (17 : Int32))))) (by rw [e55]; exact Ar57.1) (State.isArrayOf_alike hZ.alike Ar57.2.1) Ar57.2.2 hin57 (Hh57.at hin57 (own_edge_at _)) (g := (mkF m 116 (K2 q1 q2 b38) [(.int (((q2.toUInt32 >>> ((1 : Int32) &&& 31).toUInt32).toInt32 &&& (2147483647 : Int32)) % (17 : Int32))), (.ref b38)])) rfl rfl (hb hby at_116) t k) ?_
    refine GoW.sg (mkF m 119 (K3 q1 q2 b38 (own_edge (((q2.toUInt32 >>> ((1 : Int32) &&& 31).toUInt32).toInt32 &&& (2147483647 : Int32)) % (17 : Int32)))) []) (fun t k => XS.istore X55.here hx rfl (hb hby at_117) rfl (l' := (K3 q1 q2 b38 (own_edge (((q2.toUInt32 >>> ((1 : Int32) &&& 31).toUInt32).toInt32 &&& (2147483647 : Int32)) % (17 : Int32))))) rfl k) ?_
    obtain ⟨z58, hz58⟩ : ∃ z : Int32, z = (own_edge (((q2.toUInt32 >>> ((1 : Int32) &&& 31).toUInt32).toInt32 &&& (2147483647 : Int32)) % (17 : Int32))) := ⟨_, rfl⟩
    rw [← hz58]
    have hFz58 : (F0 q1 q2) = (F0_3 q1 q2 z58) := by unfold F0; rw [if_neg c29]; rw [hz58]
    show GoW p e below s (ValQ (.int (F0 q1 q2)) n0) room_1.cells room_1.slots (T55.setTop (mkF m 119 (K3 q1 q2 b38 z58) []))
    refine GoW.sg (mkF m 121 (K3 q1 q2 b38 z58) [(.int z58)]) (fun t k => XS.iload X55.here hx rfl (hb hby at_119) rfl k) ?_
    refine GoW.sg (mkF m 122 (K3 q1 q2 b38 z58) [(.int q1), (.int z58)]) (fun t k => XS.iloadN X55.here hx rfl (hb hby at_121) rfl k) ?_
    refine GoW.sg (mkF m 123 (K3 q1 q2 b38 z58) [(.int 3), (.int q1), (.int z58)]) (fun t k => XS.iconst X55.here hx rfl (hb hby at_122) k) ?_
    refine GoW.sg (mkF m 124 (K3 q1 q2 b38 z58) [(.int (q1 &&& (3 : Int32))), (.int z58)]) (fun t k => XS.iand X55.here hx rfl (hb hby at_123) rfl k) ?_
    refine GoW.sg (mkF m 125 (K3 q1 q2 b38 z58) [(.int (z58 + (q1 &&& (3 : Int32))))]) (fun t k => XS.iadd X55.here hx rfl (hb hby at_124) rfl k) ?_
    refine GoW.sg (mkF m 126 (K3 q1 q2 b38 z58) [(.int 1), (.int (z58 + (q1 &&& (3 : Int32))))]) (fun t k => XS.iconst X55.here hx rfl (hb hby at_125) k) ?_
    refine GoW.sg (mkF m 127 (K3 q1 q2 b38 z58) [(.int ((z58 + (q1 &&& (3 : Int32))) - (1 : Int32)))]) (fun t k => XS.isub X55.here hx rfl (hb hby at_126) rfl k) ?_
    refine GoW.sg (mkF m 128 (K4 q1 q2 ((z58 + (q1 &&& (3 : Int32))) - (1 : Int32)) b38 z58) []) (fun t k => XS.istoreN X55.here hx rfl (hb hby at_127) rfl (l' := (K4 q1 q2 ((z58 + (q1 &&& (3 : Int32))) - (1 : Int32)) b38 z58)) rfl k) ?_
    obtain ⟨z59, hz59⟩ : ∃ z : Int32, z = ((z58 + (q1 &&& (3 : Int32))) - (1 : Int32)) := ⟨_, rfl⟩
    rw [← hz59]
    have hFz59 : (F0_3 q1 q2 z58) = (F0_4 q1 q2 z58 z59) := by unfold F0_3; rw [hz59]
    show GoW p e below s (ValQ (.int (F0 q1 q2)) n0) room_1.cells room_1.slots (T55.setTop (mkF m 128 (K4 q1 q2 z59 b38 z58) []))
    refine GoW.sg (mkF m 129 (K4 q1 q2 z59 b38 z58) [(.int 0)]) (fun t k => XS.iconst X55.here hx rfl (hb hby at_128) k) ?_
    refine GoW.sg (mkF m 131 (K4 q1 q2 z59 b38 z58) [(.int 1114111), (.int 0)]) (fun t k => X55.ldcInt hx hown (mvT hZ (ww hw 11 rfl)) (g := (mkF m 129 (K4 q1 q2 z59 b38 z58) [(.int 0)])) rfl (hb hby at_129) t k) ?_
    refine GoW.sg (mkF m 132 (K4 q1 q2 z59 b38 z58) [(.int z59), (.int 1114111), (.int 0)]) (fun t k => XS.iloadN X55.here hx rfl (hb hby at_131) rfl k) ?_
    obtain ⟨_, _, ⟨T60, L60, k60, n60⟩, -, X60, ⟨Lc60, hQ60, l60, y60, z60⟩, st60⟩ := Jvm.LawKit.callS X55 hx (y := (⟨"java/lang/Math", "min", "(II)I"⟩ : MethodName)) hown (mvT hZ (ww hw 13 rfl)) (mvT hZ (ww hw 14 rfl)) (mvT hZ (ww hw 15 rfl)) (mvT hZ (ww hw 16 rfl)) (by decide) (backOf (W := 1) (rm1 l Z a0 hw [] (1114111 : Int32) z59 h55 n0) hZ (ww hw 16 rfl) (ww hw 15 rfl) (by decide) (by decide)) (g := (mkF m 132 (K4 q1 q2 z59 b38 z58) [(.int z59), (.int 1114111), (.int 0)])) rfl (by rw [hml]; rfl) (argsL := [(.int (1114111 : Int32)), (.int z59)]) (rest := [(.int (0 : Int32))]) (lenOf pd_28II29I rfl) rfl (by show 2 * 0 + _ ≤ _; exact Nat.le_of_eq rfl) (hb hby at_132) (fun _ _ => ⟨rfl, e55, (by decide : 1 + 0 ≤ _), (by decide : 17 + 0 ≤ _)⟩)
    dsimp only [Pt.U, Pt.locs, Pt.cells, Pt.slots] at X60 l60 y60 z60 st60 hQ60
    subst l60 y60 z60
    obtain ⟨rfl, N60q, e60⟩ := hQ60
    have N60 := Fr.app N55 N60q
    refine GoW.sg (mkF m 135 (K4 q1 q2 z59 b38 z58) [(.int (F1 (1114111 : Int32) z59)), (.int 0)]) (fun t k => st60 t k) ?_
    obtain ⟨_, _, ⟨T61, L61, k61, n61⟩, -, X61, ⟨Lc61, hQ61, l61, y61, z61⟩, st61⟩ := Jvm.LawKit.callS X60 hx (y := (⟨"java/lang/Math", "max", "(II)I"⟩ : MethodName)) hown (mvT hZ (ww hw 17 rfl)) (mvT hZ (ww hw 18 rfl)) (mvT hZ (ww hw 15 rfl)) (mvT hZ (ww hw 19 rfl)) (by decide) (backOf (W := 0) (rm2 l Z a0 hw [] (0 : Int32) (F1 (1114111 : Int32) z59) h55 n0) hZ (ww hw 19 rfl) (ww hw 15 rfl) (by decide) (by decide)) (g := (mkF m 135 (K4 q1 q2 z59 b38 z58) [(.int (F1 (1114111 : Int32) z59)), (.int 0)])) rfl (by rw [hml]; rfl) (argsL := [(.int (0 : Int32)), (.int (F1 (1114111 : Int32) z59))]) (rest := []) (lenOf pd_28II29I rfl) rfl (by show 2 * 0 + _ ≤ _; exact Nat.le_of_eq rfl) (hb hby at_135) (fun _ _ => ⟨rfl, e60, (by decide : 1 + 0 ≤ _), (by decide : 17 + 0 ≤ _)⟩)
    dsimp only [Pt.U, Pt.locs, Pt.cells, Pt.slots] at X61 l61 y61 z61 st61 hQ61
    subst l61 y61 z61
    obtain ⟨rfl, N61q, e61⟩ := hQ61
    have N61 := Fr.app N60 N61q
    refine GoW.sg (mkF m 138 (K4 q1 q2 z59 b38 z58) [(.int (F2 (0 : Int32) (F1 (1114111 : Int32) z59)))]) (fun t k => st61 t k) ?_
    refine GoW.sg (mkF m 139 (K4 q1 q2 (F2 (0 : Int32) (F1 (1114111 : Int32) z59)) b38 z58) []) (fun t k => XS.istoreN X61.here hx rfl (hb hby at_138) rfl (l' := (K4 q1 q2 (F2 (0 : Int32) (F1 (1114111 : Int32) z59)) b38 z58)) rfl k) ?_
    obtain ⟨z62, hz62⟩ : ∃ z : Int32, z = (F2 (0 : Int32) (F1 (1114111 : Int32) z59)) := ⟨_, rfl⟩
    rw [← hz62]
    have hFz62 : (F0_4 q1 q2 z58 z59) = (F0_5 q1 q2 z58 z59 z62) := by unfold F0_4; rw [hz62]
    show GoW p e below s (ValQ (.int (F0 q1 q2)) n0) room_1.cells room_1.slots (T61.setTop (mkF m 139 (K4 q1 q2 z62 b38 z58) []))
    refine GoW.sg (mkF m 150 (K4 q1 q2 z62 b38 z58) []) (fun t k => XS.goto X61.here hx rfl (pc0 := 139) (pc' := 150) rfl (hb hby at_139) (by decide) (by decide) k) ?_
    refine GoW.sg (mkF m 151 (K4 q1 q2 z62 b38 z58) [(.int z62)]) (fun t k => XS.iloadN X61.here hx rfl (hb hby at_150) rfl k) ?_
    obtain ⟨_, _, ⟨T63, L63, k63, n63⟩, -, X63, ⟨Lc63, hQ63, l63, y63, z63⟩, st63⟩ := Jvm.LawKit.callS X61 hx (y := (⟨"com/example/relaystack/relaystack/Element", "canHold", "(I)Z"⟩ : MethodName)) hown (mvT hZ (ww hw 20 rfl)) (mvT hZ (ww hw 21 rfl)) (mvT hZ (ww hw 22 rfl)) (mvT hZ (ww hw 23 rfl)) (by decide) (backOf (W := 0) (rm3 l Z a0 hw [] z62 h55 n0) hZ (ww hw 23 rfl) (ww hw 22 rfl) (by decide) (by decide)) (g := (mkF m 151 (K4 q1 q2 z62 b38 z58) [(.int z62)])) rfl (by rw [hml]; rfl) (argsL := [(.int z62)]) (rest := []) (lenOf pd_28I29Z rfl) rfl (by show 2 * 0 + _ ≤ _; exact Nat.le_of_eq rfl) (hb hby at_151) (fun _ _ => ⟨rfl, e61, (by decide : 1 + 0 ≤ _), (by decide : 17 + 0 ≤ _)⟩)
    dsimp only [Pt.U, Pt.locs, Pt.cells, Pt.slots] at X63 l63 y63 z63 st63 hQ63
    subst l63 y63 z63
    obtain ⟨rfl, N63q, e63⟩ := hQ63
    have N63 := Fr.app N61 N63q
    refine GoW.sg (mkF m 154 (K4 q1 q2 z62 b38 z58) [(.int (F3 z62))]) (fun t k => st63 t k) ?_
    refine GoW.sg (mkF m 155 (K4 q1 q2 z62 b38 z58) [(.int z62), (.int (F3 z62))]) (fun t k => XS.iloadN X63.here hx rfl (hb hby at_154) rfl k) ?_
    obtain ⟨_, _, ⟨T64, L64, k64, n64⟩, -, X64, ⟨Lc64, hQ64, l64, y64, z64⟩, st64⟩ := Jvm.LawKit.callS X63 hx (y := (⟨"com/example/relaystack/relaystack/ElementCanHoldPinLaw", "refused", "(I)Z"⟩ : MethodName)) hown (mvT hZ (ww hw 26 rfl)) (mvT hZ (ww hw 27 rfl)) (mvT hZ (ww hw 28 rfl)) (mvT hZ (ww hw 29 rfl)) (by decide) (backOf (W := 1) (rm4 l Z a0 hw [] z62 h55 n0) hZ (ww hw 29 rfl) (ww hw 28 rfl) (by decide) (by decide)) (g := (mkF m 155 (K4 q1 q2 z62 b38 z58) [(.int z62), (.int (F3 z62))])) rfl (by rw [hml]; rfl) (argsL := [(.int z62)]) (rest := [(.int (F3 z62))]) (lenOf pd_28I29Z rfl) rfl (by show 2 * 0 + _ ≤ _; exact Nat.le_of_eq rfl) (hb hby at_155) (fun _ _ => ⟨rfl, e63, (by decide : 1 + 0 ≤ _), (by decide : 17 + 0 ≤ _)⟩)
    dsimp only [Pt.U, Pt.locs, Pt.cells, Pt.slots] at X64 l64 y64 z64 st64 hQ64
    subst l64 y64 z64
    obtain ⟨rfl, N64q, e64⟩ := hQ64
    have N64 := Fr.app N63 N64q
    refine GoW.sg (mkF m 158 (K4 q1 q2 z62 b38 z58) [(.int (F4 z62)), (.int (F3 z62))]) (fun t k => st64 t k) ?_
    have J166_67 : ∀ b66 : Int32, b66 = (if (F4 z62) = (0 : Int32) then (1 : Int32) else (0 : Int32)) → GoW p e below s (ValQ (.int (F0 q1 q2)) n0) room_1.cells room_1.slots (T64.setTop (mkF m 166 (K4 q1 q2 z62 b38 z58) [(.int b66), (.int (F3 z62))])) := by
      intro b66 hb66
      have hFb66 : (F0_5 q1 q2 z58 z59 z62) = (F0_6 q1 q2 z58 z59 z62 b66) := by unfold F0_5; rw [hb66]
      by_cases c69 : (F3 z62) = b66
      · refine GoW.sg (mkF m 169 (K4 q1 q2 z62 b38 z58) []) (fun t k => XS.icmpNo X64.here hx rfl (hb hby at_166) rfl (teq c69).2 k) ?_
        refine GoW.sg (mkF m 170 (K4 q1 q2 z62 b38 z58) [(.int 1)]) (fun t k => XS.iconst X64.here hx rfl (hb hby at_169) k) ?_
        refine GoW.sg (mkF m 174 (K4 q1 q2 z62 b38 z58) [(.int 1)]) (fun t k => XS.goto X64.here hx rfl (pc0 := 170) (pc' := 174) rfl (hb hby at_170) (by decide) (by decide) k) ?_
        refine GoW.retN X64 hx (t := .boolean) Bd.returns (by simp) (hb hby at_174) Bd.notSynchronized ?_ (by decide) (by decide)
        have hq : (F0 q1 q2) = (1 : Int32) := by rw [hFz58, hFz59, hFz62, hFb66]; unfold F0_6; rw [if_pos c69]; try rfl
        exact ⟨by rw [hq] <;> rfl, N64⟩
      · refine GoW.sg (mkF m 173 (K4 q1 q2 z62 b38 z58) []) (fun t k => XS.icmpYes X64.here hx rfl (pc0 := 166) (pc' := 173) rfl (hb hby at_166) rfl (feq c69).2 (by decide) (by decide) k) ?_
        refine GoW.sg (mkF m 174 (K4 q1 q2 z62 b38 z58) [(.int 0)]) (fun t k => XS.iconst X64.here hx rfl (hb hby at_173) k) ?_
        refine GoW.retN X64 hx (t := .boolean) Bd.returns (by simp) (hb hby at_174) Bd.notSynchronized ?_ (by decide) (by decide)
        have hq : (F0 q1 q2) = (0 : Int32) := by rw [hFz58, hFz59, hFz62, hFb66]; unfold F0_6; rw [if_neg c69]; try rfl
        exact ⟨by rw [hq] <;> rfl, N64⟩
    by_cases c68 : (F4 z62) = (0 : Int32)
    · refine GoW.sg (mkF m 161 (K4 q1 q2 z62 b38 z58) [(.int (F3 z62))]) (fun t k => XS.ifNo X64.here hx rfl (hb hby at_158) rfl ((if0 _ _).trans (teq c68).2) k) ?_
      refine GoW.sg (mkF m 162 (K4 q1 q2 z62 b38 z58) [(.int 1), (.int (F3 z62))]) (fun t k => XS.iconst X64.here hx rfl (hb hby at_161) k) ?_
      refine GoW.sg (mkF m 166 (K4 q1 q2 z62 b38 z58) [(.int 1), (.int (F3 z62))]) (fun t k => XS.goto X64.here hx rfl (pc0 := 162) (pc' := 166) rfl (hb hby at_162) (by decide) (by decide) k) ?_
      exact J166_67 _ (by rw [if_pos c68])
    · refine GoW.sg (mkF m 165 (K4 q1 q2 z62 b38 z58) [(.int (F3 z62))]) (fun t k => XS.ifYes X64.here hx rfl (pc0 := 158) (pc' := 165) rfl (hb hby at_158) rfl ((if0 _ _).trans (feq c68).2) (by decide) (by decide) k) ?_
      refine GoW.sg (mkF m 166 (K4 q1 q2 z62 b38 z58) [(.int 0), (.int (F3 z62))]) (fun t k => XS.iconst X64.here hx rfl (hb hby at_165) k) ?_
      exact J166_67 _ (by rw [if_neg c68])
theorem own_hold (c : Int32) : F3 c = (if F4 c = (0 : Int32) then (1 : Int32) else (0 : Int32)) := by
  unfold F3 F4
  simp only [Int32.lt_iff_toInt_lt, ← Int32.toInt_inj]
  simp only [show (32 : Int32).toInt = 32 from rfl, show (9 : Int32).toInt = 9 from rfl, show (10 : Int32).toInt = 10 from rfl, show (13 : Int32).toInt = 13 from rfl, show (55296 : Int32).toInt = 55296 from rfl, show (57344 : Int32).toInt = 57344 from rfl, show (57343 : Int32).toInt = 57343 from rfl, show (65534 : Int32).toInt = 65534 from rfl, show (65535 : Int32).toInt = 65535 from rfl]
  generalize c.toInt = x
  by_cases c1 : x < 32
  · by_cases c2 : x = 9
    · simp [c1, c2]
    · by_cases c3 : x = 10
      · simp [c1, c3]
      · by_cases c4 : x = 13
        · simp [c1, c4]
        · have c5 : x < 57344 := by omega
          have c6 : ¬ 65535 < x := by omega
          simp [c1, c2, c3, c4, c5, c6]
  · have c2 : ¬ x = 9 := by omega
    have c3 : ¬ x = 10 := by omega
    have c4 : ¬ x = 13 := by omega
    by_cases c5 : x < 55296
    · have c6 : ¬ x = 65534 := by omega
      have c7 : ¬ x = 65535 := by omega
      simp [c1, c5, c6, c7]
    · by_cases c6 : x < 57344
      · have c7 : ¬ 65535 < x := by omega
        have c8 : ¬ 57343 < x := by omega
        simp [c1, c2, c3, c4, c5, c6, c7, c8]
      · have c8 : 57343 < x := by omega
        by_cases c9 : x < 65534
        · have c10 : ¬ x = 65534 := by omega
          have c11 : ¬ x = 65535 := by omega
          simp [c1, c2, c3, c4, c5, c6, c8, c9, c10, c11]
        · by_cases c10 : 65535 < x
          · have c11 : ¬ x = 65534 := by omega
            have c12 : ¬ x = 65535 := by omega
            simp [c1, c2, c3, c4, c5, c6, c8, c9, c10, c11, c12]
          · have : x = 65534 ∨ x = 65535 := by omega
            rcases this with e | e <;> simp [e]
theorem own_law (q1 q2 : Int32) : F0 q1 q2 = 1 := by
  unfold F0
  split
  · unfold F0_1 F0_2; rw [if_pos (own_hold _)]
  · unfold F0_3 F0_4 F0_5 F0_6; rw [if_pos (own_hold _)]

set_option maxRecDepth 65536 in
set_option maxHeartbeats 40000000 in
theorem comes_1 {Post : Tables → Env → Array Value → State → Outcome → State → Prop} (hpost : ∀ tb e args s v u, (limb_1_1.after args s (.returned v) u = true ∧ limb_1_2.after args s (.returned v) u = true ∧ True) → FrameEnd s (.returned v) u (Jvm.fieldLocs frame_1_writes args s ++ Jvm.arrayLocs frame_1_arrays args s ++ Jvm.staticLocs frame_1_statics s) 16 128 → Post tb e args s (.returned v) u) :
    ArmFor flags0 classFile x code maxLocals ret World_1 tables_1 room_1 Calls_1 rest_1 Pre_1 Post := by
  intro l hfl _ _ p e ha hc hk s m args below hf hA hF happ hP
  obtain ⟨hcalls, hrest, hpre⟩ := hP
  obtain ⟨-, -, -, hnamed, -, -, -, hat⟩ := (Spec.applies_iff hf).mp happ
  obtain ⟨hg, hn⟩ := and_e (Cond.before_iff.mp (show (Jvm.Cond.and given_1 narrow_1).before args s = true from hpre))
  obtain ⟨ga0, gb0⟩ := and_e hg
  obtain ⟨ga1, gb1⟩ := and_e gb0
  obtain ⟨w0, w1, rfl⟩ : ∃ w0 w1 : Value, args = #[w0, w1] := by
    have hs : args.size = 2 := by simpa [Cond.value, given_1] using ga0
    obtain ⟨L⟩ := args
    match L, hs with
    | [w0, w1], _ => exact ⟨w0, w1, rfl⟩
  have hw := fun d (hd : d ∈ tables_1) => atoms_spec (ws := Jvm.Cond.code x code maxLocals ret :: tables_1) hat d (List.mem_cons_of_mem _ hd)
  have hfit : Fit s := fun {y c} hc i hi => by
    obtain ⟨ha, rfl⟩ := Array.getElem?_eq_some_iff.mp hc
    have q := List.all_eq_true.mp ((Array.all_eq_true_iff_forall_mem.mp hF) _ (Array.getElem_mem ha)) i (List.mem_range.mpr hi)
    simpa [Array.getElem?_eq_getElem hi] using q
  obtain ⟨i0, ei0⟩ := is_v ga1
  obtain rfl : w0 = (.int i0) := Option.some.inj ei0
  obtain ⟨i1, ei1⟩ := is_v gb1
  obtain rfl : w1 = (.int i1) := Option.some.inj ei1
  obtain ⟨n, o, h1, h2, h3, v, L, rfl, ⟨hv, N⟩, hq⟩ := rm0 l s _ hw tables_1 i0 i1  s.heap s.heap.size (Nat.le_refl _)  p e ha hc hk s m _ below hf ((Spec.applies_iff_loose hf).mp happ).1 ⟨rfl, State.Warmed39.refl s, rfl⟩ trivial
  rw [own_law i0 i1] at hv
  subst hv
  refine ⟨n, _, h1, h2, h3, hpost _ _ _ _ _ _ ⟨Cond.after_iff.mpr rfl, Cond.after_iff.mpr (eq_i res_at (Term.int_eval (1)) rfl), trivial⟩ ⟨hq.1, hq.2.1, (hq.2.2.sift fun y hy => Or.inr (N y hy)).mono (by decide) (by decide)⟩⟩
theorem main_1_1 : Claimed_1_1 := comes_1 fun _ _ _ _ _ _ h hF => ⟨h.1, hF⟩
theorem main_1_2 : Claimed_1_2 := comes_1 fun _ _ _ _ _ _ h hF => ⟨h.2.1, hF⟩
end Jvm.Pilot.@@N@@
namespace Jvm.Pilot.@@N@@
open Jvm Jvm.ClassFile Sem Op Lib Jvm.Free Jvm.Stand Jvm.Pilot.@@N@@.Jvm.D
/-! MADE BY PROGRAM (witnessworld.py) out of the Statement's table words and the real class files: 11 classes; the members and pool entries that the words name. The judged class is class 1, her method 2. -/
namespace start1
open Jvm.ClassFile
def u (s : String) : CpInfo := .utf8 (stringToUtf16 s)
/-- a pool by its gaps: so many unusable entries, then the entry; so many at the end -/
def gap : Nat → List CpInfo → List CpInfo
  | 0, r => r
  | n + 1, r => .unusable :: gap n r
def poolList (es : List (Nat × CpInfo)) (last : Nat) : List CpInfo := es.foldr (fun e r => gap e.1 (e.2 :: r)) (gap last [])
def pool (es : List (Nat × CpInfo)) (last : Nat) : Array CpInfo := ⟨poolList es last⟩
def fileOf (pool : Array CpInfo) (this : Nat) (attrs : Array Attribute := #[]) (ms : Array MethodInfo := #[]) (fl : Nat := 33) (sup : Nat := 0) (ifs : Array Nat := #[]) (fds : Array FieldInfo := #[]) : ClassFile where
  minorVersion := 0
  majorVersion := 65
  constantPool := pool
  accessFlags := fl
  thisClass := this
  superClass := sup
  interfaces := ifs
  fields := fds
  methods := ms
  attributes := attrs
def plain (name : String) (sup : Option ClassId) : Class where
  name := name
  kind := .ordinary
  loader := none
  accessFlags := 33
  super := sup
  interfaces := #[]
  cf := none
  fields := #[]
  methods := #[]
  instanceTypes := #[]
  staticTypes := #[]
  resolved := #[]
  callSites := []
  init := .initialized
  statics := none
  mirror := none

def pool0 : Array CpInfo := pool [(5, u "<init>"), (0, u "()V"), (1, .class_ 10), (1, u "java/lang/Object")] 113

def k0m0 : Method := { name := "<init>", desc := "()V", sig := { parameters := [], returnType := none }, accessFlags := 1, code := none }
/-- java/lang/Object -/
def k0 : Class := { plain "java/lang/Object" none with
  accessFlags := 33
  interfaces := #[]
  cf := some (fileOf pool0 8 #[] #[{ accessFlags := 1, nameIndex := 5, descriptorIndex := 6, attributes := #[] }] 33 0 #[] #[])
  fields := #[]
  methods := #[k0m0]
  instanceTypes := #[]
  staticTypes := #[]
  resolved := Array.replicate 124 none
  statics := none }

def pool1 : Array CpInfo := pool [(2, .class_ 4), (1, u "java/lang/Object"), (0, u "<init>"), (0, u "()V"), (0, .integer 55296), (0, .integer 57343), (0, .integer 65534), (0, .integer 65535), (0, .integer 55295), (0, .integer 56319), (0, .integer 56320), (0, .integer 57344), (0, .integer 65533), (0, .integer 65536), (0, .integer 1114111), (0, .integer 2147483647), (0, .methodref 20 21), (0, .class_ 22), (0, .nameAndType 23 24), (0, u "java/lang/Math"), (0, u "min"), (0, u "(II)I"), (0, .methodref 20 26), (0, .nameAndType 27 24), (0, u "max"), (0, .integer 1114112), (0, .methodref 30 31), (0, .class_ 32), (0, .nameAndType 33 34), (0, u "com/example/relaystack/relaystack/Element"), (0, u "canHold"), (0, u "(I)Z"), (0, .methodref 36 37), (0, .class_ 38), (0, .nameAndType 39 34), (0, u "com/example/relaystack/relaystack/ElementCanHoldPinLaw"), (0, u "refused"), (3, u "law"), (0, u "(II)Z")] 2

def k1m0 : Method := { name := "<init>", desc := "()V", sig := { parameters := [], returnType := none }, accessFlags := 2, code := none }
def k1c1 : Code := { maxStack := 2, maxLocals := 1, code := method_2_code, exceptionTable := #[], attributes := #[] }
def k1m1 : Method := { name := "refused", desc := "(I)Z", sig := { parameters := [.int], returnType := some .boolean }, accessFlags := 10, code := some k1c1 }
def k1c2 : Code := { maxStack := 4, maxLocals := 5, code := code, exceptionTable := #[], attributes := #[] }
def k1m2 : Method := { name := "law", desc := "(II)Z", sig := { parameters := [.int, .int], returnType := some .boolean }, accessFlags := 9, code := some k1c2 }
/-- com/example/relaystack/relaystack/ElementCanHoldPinLaw -/
def k1 : Class := { plain "com/example/relaystack/relaystack/ElementCanHoldPinLaw" (some 0) with
  accessFlags := 49
  interfaces := #[]
  cf := some (fileOf pool1 36 #[] #[{ accessFlags := 2, nameIndex := 5, descriptorIndex := 6, attributes := #[] }, { accessFlags := 10, nameIndex := 39, descriptorIndex := 34, attributes := #[] }, { accessFlags := 9, nameIndex := 43, descriptorIndex := 44, attributes := #[] }] 49 2 #[] #[])
  fields := #[]
  methods := #[k1m0, k1m1, k1m2]
  instanceTypes := #[]
  staticTypes := #[]
  resolved := Array.replicate 47 none
  statics := none }

def pool2 : Array CpInfo := pool [(1, .class_ 2), (0, u "java/lang/Math"), (1, .class_ 6), (1, u "java/lang/Object"), (0, u "<init>"), (0, u "()V"), (89, .class_ 100), (1, u "java/lang/Math$RandomNumberGeneratorHolder"), (71, u "negativeZeroFloatBits"), (0, u "J"), (2, u "negativeZeroDoubleBits"), (21, u "max"), (2, u "min"), (43, u "$assertionsDisabled"), (0, u "Z"), (88, u "(II)I"), (2, u "twoToTheDoubleScaleDown"), (0, u "D"), (4, u "twoToTheDoubleScaleUp"), (9, u "E"), (3, u "PI"), (2, u "TAU"), (2, u "DEGREES_TO_RADIANS"), (0, u "RADIANS_TO_DEGREES")] 94

def k2m0 : Method := { name := "<init>", desc := "()V", sig := { parameters := [], returnType := none }, accessFlags := 2, code := none }
def k2c1 : Code := { maxStack := 2, maxLocals := 2, code := jdk_29_method_65_code, exceptionTable := #[], attributes := #[] }
def k2m1 : Method := { name := "max", desc := "(II)I", sig := { parameters := [.int, .int], returnType := some .int }, accessFlags := 9, code := some k2c1 }
def k2c2 : Code := { maxStack := 2, maxLocals := 2, code := jdk_29_method_69_code, exceptionTable := #[], attributes := #[] }
def k2m2 : Method := { name := "min", desc := "(II)I", sig := { parameters := [.int, .int], returnType := some .int }, accessFlags := 9, code := some k2c2 }
/-- java/lang/Math -/
def k2 : Class := { plain "java/lang/Math" (some 0) with
  accessFlags := 49
  interfaces := #[]
  cf := some (fileOf pool2 1 #[.nestMembers #[98]] #[{ accessFlags := 2, nameIndex := 7, descriptorIndex := 8, attributes := #[] }, { accessFlags := 9, nameIndex := 198, descriptorIndex := 335, attributes := #[] }, { accessFlags := 9, nameIndex := 201, descriptorIndex := 335, attributes := #[] }] 49 4 #[] #[{ accessFlags := 25, nameIndex := 354, descriptorIndex := 339, attributes := #[] }, { accessFlags := 25, nameIndex := 358, descriptorIndex := 339, attributes := #[] }, { accessFlags := 25, nameIndex := 361, descriptorIndex := 339, attributes := #[] }, { accessFlags := 26, nameIndex := 364, descriptorIndex := 339, attributes := #[] }, { accessFlags := 26, nameIndex := 365, descriptorIndex := 339, attributes := #[] }, { accessFlags := 26, nameIndex := 172, descriptorIndex := 173, attributes := #[] }, { accessFlags := 26, nameIndex := 176, descriptorIndex := 173, attributes := #[] }, { accessFlags := 8, nameIndex := 344, descriptorIndex := 339, attributes := #[] }, { accessFlags := 8, nameIndex := 338, descriptorIndex := 339, attributes := #[] }, { accessFlags := 4120, nameIndex := 245, descriptorIndex := 246, attributes := #[] }])
  fields := #[{ name := "E", type := .double, accessFlags := 25, slot := 0, constantValue := 0 }, { name := "PI", type := .double, accessFlags := 25, slot := 1, constantValue := 0 }, { name := "TAU", type := .double, accessFlags := 25, slot := 2, constantValue := 0 }, { name := "DEGREES_TO_RADIANS", type := .double, accessFlags := 26, slot := 3, constantValue := 0 }, { name := "RADIANS_TO_DEGREES", type := .double, accessFlags := 26, slot := 4, constantValue := 0 }, { name := "negativeZeroFloatBits", type := .long, accessFlags := 26, slot := 5, constantValue := 0 }, { name := "negativeZeroDoubleBits", type := .long, accessFlags := 26, slot := 6, constantValue := 0 }, { name := "twoToTheDoubleScaleUp", type := .double, accessFlags := 8, slot := 7, constantValue := 0 }, { name := "twoToTheDoubleScaleDown", type := .double, accessFlags := 8, slot := 8, constantValue := 0 }, { name := "$assertionsDisabled", type := .boolean, accessFlags := 4120, slot := 9, constantValue := 0 }]
  methods := #[k2m0, k2m1, k2m2]
  instanceTypes := #[]
  staticTypes := #[.double, .double, .double, .double, .double, .long, .long, .double, .double, .boolean]
  resolved := Array.replicate 460 none
  statics := none }

def pool3 : Array CpInfo := pool [(2, .class_ 4), (1, u "java/lang/Object"), (0, u "<init>"), (0, u "()V"), (0, .class_ 8), (0, u "java/lang/Record")] 13

def k3m0 : Method := { name := "<init>", desc := "()V", sig := { parameters := [], returnType := none }, accessFlags := 4, code := none }
/-- java/lang/Record -/
def k3 : Class := { plain "java/lang/Record" (some 0) with
  accessFlags := 1057
  interfaces := #[]
  cf := some (fileOf pool3 7 #[] #[{ accessFlags := 4, nameIndex := 5, descriptorIndex := 6, attributes := #[] }] 1057 2 #[] #[])
  fields := #[]
  methods := #[k3m0]
  instanceTypes := #[]
  staticTypes := #[]
  resolved := Array.replicate 22 none
  statics := none }

def pool4 : Array CpInfo := pool [(2, .class_ 4), (1, u "java/lang/Record"), (3, u "name"), (7, u "text"), (1, .class_ 20), (1, u "com/example/relaystack/relaystack/Element"), (45, u "Ljava/lang/String;"), (2, u "attributes"), (0, u "Ljava/util/Map;"), (4, u "children"), (0, u "Ljava/util/List;"), (67, .integer 55296), (6, u "canHold"), (0, u "(I)Z"), (23, .integer 57344), (0, .integer 65534), (0, .integer 65535), (18, u "MAX_DEPTH"), (0, u "I")] 72

def k4c0 : Code := { maxStack := 2, maxLocals := 1, code := prog_11_method_11_code, exceptionTable := #[], attributes := #[] }
def k4m0 : Method := { name := "canHold", desc := "(I)Z", sig := { parameters := [.int], returnType := some .boolean }, accessFlags := 8, code := some k4c0 }
/-- com/example/relaystack/relaystack/Element -/
def k4 : Class := { plain "com/example/relaystack/relaystack/Element" (some 3) with
  accessFlags := 48
  interfaces := #[]
  cf := some (fileOf pool4 18 #[] #[{ accessFlags := 8, nameIndex := 151, descriptorIndex := 152, attributes := #[] }] 48 2 #[] #[{ accessFlags := 18, nameIndex := 8, descriptorIndex := 66, attributes := #[] }, { accessFlags := 18, nameIndex := 69, descriptorIndex := 70, attributes := #[] }, { accessFlags := 18, nameIndex := 16, descriptorIndex := 66, attributes := #[] }, { accessFlags := 18, nameIndex := 75, descriptorIndex := 76, attributes := #[] }, { accessFlags := 24, nameIndex := 197, descriptorIndex := 198, attributes := #[] }])
  fields := #[{ name := "name", type := (.object "java/lang/String"), accessFlags := 18, slot := 0, constantValue := 0 }, { name := "attributes", type := (.object "java/util/Map"), accessFlags := 18, slot := 1, constantValue := 0 }, { name := "text", type := (.object "java/lang/String"), accessFlags := 18, slot := 2, constantValue := 0 }, { name := "children", type := (.object "java/util/List"), accessFlags := 18, slot := 3, constantValue := 0 }, { name := "MAX_DEPTH", type := .int, accessFlags := 24, slot := 0, constantValue := 0 }]
  methods := #[k4m0]
  instanceTypes := #[(.object "java/lang/String"), (.object "java/util/Map"), (.object "java/lang/String"), (.object "java/util/List")]
  staticTypes := #[.int]
  resolved := Array.replicate 271 none
  statics := none }

def pool5 : Array CpInfo := pool [(1, u "java/lang/Cloneable"), (0, .class_ 1), (0, u "java/lang/Object"), (0, .class_ 3)] 3

/-- java/lang/Cloneable -/
def k5 : Class := { plain "java/lang/Cloneable" (some 0) with
  accessFlags := 1537
  interfaces := #[]
  cf := some (fileOf pool5 2 #[] #[] 1537 4 #[] #[])
  fields := #[]
  methods := #[]
  instanceTypes := #[]
  staticTypes := #[]
  resolved := Array.replicate 8 none
  statics := none }

def pool6 : Array CpInfo := pool [(1, u "java/io/Serializable"), (0, .class_ 1), (0, u "java/lang/Object"), (0, .class_ 3)] 3

/-- java/io/Serializable -/
def k6 : Class := { plain "java/io/Serializable" (some 0) with
  accessFlags := 1537
  interfaces := #[]
  cf := some (fileOf pool6 2 #[] #[] 1537 4 #[] #[])
  fields := #[]
  methods := #[]
  instanceTypes := #[]
  staticTypes := #[]
  resolved := Array.replicate 8 none
  statics := none }

/-- the primitive byte -/
def k7 : Class := { plain "byte" none with kind := .primitive 'B', accessFlags := 0x411 }
/-- [B -/
def k8 : Class := { plain "[B" (some 0) with kind := .array 7 .byte, interfaces := #[5, 6], accessFlags := 1041 }

/-- the primitive int -/
def k9 : Class := { plain "int" none with kind := .primitive 'I', accessFlags := 0x411 }
/-- [I -/
def k10 : Class := { plain "[I" (some 0) with kind := .array 9 .int, interfaces := #[5, 6], accessFlags := 1041 }

def heap : Heap := #[]
def classes : Array Class := #[k0, k1, k2, k3, k4, k5, k6, k7, k8, k9, k10]
def interned : List (Array UInt16 × Addr) := []
def slotsUsed : Nat := 0
def theMethod : MethodId := ⟨1, 2⟩
def args0 : Array Value := #[.int 2, .int 5]
def aboutOver (below : List Frame) : State where
  vm := { classes := classes, interned := interned.toArray }
  heap := heap
  slotsUsed := slotsUsed
  threads := #[{ frames := .invoking theMethod args0 :: below }]
def below0 : List Frame := [.native { method := ⟨0, 0⟩, args := #[] }]
def about1 : State := aboutOver below0
def p0 : Program := .bare "" "" ""
def e0 : Env := launch0.env 0 0 0
theorem w_frames : about1.frames = Frame.invoking theMethod args0 :: below0 := rfl
set_option maxRecDepth 65536 in
theorem w_args : argsFit about1.vm theMethod args0 = true := by decide +kernel
set_option maxRecDepth 65536 in
theorem w_heap : heapFits about1 = true := by decide +kernel
set_option maxRecDepth 65536 in
theorem w_runnable : about1.curStatus? = some .runnable := by decide +kernel
set_option maxRecDepth 65536 in
theorem w_alone : about1.alone = true := by decide +kernel
set_option maxRecDepth 65536 in
theorem w_named : about1.methodNamed? x = some theMethod := by decide +kernel
set_option maxRecDepth 65536 in
theorem w_hears : about1.hears theMethod below0 = true := by decide +kernel
set_option maxRecDepth 65536 in
theorem w_ripe : about1.ripe theMethod args0 below0 = true := by decide +kernel
theorem w_running : about1.status = .running := rfl
set_option maxRecDepth 65536 in
theorem w_room : about1.hasRoom e0.platform room_1 = true :=
  launch0.hasRoom_least _ room_1 (by decide +kernel) (by decide +kernel) (by decide +kernel) (by decide +kernel) (by decide +kernel) (by decide +kernel)
theorem allAtoms_all (ts : List Jvm.Cond) (a : Array Jvm.Value) (st : Jvm.State) : (allAtoms ts).before a st = ts.all (fun c => c.before a st) := by
  induction ts with
  | nil => rfl
  | cons c t ih =>
    show (Jvm.Cond.and c (allAtoms t)).before a st = _
    rw [Jvm.Cond.before_and, ih, List.all_cons]
def words1 : List Jvm.Cond := Jvm.Cond.code x code maxLocals ret :: tables_1
/-- a 'code' word, met by the world's own term for the bytes: nothing is compared byte by byte -/
theorem code_word {y : MethodName} {bytes : ByteArray} {mx : Nat} {rt : Option FieldType} {a : Array Value} {s : State} {m : MethodId} {meth : Method} {c : Code} (h1 : s.methodNamed? y = some m) (h2 : s.vm.method? m = some meth) (h3 : meth.code = some c) (h4 : c.code = bytes)
    (h5 : (c.maxLocals == mx && c.exceptionTable.isEmpty && decide (c.maxStack ≤ mostOperands) && decide (meth.sig.returnType = rt) && !meth.locks && decide (parseMethodDescriptor y.desc = some meth.sig)) = true) : (Jvm.Cond.code y bytes mx rt).before a s = true := by
  simp only [Bool.and_eq_true, beq_iff_eq, Bool.not_eq_true', decide_eq_true_eq] at h5
  obtain ⟨⟨⟨⟨⟨g1, g2⟩, g3⟩, g4⟩, g5⟩, g6⟩ := h5
  simp [Cond.before, Cond.holds, Cond.value, h1, h2, h3, h4, g1, g2, g3, g4, g5, g6]
def isCode : Jvm.Cond → Bool
  | .code _ _ _ _ => true
  | _ => false
theorem all_split {L : List Jvm.Cond} {P : Jvm.Cond → Bool} (h1 : L.all (fun c => isCode c || P c) = true) (h2 : ∀ c ∈ L.filter isCode, P c = true) : L.all P = true := by
  refine List.all_eq_true.mpr fun c hc => ?_
  have h := List.all_eq_true.mp h1 c hc
  rcases Bool.eq_false_or_eq_true (isCode c) with hi | hi
  · exact h2 c (List.mem_filter.mpr ⟨hc, hi⟩)
  · simpa [hi] using h
set_option maxRecDepth 65536 in
theorem w_c0 : (Jvm.Cond.code x code maxLocals ret).before args0 about1 = true := code_word (m := ⟨1, 2⟩) (meth := k1m2) (c := k1c2) (by decide +kernel) rfl rfl rfl (by decide +kernel)
set_option maxRecDepth 65536 in
theorem w_c1 : (Jvm.Cond.code ({ cls := "java/lang/Math", name := "min", desc := "(II)I" } : Jvm.MethodName) jdk_29_method_69_code (2 : Nat) (Option.some Jvm.ClassFile.FieldType.int)).before args0 about1 = true := code_word (m := ⟨2, 2⟩) (meth := k2m2) (c := k2c2) (by decide +kernel) rfl rfl rfl (by decide +kernel)
set_option maxRecDepth 65536 in
theorem w_c2 : (Jvm.Cond.code ({ cls := "java/lang/Math", name := "max", desc := "(II)I" } : Jvm.MethodName) jdk_29_method_65_code (2 : Nat) (Option.some Jvm.ClassFile.FieldType.int)).before args0 about1 = true := code_word (m := ⟨2, 1⟩) (meth := k2m1) (c := k2c1) (by decide +kernel) rfl rfl rfl (by decide +kernel)
set_option maxRecDepth 65536 in
theorem w_c3 : (Jvm.Cond.code ({ cls := "com/example/relaystack/relaystack/Element", name := "canHold", desc := "(I)Z" } : Jvm.MethodName) prog_11_method_11_code (1 : Nat) (Option.some Jvm.ClassFile.FieldType.boolean)).before args0 about1 = true := code_word (m := ⟨4, 0⟩) (meth := k4m0) (c := k4c0) (by decide +kernel) rfl rfl rfl (by decide +kernel)
set_option maxRecDepth 65536 in
theorem w_c4 : (Jvm.Cond.code ({ cls := "com/example/relaystack/relaystack/ElementCanHoldPinLaw", name := "refused", desc := "(I)Z" } : Jvm.MethodName) method_2_code (1 : Nat) (Option.some Jvm.ClassFile.FieldType.boolean)).before args0 about1 = true := code_word (m := ⟨1, 1⟩) (meth := k1m1) (c := k1c1) (by decide +kernel) rfl rfl rfl (by decide +kernel)
def codes1 : List Jvm.Cond := [Jvm.Cond.code x code maxLocals ret, Jvm.Cond.code ({ cls := "java/lang/Math", name := "min", desc := "(II)I" } : Jvm.MethodName) jdk_29_method_69_code (2 : Nat) (Option.some Jvm.ClassFile.FieldType.int), Jvm.Cond.code ({ cls := "java/lang/Math", name := "max", desc := "(II)I" } : Jvm.MethodName) jdk_29_method_65_code (2 : Nat) (Option.some Jvm.ClassFile.FieldType.int), Jvm.Cond.code ({ cls := "com/example/relaystack/relaystack/Element", name := "canHold", desc := "(I)Z" } : Jvm.MethodName) prog_11_method_11_code (1 : Nat) (Option.some Jvm.ClassFile.FieldType.boolean), Jvm.Cond.code ({ cls := "com/example/relaystack/relaystack/ElementCanHoldPinLaw", name := "refused", desc := "(I)Z" } : Jvm.MethodName) method_2_code (1 : Nat) (Option.some Jvm.ClassFile.FieldType.boolean)]
set_option maxRecDepth 65536 in
theorem codes_eq : words1.filter isCode = codes1 := rfl
theorem w_codes : ∀ c ∈ words1.filter isCode, c.before args0 about1 = true := by
  rw [codes_eq]
  intro c hc
  simp only [codes1, List.mem_cons, List.not_mem_nil, or_false] at hc
  rcases hc with rfl | rfl | rfl | rfl | rfl
  · exact w_c0
  · exact w_c1
  · exact w_c2
  · exact w_c3
  · exact w_c4
set_option maxRecDepth 65536 in
theorem w_t1 : (words1.take 24).all (fun c => isCode c || c.before args0 about1) = true := by decide +kernel
set_option maxRecDepth 65536 in
theorem w_t2 : (words1.drop 24).all (fun c => isCode c || c.before args0 about1) = true := by decide +kernel
theorem w_tables : (allAtoms (Jvm.Cond.code x code maxLocals ret :: tables_1)).before args0 about1 = true := by
  rw [allAtoms_all]
  show words1.all (fun c => c.before args0 about1) = true
  refine all_split ?_ w_codes
  rw [← List.take_append_drop 24 words1, List.all_append, w_t1, w_t2]
  rfl
set_option maxRecDepth 65536 in
theorem w_case : (Jvm.Cond.and given_1 narrow_1).before args0 about1 = true := by decide +kernel
theorem w_applies : (headSpec (Jvm.Cond.code x code maxLocals ret :: tables_1) room_1).applies x e0.platform about1 = true :=
  (Spec.applies_iff w_frames).mpr ⟨w_running, w_runnable, w_alone, w_named, w_hears, w_ripe, w_room, w_tables⟩
theorem atStart : AtStart classFile x code maxLocals ret World_1 tables_1 room_1 Calls_1 rest_1 Pre_1 launch0 p0 e0 about1 theMethod args0 below0 :=
  ⟨lists_1, trivial, launch0.admits_env _ _ _, launch0.least_env, fairChoices_fair.cas, fairChoices_fair.clock, w_frames, w_args, w_heap, w_applies, trivial, trivial, w_case⟩
end start1
theorem witness_1 : WitnessClaimed_1 := ⟨start1.p0, start1.e0, start1.about1, start1.theMethod, start1.args0, start1.below0, start1.atStart⟩
end Jvm.Pilot.@@N@@
