import JvmDerived
import JvmDerived.Pilot.@@N@@Statement
import JvmDerived.Pilot.@@N@@Code
set_option linter.unusedVariables false
set_option linter.unusedSimpArgs false
namespace Jvm.RoadKit
open Sem ClassFile Op Lib Jvm.Stand Jvm.Free Jvm.LawKit
def GoW (p : Program) (e : Env) (below : List Frame) (s : State) (Q : Option Value → Heap → List Loc → Prop) (k n : Nat) (u : State) : Prop :=
  ∃ s₂ o, Steps p.tables e below u s₂ ∧ s₂.status = .running ∧ Ended s₂ below o ∧ ∃ v L, o = .returned v ∧ Q v s₂.heap L ∧ FrameEnd s o s₂ L k n
def PureQ (r : Value) (h0 : Heap) (n0 : Nat) (v : Option Value) (h : Heap) (L : List Loc) : Prop := v = some r ∧ Fr n0 L ∧ h = h0
def ValQ (r : Value) (n0 : Nat) (v : Option Value) (h : Heap) (L : List Loc) : Prop := v = some r ∧ Fr n0 L
section New
variable {p : Program} {l : Launch} {e : Env} {R : Room} {s : State} {m : MethodId} {args : Array Value} {below : List Frame} {meth : Method} {c : Code} {T : State} {locs : List Loc} {cells slots : Nat} {Q : Option Value → Heap → List Loc → Prop} {k n : Nat} {u v : State}
theorem GoW.mk (h : GoW p e below s Q k n u) : ∃ s₂ o, Steps p.tables e below u s₂ ∧ s₂.status = .running ∧ Ended s₂ below o ∧ ∃ v L, o = .returned v ∧ Q v s₂.heap L ∧ FrameEnd s o s₂ L k n := h
theorem GoW.st (h : ∀ t, Steps p.tables e below u t → Steps p.tables e below v t) (q : GoW p e below s Q k n u) : GoW p e below s Q k n v := by
  obtain ⟨s₂, o, h1, h2⟩ := q; exact ⟨s₂, o, h _ h1, h2⟩
theorem GoW.sg {T' : State} (g' : JFrame) (h : ∀ t, Steps p.tables e below (T'.setTop g') t → Steps p.tables e below v t) (q : GoW p e below s Q k n (T'.setTop g')) : GoW p e below s Q k n v := GoW.st h q
theorem retI (X : Stand p l e R s m args below meth c T locs cells slots) (hx : p.tables.exec = Jvm.exec) {pc : Nat} {Ls : Array Slot} {z : Int32} {rest : List Value} (hret : meth.sig.returnType = some .int) (hd : decode c.code pc = .ok (.ireturn, 1)) {fs : List Frame}
    (hl : ∀ (f : JFrame) (acts : List Action), f.method = m → f.locked = none → f.entered = [] → (doReturn e (T.setTop f) acts (some (.int z))).1 = T.setFrames fs) : Steps p.tables e below (T.setTop (mkF m pc Ls (.int z :: rest))) (T.setFrames fs) := by
  have hm' : T.vm.method? m = some meth := X.method'
  have hn : narrow .int (.int z) = .int z := rfl
  show Steps p.tables e below (T.setTop { method := m, pc := pc, locals := Ls, stack := _ :: rest, locked := none }) _
  jvm_step X.here [X.here.top, hx, hd, hm', hret, hn]
  first | (intro acts; rw [hl _ acts rfl rfl rfl]) | rw [hl _ _ rfl rfl rfl]
  exact Steps.refl _
theorem GoW.retN (X : Stand p l e R s m args below meth c T locs cells slots) (hx : p.tables.exec = Jvm.exec) {pc : Nat} {Ls : Array Slot} {z : Int32} {t : FieldType} {rest : List Value} (hret : meth.sig.returnType = some t) (ht : t = .boolean ∨ t = .byte ∨ t = .char ∨ t = .short)
    (hd : decode c.code pc = .ok (.ireturn, 1)) (hlk : meth.locks = false) (hq : Q (some (.int (nar t z))) T.heap locs) (hk : cells ≤ k) (hn : slots ≤ n) : GoW p e below s Q k n (T.setTop (mkF m pc Ls (.int z :: rest))) := by
  obtain ⟨fs, hr, hrun, hended, hW, hsame⟩ := X.leave (v := some (.int (nar t z))) (fun h => by rw [hret] at h; cases h) hlk
  exact ⟨_, _, Jvm.RoadKit.retN X hx hret ht hd hr, hrun, hended, _, _, rfl, hq, ⟨_, rfl⟩, hW, hsame.mono hk hn⟩
theorem GoW.retI (X : Stand p l e R s m args below meth c T locs cells slots) (hx : p.tables.exec = Jvm.exec) {pc : Nat} {Ls : Array Slot} {z : Int32} {rest : List Value} (hret : meth.sig.returnType = some .int)
    (hd : decode c.code pc = .ok (.ireturn, 1)) (hlk : meth.locks = false) (hq : Q (some (.int z)) T.heap locs) (hk : cells ≤ k) (hn : slots ≤ n) : GoW p e below s Q k n (T.setTop (mkF m pc Ls (.int z :: rest))) := by
  obtain ⟨fs, hr, hrun, hended, hW, hsame⟩ := X.leave (v := some (.int z)) (fun h => by rw [hret] at h; cases h) hlk
  exact ⟨_, _, Jvm.RoadKit.retI X hx hret hd hr, hrun, hended, _, _, rfl, hq, ⟨_, rfl⟩, hW, hsame.mono hk hn⟩
theorem GoW.retL (X : Stand p l e R s m args below meth c T locs cells slots) (hx : p.tables.exec = Jvm.exec) {pc : Nat} {Ls : Array Slot} {z : Int64} {rest : List Value} (hret : meth.sig.returnType = some .long)
    (hd : decode c.code pc = .ok (.lreturn, 1)) (hlk : meth.locks = false) (hq : Q (some (.long z)) T.heap locs) (hk : cells ≤ k) (hn : slots ≤ n) : GoW p e below s Q k n (T.setTop (mkF m pc Ls (.long z :: rest))) := by
  obtain ⟨fs, hr, hrun, hended, hW, hsame⟩ := X.leave (v := some (.long z)) (fun h => by rw [hret] at h; cases h) hlk
  exact ⟨_, _, retOut X hx hret rfl (Or.inr (Or.inl ⟨rfl, rfl, z, rfl⟩)) hd hr, hrun, hended, _, _, rfl, hq, ⟨_, rfl⟩, hW, hsame.mono hk hn⟩
theorem GoW.retA (X : Stand p l e R s m args below meth c T locs cells slots) (hx : p.tables.exec = Jvm.exec) {pc : Nat} {Ls : Array Slot} {w : Value} {t : FieldType} {rest : List Value} (hret : meth.sig.returnType = some t) (hw : w.isRef = true) (ht : t.isReference = true)
    (hn' : narrow t w = w) (hd : decode c.code pc = .ok (.areturn, 1)) (hlk : meth.locks = false) (hq : Q (some w) T.heap locs) (hk : cells ≤ k) (hn : slots ≤ n) : GoW p e below s Q k n (T.setTop (mkF m pc Ls (w :: rest))) := by
  obtain ⟨fs, hr, hrun, hended, hW, hsame⟩ := X.leave (v := some w) (fun h => by rw [hret] at h; cases h) hlk
  exact ⟨_, _, retOut X hx hret hn' (Or.inr (Or.inr (Or.inr (Or.inr ⟨rfl, ht, hw⟩)))) hd hr, hrun, hended, _, _, rfl, hq, ⟨_, rfl⟩, hW, hsame.mono hk hn⟩
theorem GoW.retV (X : Stand p l e R s m args below meth c T locs cells slots) (hx : p.tables.exec = Jvm.exec) {pc : Nat} {Ls : Array Slot} (hret : meth.sig.returnType = none)
    (hd : decode c.code pc = .ok (.return_, 1)) (hlk : meth.locks = false) (hq : Q none T.heap locs) (hk : cells ≤ k) (hn : slots ≤ n) : GoW p e below s Q k n (T.setTop (mkF m pc Ls [])) := by
  obtain ⟨fs, hr, hrun, hended, hW, hsame⟩ := X.leave (v := none) (fun _ => rfl) hlk
  exact ⟨_, _, X.returnOut hx hret hd hr, hrun, hended, _, _, rfl, hq, ⟨_, rfl⟩, hW, hsame.mono hk hn⟩
theorem hq_ {T : State} {h : Heap} {a : Addr} {c : Cell} (e : T.heap = h) (q : h[a]? = some c) : T.heap[a]? = some c := by rw [e]; exact q
theorem own_eqI {args : Array Value} {first s : State} {o : Option Outcome} {idx : List Nat} {t : Term} {i : Int32} (h : (Jvm.Cond.eq t (.int i)).value args first o s idx = some true) : t.eval args first o idx s = some (.int i) := by
  obtain ⟨x, y, hx, hy, k1, k2⟩ := cmp_v (Or.inl h)
  rw [Term.int_eval] at hy
  cases hy
  obtain ⟨z, rfl⟩ := k2
  have q := gotT (Cond.eq_ints hx (Term.int_eval i)) h
  rw [hx, q]
theorem own_ne {args : Array Value} {first s : State} {o : Option Outcome} {idx : List Nat} {t u : Term} {C n d : String} {i j : Int32} {a b : Addr} (h1 : (Jvm.Cond.eq (.field t C n d) (.int i)).value args first o s idx = some true) (h2 : (Jvm.Cond.eq (.field u C n d) (.int j)).value args first o s idx = some true)
    (ha : t.eval args first o idx s = some (.ref a)) (hb : u.eval args first o idx s = some (.ref b)) (hij : i ≠ j) : a ≠ b := fun e => by
  subst e
  have q1 := own_eqI h1
  have q2 := own_eqI h2
  rw [fld_at ha] at q1
  rw [fld_at hb, q1] at q2
  exact hij (by cases q2; rfl)
theorem own_staK0 {Z : State} {h h' : Heap} {C n d : String} {v : Value} (F : Sta Z h C n d v) (K : Keep h h' []) : Sta Z h' C n d v := by
  obtain ⟨cf, i, k, f, st, cell, h1, h2, h3, h4, h5, r⟩ := F; exact ⟨cf, i, k, f, st, cell, h1, h2, h3, h4, K.2.1 _ _ h5 nin0, r⟩
theorem own_staK1 {Z : State} {h h' : Heap} {C n d K0 : String} {v : Value} {a : Addr} (F : Sta Z h C n d v) (K : Keep h h' [a]) (E : Exa Z h a K0) : Sta Z h' C n d v := by
  obtain ⟨cf, i, k, f, st, cell, h1, h2, h3, h4, h5, h6, r⟩ := F
  refine ⟨cf, i, k, f, st, cell, h1, h2, h3, h4, K.2.1 _ _ h5 (ninS (fun q => ?_) nin0), h6, r⟩
  subst q
  obtain ⟨cell2, k2, g1, -, -, g2, -⟩ := E
  cases h5.symm.trans g1
  rw [h6] at g2; cases g2
theorem GoW.retD (X : Stand p l e R s m args below meth c T locs cells slots) (hx : p.tables.exec = Jvm.exec) {pc : Nat} {Ls : Array Slot} {z : UInt64} {rest : List Value} (hret : meth.sig.returnType = some .double)
    (hd : decode c.code pc = .ok (.dreturn, 1)) (hlk : meth.locks = false) (hq : Q (some (.double z)) T.heap locs) (hk : cells ≤ k) (hn : slots ≤ n) : GoW p e below s Q k n (T.setTop (mkF m pc Ls (.double z :: rest))) := by
  obtain ⟨fs, hr, hrun, hended, hW, hsame⟩ := X.leave (v := some (.double z)) (fun h => by rw [hret] at h; cases h) hlk
  exact ⟨_, _, retOut X hx hret rfl (Or.inr (Or.inr (Or.inl ⟨rfl, rfl, z, rfl⟩))) hd hr, hrun, hended, _, _, rfl, hq, ⟨_, rfl⟩, hW, hsame.mono hk hn⟩
theorem own_pop2L {tb : Tables} [Ours tb] {e : Env} {below : List Frame} {T target : State} {m : MethodId} {c : Code} {g : JFrame} (h : At T m c below) (hx : tb.exec = Jvm.exec) (hg : g.method = m) {x : Int64} {rest : List Value} (hd : decode c.code g.pc = .ok (.pop2, 1)) (hs : g.stack = .long x :: rest)
    (hr : Steps tb e below (T.setTop { g with pc := g.pc + 1, stack := rest }) target) : Steps tb e below (T.setTop g) target := by
  subst hg
  jvm_step h [h.top, hx, hd, hs, Value.category]
  exact hr
end New
end Jvm.RoadKit
namespace Jvm.Pilot.@@N@@
open Jvm Jvm.ClassFile Sem Op Lib Jvm.Free Jvm.Stand Jvm.LawKit Jvm.RoadKit Bundle Jvm.Pilot.@@N@@.Jvm.D
theorem ww {Z : State} {a0 : Array Value} (hw : ∀ d ∈ tables_1, d.before a0 Z = true) (i : Nat) {d : Jvm.Cond} (h : tables_1[i]? = some d) : d.before a0 Z = true := hw _ (List.mem_of_getElem? h)
theorem pn_com_example_lianzhuang_lianzhuang_tile_Suit : plainName "com/example/lianzhuang/lianzhuang/tile/Suit" = true := by first | (simp [plainName, overriddenIn]; done) | decide +kernel
theorem d2_0 : decode prog_42_method_1_code 0 = .ok (.getstatic 16, 3) := by decide +kernel
theorem d2_3 : decode prog_42_method_1_code 3 = .ok (.invokevirtual 20, 3) := by decide +kernel
theorem d2_6 : decode prog_42_method_1_code 6 = .ok (.checkcast 21, 3) := by decide +kernel
theorem d2_9 : decode prog_42_method_1_code 9 = .ok (.areturn, 1) := by decide +kernel
abbrev Sh0 (p0 : Int32) : Array Slot := #[.val (.int p0), .unset, .unset, .unset, .unset]
theorem pd_28295bLcom2fexample2flianzhuang2flianzhuang2ftile2fSuit3b : parseMethodDescriptor "()[Lcom/example/lianzhuang/lianzhuang/tile/Suit;" = some ⟨[], some (.array (.object "com/example/lianzhuang/lianzhuang/tile/Suit"))⟩ := by decide +kernel
theorem d1_0 : decode prog_42_method_7_code 0 = .ok (.invokestatic 43, 3) := by decide +kernel
theorem d1_3 : decode prog_42_method_7_code 3 = .ok (.astore_n 1, 1) := by decide +kernel
abbrev Sh1 (p0 : Int32) (p1 : Addr) : Array Slot := #[.val (.int p0), .val (.ref p1), .unset, .unset, .unset]
theorem d1_4 : decode prog_42_method_7_code 4 = .ok (.aload_n 1, 1) := by decide +kernel
theorem d1_5 : decode prog_42_method_7_code 5 = .ok (.arraylength, 1) := by decide +kernel
theorem d1_6 : decode prog_42_method_7_code 6 = .ok (.istore_n 2, 1) := by decide +kernel
abbrev Sh2 (p0 : Int32) (p1 : Addr) (p2 : Int32) : Array Slot := #[.val (.int p0), .val (.ref p1), .val (.int p2), .unset, .unset]
theorem d1_7 : decode prog_42_method_7_code 7 = .ok (.iconst 0, 1) := by decide +kernel
theorem d1_8 : decode prog_42_method_7_code 8 = .ok (.istore_n 3, 1) := by decide +kernel
abbrev Sh3 (p0 : Int32) (p1 : Addr) (p2 : Int32) (p3 : Int32) : Array Slot := #[.val (.int p0), .val (.ref p1), .val (.int p2), .val (.int p3), .unset]
theorem d1_9 : decode prog_42_method_7_code 9 = .ok (.iload_n 3, 1) := by decide +kernel
theorem d1_10 : decode prog_42_method_7_code 10 = .ok (.iload_n 2, 1) := by decide +kernel
theorem d1_11 : decode prog_42_method_7_code 11 = .ok (.if_icmp .ge 26, 3) := by decide +kernel
theorem d1_14 : decode prog_42_method_7_code 14 = .ok (.aload_n 1, 1) := by decide +kernel
theorem d1_15 : decode prog_42_method_7_code 15 = .ok (.iload_n 3, 1) := by decide +kernel
theorem d1_16 : decode prog_42_method_7_code 16 = .ok (.aaload, 1) := by decide +kernel
theorem d1_17 : decode prog_42_method_7_code 17 = .ok (.astore 4, 2) := by decide +kernel
abbrev Sh4 (p0 : Int32) (p1 : Addr) (p2 : Int32) (p3 : Int32) (p4 : Addr) : Array Slot := #[.val (.int p0), .val (.ref p1), .val (.int p2), .val (.int p3), .val (.ref p4)]
theorem d1_19 : decode prog_42_method_7_code 19 = .ok (.aload 4, 2) := by decide +kernel
theorem d1_21 : decode prog_42_method_7_code 21 = .ok (.getfield 35, 3) := by decide +kernel
theorem d1_24 : decode prog_42_method_7_code 24 = .ok (.iload_n 0, 1) := by decide +kernel
theorem d1_25 : decode prog_42_method_7_code 25 = .ok (.if_icmp .ne 6, 3) := by decide +kernel
theorem d1_28 : decode prog_42_method_7_code 28 = .ok (.aload 4, 2) := by decide +kernel
theorem d1_30 : decode prog_42_method_7_code 30 = .ok (.areturn, 1) := by decide +kernel
theorem d1_31 : decode prog_42_method_7_code 31 = .ok (.iinc 3 1, 3) := by decide +kernel
theorem d1_34 : decode prog_42_method_7_code 34 = .ok (.goto (-25), 3) := by decide +kernel
theorem d1_37 : decode prog_42_method_7_code 37 = .ok (.aconst_null, 1) := by decide +kernel
theorem d1_38 : decode prog_42_method_7_code 38 = .ok (.areturn, 1) := by decide +kernel
theorem pn_com_example_lianzhuang_lianzhuang_tile_SuitWithLetterPinLaw : plainName "com/example/lianzhuang/lianzhuang/tile/SuitWithLetterPinLaw" = true := by first | (simp [plainName, overriddenIn]; done) | decide +kernel
theorem d3_0 : decode method_2_code 0 = .ok (.iload_n 0, 1) := by decide +kernel
theorem d3_1 : decode method_2_code 1 = .ok (.bipush 109, 2) := by decide +kernel
theorem d3_3 : decode method_2_code 3 = .ok (.if_icmp .ne 7, 3) := by decide +kernel
theorem d3_6 : decode method_2_code 6 = .ok (.getstatic 7, 3) := by decide +kernel
theorem d3_9 : decode method_2_code 9 = .ok (.areturn, 1) := by decide +kernel
theorem d3_10 : decode method_2_code 10 = .ok (.iload_n 0, 1) := by decide +kernel
theorem d3_11 : decode method_2_code 11 = .ok (.bipush 112, 2) := by decide +kernel
theorem d3_13 : decode method_2_code 13 = .ok (.if_icmp .ne 7, 3) := by decide +kernel
theorem d3_16 : decode method_2_code 16 = .ok (.getstatic 13, 3) := by decide +kernel
theorem d3_19 : decode method_2_code 19 = .ok (.areturn, 1) := by decide +kernel
theorem d3_20 : decode method_2_code 20 = .ok (.iload_n 0, 1) := by decide +kernel
theorem d3_21 : decode method_2_code 21 = .ok (.bipush 115, 2) := by decide +kernel
theorem d3_23 : decode method_2_code 23 = .ok (.if_icmp .ne 7, 3) := by decide +kernel
theorem d3_26 : decode method_2_code 26 = .ok (.getstatic 16, 3) := by decide +kernel
theorem d3_29 : decode method_2_code 29 = .ok (.areturn, 1) := by decide +kernel
theorem d3_30 : decode method_2_code 30 = .ok (.iload_n 0, 1) := by decide +kernel
theorem d3_31 : decode method_2_code 31 = .ok (.bipush 122, 2) := by decide +kernel
theorem d3_33 : decode method_2_code 33 = .ok (.if_icmp .ne 7, 3) := by decide +kernel
theorem d3_36 : decode method_2_code 36 = .ok (.getstatic 19, 3) := by decide +kernel
theorem d3_39 : decode method_2_code 39 = .ok (.areturn, 1) := by decide +kernel
theorem d3_40 : decode method_2_code 40 = .ok (.aconst_null, 1) := by decide +kernel
theorem d3_41 : decode method_2_code 41 = .ok (.areturn, 1) := by decide +kernel
theorem d4_0 : decode method_3_code 0 = .ok (.iload_n 0, 1) := by decide +kernel
theorem d4_1 : decode method_3_code 1 = .ok (.ifCond .ne 7, 3) := by decide +kernel
theorem d4_4 : decode method_3_code 4 = .ok (.getstatic 7, 3) := by decide +kernel
theorem d4_7 : decode method_3_code 7 = .ok (.areturn, 1) := by decide +kernel
theorem d4_8 : decode method_3_code 8 = .ok (.iload_n 0, 1) := by decide +kernel
theorem d4_9 : decode method_3_code 9 = .ok (.iconst 1, 1) := by decide +kernel
theorem d4_10 : decode method_3_code 10 = .ok (.if_icmp .ne 7, 3) := by decide +kernel
theorem d4_13 : decode method_3_code 13 = .ok (.getstatic 13, 3) := by decide +kernel
theorem d4_16 : decode method_3_code 16 = .ok (.areturn, 1) := by decide +kernel
theorem d4_17 : decode method_3_code 17 = .ok (.iload_n 0, 1) := by decide +kernel
theorem d4_18 : decode method_3_code 18 = .ok (.iconst 2, 1) := by decide +kernel
theorem d4_19 : decode method_3_code 19 = .ok (.if_icmp .ne 7, 3) := by decide +kernel
theorem d4_22 : decode method_3_code 22 = .ok (.getstatic 16, 3) := by decide +kernel
theorem d4_25 : decode method_3_code 25 = .ok (.areturn, 1) := by decide +kernel
theorem d4_26 : decode method_3_code 26 = .ok (.getstatic 19, 3) := by decide +kernel
theorem d4_29 : decode method_3_code 29 = .ok (.areturn, 1) := by decide +kernel
theorem d5_0 : decode prog_42_method_4_code 0 = .ok (.aload_n 0, 1) := by decide +kernel
theorem d5_1 : decode prog_42_method_4_code 1 = .ok (.getfield 35, 3) := by decide +kernel
theorem d5_4 : decode prog_42_method_4_code 4 = .ok (.ireturn, 1) := by decide +kernel
abbrev Sh5 (p0 : Int32) (p1 : Int32) : Array Slot := #[.val (.int p0), .val (.int p1), .unset, .unset]
abbrev Sh6 (p0 : Int32) (p1 : Int32) (p2 : Int32) : Array Slot := #[.val (.int p0), .val (.int p1), .val (.int p2), .unset]
theorem pd_28C29Lcom2fexample2flianzhuang2flianzhuang2ftile2fSuit3b : parseMethodDescriptor "(C)Lcom/example/lianzhuang/lianzhuang/tile/Suit;" = some ⟨[.char], some (.object "com/example/lianzhuang/lianzhuang/tile/Suit")⟩ := by decide +kernel
theorem pd_28I29Lcom2fexample2flianzhuang2flianzhuang2ftile2fSuit3b : parseMethodDescriptor "(I)Lcom/example/lianzhuang/lianzhuang/tile/Suit;" = some ⟨[.int], some (.object "com/example/lianzhuang/lianzhuang/tile/Suit")⟩ := by decide +kernel
abbrev Sh7 (p0 : Int32) (p1 : Int32) (p2 : Int32) (p3 : Addr) : Array Slot := #[.val (.int p0), .val (.int p1), .val (.int p2), .val (.ref p3)]
theorem pd_2829C : parseMethodDescriptor "()C" = some ⟨[], some .char⟩ := by decide +kernel
theorem own_and3 (q : Int32) : (q &&& (3 : Int32)) = (0 : Int32) ∨ (q &&& (3 : Int32)) = (1 : Int32) ∨ (q &&& (3 : Int32)) = (2 : Int32) ∨ (q &&& (3 : Int32)) = (3 : Int32) := by
  have h := c_mask q 3 2 (by decide) (by decide)
  have e : (q &&& 3).toInt = 0 ∨ (q &&& 3).toInt = 1 ∨ (q &&& 3).toInt = 2 ∨ (q &&& 3).toInt = 3 := by omega
  rcases e with e | e | e | e
  · exact Or.inl (Int32.toInt_inj.mp e)
  · exact Or.inr (Or.inl (Int32.toInt_inj.mp e))
  · exact Or.inr (Or.inr (Or.inl (Int32.toInt_inj.mp e)))
  · exact Or.inr (Or.inr (Or.inr (Int32.toInt_inj.mp e)))
theorem own_arr4 {s : State} {args : Array Value} {tV tC tD tB tH : Term} {aV aC aD aB aH : Addr} {cl : Cell} {ty : FieldType} (hf : Fit s) (evV : tV.eval args s none [] s = some (.ref aV)) (A : Arr s s.heap aV cl ty) (hl : (Jvm.Cond.eq (.length tV) (.int 4)).value args s none s [] = some true)
    (evC : tC.eval args s none [] s = some (.ref aC)) (evD : tD.eval args s none [] s = some (.ref aD)) (evB : tB.eval args s none [] s = some (.ref aB)) (evH : tH.eval args s none [] s = some (.ref aH))
    (h0 : (Jvm.Cond.eq (.elem tV (.int 0)) tC).value args s none s [] = some true) (h1 : (Jvm.Cond.eq (.elem tV (.int 1)) tD).value args s none s [] = some true) (h2 : (Jvm.Cond.eq (.elem tV (.int 2)) tB).value args s none s [] = some true) (h3 : (Jvm.Cond.eq (.elem tV (.int 3)) tH).value args s none s [] = some true) :
    Arv s s.heap aV cl.cls ty 4 [.ref aC, .ref aD, .ref aB, .ref aH] .null := by
  have ha : s.arrayAt? aV = some cl := A.fin (Vm.Alike.refl _)
  have hl' := own_eqI hl
  have hsz : cl.slots.size < 2 ^ 31 := by
    apply Classical.byContradiction
    intro hs
    simp [Term.eval, evV, ha, hs] at hl'
  rw [len_f evV ha hsz] at hl'
  have he : cl.slots.size.toInt32 = 4 := Value.int.inj (Option.some.inj hl')
  have el : ∀ {i : Int32} {t : Term} {a : Addr}, ¬ i < 0 → t.eval args s none [] s = some (.ref a) → (Jvm.Cond.eq (.elem tV (.int i)) t).value args s none s [] = some true → cl.slots[i.toNatClampNeg]? = some (.ref a) := by
    intro i t a hi ht h
    obtain ⟨x, y, hx, hy, k1, k2⟩ := cmp_v (Or.inl h)
    rw [ht] at hy
    cases hy
    have q := gotT (eq_R hx ht k2.2 rfl) h
    rw [elem_f evV (Term.int_eval i) ha hi] at hx
    rw [hx, q]
  exact Arv.start hf A hsz he (by decide) rfl ⟨el (by decide) evC h0, el (by decide) evD h1, el (by decide) evB h2, el (by decide) evH h3, trivial⟩
def QV (Z : State) (aV : Addr) (kV : ClassId) (aC : Addr) (aD : Addr) (aB : Addr) (aH : Addr) (h0 : Heap) (n0 : Nat) (v : Option Value) (h : Heap) (L : List Loc) : Prop := v = some (.ref h0.size) ∧ Fr n0 L ∧ (Keep h0 h []) ∧ (Arv Z h h0.size kV (.object "com/example/lianzhuang/lianzhuang/tile/Suit") (4 : Int32) [(.ref aC), (.ref aD), (.ref aB), (.ref aH)] .null)
theorem ef2_rmV (m : MethodId)  : entryFrame m #[] 0 = (mkF m 0 #[] []) := by first | (simp [entryFrame, mkF, argsToLocals, Value.category, maxLocals]; done) | rfl
set_option maxRecDepth 65536 in
set_option maxHeartbeats 40000000 in
theorem rmV (l : Launch) (Z : State) (a0 : Array Value) (hw : ∀ d ∈ tables_1, d.before a0 Z = true) (ws : List Jvm.Cond)  (aV : Addr) (kV : ClassId) (aC : Addr) (aD : Addr) (aB : Addr) (aH : Addr) (h0 : Heap) (n0 : Nat) (Z0 : n0 ≤ h0.size) (P0 : Sta Z h0 "com/example/lianzhuang/lianzhuang/tile/Suit" "$VALUES" "[Lcom/example/lianzhuang/lianzhuang/tile/Suit;" (.ref aV)) (P1 : Arv Z h0 aV kV (.object "com/example/lianzhuang/lianzhuang/tile/Suit") (4 : Int32) [(.ref aC), (.ref aD), (.ref aB), (.ref aH)] .null) (P2 : Exa Z h0 aV "[Lcom/example/lianzhuang/lianzhuang/tile/Suit;")    :
    MetFree l (⟨"com/example/lianzhuang/lianzhuang/tile/Suit", "values", "()[Lcom/example/lianzhuang/lianzhuang/tile/Suit;"⟩ : MethodName) (head1 (Jvm.Cond.code (⟨"com/example/lianzhuang/lianzhuang/tile/Suit", "values", "()[Lcom/example/lianzhuang/lianzhuang/tile/Suit;"⟩ : MethodName) prog_42_method_1_code 0 (some (.array (.object "com/example/lianzhuang/lianzhuang/tile/Suit"))) :: ws) ({ frames := 1, cells := 1, slots := 4, locals := 14 } : Room)) (fun a U => a = #[] ∧ Z.Warmed39 U.vm ∧ U.heap = h0) (fun _ _ _ _ _ => True) (fun _ U o U' => ∃ v L, o = .returned v ∧ (QV Z aV kV aC aD aB aH h0 n0) v U'.heap L ∧ FrameEnd U o U' L 1 4) := by
  refine MetFree.of_bodySF (plainFor_of_name pn_com_example_lianzhuang_lianzhuang_tile_Suit) hisR ?_
  intro p e s m args below meth c s₁ Bd hml0 hP hK
  obtain ⟨rfl, hZ, hh⟩ := hP
  have hx := Bd.exec
  have hby := Bd.bytes
  have hml : c.maxLocals = 0 := hml0
  have hown : s.vm.findClass "com/example/lianzhuang/lianzhuang/tile/Suit" = some m.cls := findClass_of_methodNamed Bd.named
  have hnm := (name_of_methodNamed Bd.named Bd.method).1
  have X0 : Stand p l e ({ frames := 1, cells := 1, slots := 4, locals := 14 } : Room) s m #[] below meth c s₁ [] 0 0 := Stand.of_body Bd
  have e0 : s₁.heap = h0 := by rw [← hh, Bd.state]; rfl
  have N0 := Fr.nil n0
  refine GoW.mk ?_
  refine GoW.st (fun t k => castTop (ef2_rmV m ) k) ?_
  show GoW p e below s (QV Z aV kV aC aD aB aH h0 n0) 1 4 (s₁.setTop (mkF m 0 #[] []))
  obtain ⟨T1, X1, e1, st1⟩ := getS (host := "") X0 hx hZ hown (ww hw 7 rfl) Via.refl e0 P0 (g := (mkF m 0 #[] [])) rfl (hb hby d2_0)
  refine GoW.sg (mkF m 3 #[] [(.ref aV)]) (fun t k => st1 t k) ?_
  obtain ⟨T2, h2, X2, e2, E2, A2, B2, st2⟩ := cloneH X1 hx hZ hown (ww hw 9 rfl) (ww hw 10 rfl) (ww hw 14 rfl) (ww hw 12 rfl) (ww hw 13 rfl) (ww hw 15 rfl) e1 (Arv.arh P1) P2 (g := (mkF m 3 #[] [(.ref aV)])) rfl (by rw [hml]; rfl) rfl (hb hby d2_3) (by decide) (W := 0) (cap := 4) (by show 2 * 0 + _ ≤ _; exact Nat.le_of_eq rfl) (by decide) (by decide) (by decide) (by decide)
  have Sta_com_example_lianzhuang_lianzhuang_tile_Suit_VALUES_2 : Sta Z h2 "com/example/lianzhuang/lianzhuang/tile/Suit" "$VALUES" "[Lcom/example/lianzhuang/lianzhuang/tile/Suit;" (.ref aV) := P0.ext E2
  have Arv_aV_2 : Arv Z h2 aV kV (.object "com/example/lianzhuang/lianzhuang/tile/Suit") (4 : Int32) [(.ref aC), (.ref aD), (.ref aB), (.ref aH)] .null := P1.ext E2
  have Exa_aV_2 : Exa Z h2 aV "[Lcom/example/lianzhuang/lianzhuang/tile/Suit;" := P2.ext E2
  have Keep_2 : Keep h0 h2 [] := (Keep.refl h0 []).ext E2
  have Zs_2 : n0 ≤ h2.size := Nat.le_trans Z0 E2.1
  refine GoW.sg (mkF m 6 #[] [(.ref h0.size)]) (fun t k => st2 t k) ?_
  obtain ⟨T3, X3, e3, st3⟩ := castY X2 hx hZ hown (ww hw 21 rfl) e2 (Ins.self B2) (g := (mkF m 6 #[] [(.ref h0.size)])) rfl rfl (hb hby d2_6)
  refine GoW.sg (mkF m 9 #[] [(.ref h0.size)]) (fun t k => st3 t k) ?_
  refine GoW.retA X3 hx Bd.returns rfl rfl rfl (hb hby d2_9) Bd.notSynchronized ?_ (by decide) (by decide)
  rw [e3]
  exact ⟨rfl, N0, Keep_2, A2⟩
def QW109 (Z : State) (aV : Addr) (kV : ClassId) (aC : Addr) (aD : Addr) (aB : Addr) (aH : Addr) (h0 : Heap) (n0 : Nat) (v : Option Value) (h : Heap) (L : List Loc) : Prop := v = some (.ref aC) ∧ Fr n0 L ∧ (Keep h0 h [])
theorem ef1_rmW109 (m : MethodId)  : entryFrame m #[(.int (109 : Int32))] 5 = (mkF m 0 #[.val (.int 109), .unset, .unset, .unset, .unset] []) := by first | (simp [entryFrame, mkF, argsToLocals, Value.category, maxLocals]; done) | rfl
set_option maxRecDepth 65536 in
set_option maxHeartbeats 40000000 in
theorem rmW109 (l : Launch) (Z : State) (a0 : Array Value) (hw : ∀ d ∈ tables_1, d.before a0 Z = true) (ws : List Jvm.Cond)  (aV : Addr) (kV : ClassId) (aC : Addr) (aD : Addr) (aB : Addr) (aH : Addr) (h0 : Heap) (n0 : Nat) (Z0 : n0 ≤ h0.size) (P0 : Sta Z h0 "com/example/lianzhuang/lianzhuang/tile/Suit" "$VALUES" "[Lcom/example/lianzhuang/lianzhuang/tile/Suit;" (.ref aV)) (P1 : Arv Z h0 aV kV (.object "com/example/lianzhuang/lianzhuang/tile/Suit") (4 : Int32) [(.ref aC), (.ref aD), (.ref aB), (.ref aH)] .null) (P2 : Exa Z h0 aV "[Lcom/example/lianzhuang/lianzhuang/tile/Suit;") (P3 : Fld Z h0 aC "com/example/lianzhuang/lianzhuang/tile/Suit" "letter" "C" (.int (109 : Int32))) (P4 : Fld Z h0 aD "com/example/lianzhuang/lianzhuang/tile/Suit" "letter" "C" (.int (112 : Int32))) (P5 : Fld Z h0 aB "com/example/lianzhuang/lianzhuang/tile/Suit" "letter" "C" (.int (115 : Int32))) (P6 : Fld Z h0 aH "com/example/lianzhuang/lianzhuang/tile/Suit" "letter" "C" (.int (122 : Int32)))    :
    MetFree l (⟨"com/example/lianzhuang/lianzhuang/tile/Suit", "withLetter", "(C)Lcom/example/lianzhuang/lianzhuang/tile/Suit;"⟩ : MethodName) (head1 (Jvm.Cond.code (⟨"com/example/lianzhuang/lianzhuang/tile/Suit", "withLetter", "(C)Lcom/example/lianzhuang/lianzhuang/tile/Suit;"⟩ : MethodName) prog_42_method_7_code 5 (some (.object "com/example/lianzhuang/lianzhuang/tile/Suit")) :: ws) ({ frames := 2, cells := 1, slots := 4, locals := 25 } : Room)) (fun a U => a = #[(.int (109 : Int32))] ∧ Z.Warmed39 U.vm ∧ U.heap = h0) (fun _ _ _ _ _ => True) (fun _ U o U' => ∃ v L, o = .returned v ∧ (QW109 Z aV kV aC aD aB aH h0 n0) v U'.heap L ∧ FrameEnd U o U' L 1 4) := by
  refine MetFree.of_bodySF (plainFor_of_name pn_com_example_lianzhuang_lianzhuang_tile_Suit) hisR ?_
  intro p e s m args below meth c s₁ Bd hml0 hP hK
  obtain ⟨rfl, hZ, hh⟩ := hP
  have hx := Bd.exec
  have hby := Bd.bytes
  have hml : c.maxLocals = 5 := hml0
  have hown : s.vm.findClass "com/example/lianzhuang/lianzhuang/tile/Suit" = some m.cls := findClass_of_methodNamed Bd.named
  have hnm := (name_of_methodNamed Bd.named Bd.method).1
  have X0 : Stand p l e ({ frames := 2, cells := 1, slots := 4, locals := 25 } : Room) s m #[(.int (109 : Int32))] below meth c s₁ [] 0 0 := Stand.of_body Bd
  have e0 : s₁.heap = h0 := by rw [← hh, Bd.state]; rfl
  have N0 := Fr.nil n0
  refine GoW.mk ?_
  refine GoW.st (fun t k => castTop (ef1_rmW109 m ) k) ?_
  show GoW p e below s (QW109 Z aV kV aC aD aB aH h0 n0) 1 4 (s₁.setTop (mkF m 0 (Sh0 109) []))
  obtain ⟨_, _, ⟨T4, L4, k4, n4⟩, -, X4, ⟨Lc4, hQ4, l4, y4, z4⟩, st4⟩ := Jvm.LawKit.callS X0 hx (y := (⟨"com/example/lianzhuang/lianzhuang/tile/Suit", "values", "()[Lcom/example/lianzhuang/lianzhuang/tile/Suit;"⟩ : MethodName)) hown (mvT hZ (ww hw 4 rfl)) (mvT hZ (ww hw 5 rfl)) (mvT hZ (ww hw 2 rfl)) (mvT hZ (ww hw 6 rfl)) (by decide) (backOf (W := 0) (rmV l Z a0 hw []  aV kV aC aD aB aH h0 n0 Z0 P0 P1 P2   ) hZ (ww hw 6 rfl) (ww hw 2 rfl) (by decide) (by decide)) (g := (mkF m 0 (Sh0 109) [])) rfl (by rw [hml]; rfl) (argsL := []) (rest := []) (lenOf pd_28295bLcom2fexample2flianzhuang2flianzhuang2ftile2fSuit3b rfl) rfl (by show 2 * 0 + _ ≤ _; exact Nat.le_of_eq rfl) (hb hby d1_0) (fun _ _ => ⟨rfl, e0, (by decide : 0 + 1 ≤ _), (by decide : 0 + 4 ≤ _)⟩)
  dsimp only [Pt.U, Pt.locs, Pt.cells, Pt.slots] at X4 l4 y4 z4 st4 hQ4
  subst l4 y4 z4
  obtain ⟨rfl, N4q, K4, p4_0⟩ := hQ4
  have N4 := Fr.app N0 N4q
  obtain ⟨b4, g4⟩ : ∃ z, z = h0.size := ⟨_, rfl⟩
  rw [← g4] at p4_0 st4
  have g_b4 : n0 ≤ b4 := Nat.le_trans Z0 (Nat.le_of_eq g4.symm)
  have sz_b4 : h0.size ≤ b4 := Nat.le_trans (Keep.refl h0 []).1 (Nat.le_of_eq g4.symm)
  have ne_aV_b4 : aV ≠ b4 := Nat.ne_of_lt (Nat.lt_of_lt_of_eq P1.lt g4.symm)
  have ne_aC_b4 : aC ≠ b4 := Nat.ne_of_lt (Nat.lt_of_lt_of_eq P3.lt g4.symm)
  have ne_aD_b4 : aD ≠ b4 := Nat.ne_of_lt (Nat.lt_of_lt_of_eq P4.lt g4.symm)
  have ne_aB_b4 : aB ≠ b4 := Nat.ne_of_lt (Nat.lt_of_lt_of_eq P5.lt g4.symm)
  have ne_aH_b4 : aH ≠ b4 := Nat.ne_of_lt (Nat.lt_of_lt_of_eq P6.lt g4.symm)
  have Sta_com_example_lianzhuang_lianzhuang_tile_Suit_VALUES_4 : Sta Z T4.heap "com/example/lianzhuang/lianzhuang/tile/Suit" "$VALUES" "[Lcom/example/lianzhuang/lianzhuang/tile/Suit;" (.ref aV) := own_staK0 P0 K4
  have Arv_aV_4 : Arv Z T4.heap aV kV (.object "com/example/lianzhuang/lianzhuang/tile/Suit") (4 : Int32) [(.ref aC), (.ref aD), (.ref aB), (.ref aH)] .null := P1.keep K4 nin0
  have Exa_aV_4 : Exa Z T4.heap aV "[Lcom/example/lianzhuang/lianzhuang/tile/Suit;" := P2.keep K4
  have Fld_aC_letter_4 : Fld Z T4.heap aC "com/example/lianzhuang/lianzhuang/tile/Suit" "letter" "C" (.int (109 : Int32)) := P3.keep K4 nin0
  have Fld_aD_letter_4 : Fld Z T4.heap aD "com/example/lianzhuang/lianzhuang/tile/Suit" "letter" "C" (.int (112 : Int32)) := P4.keep K4 nin0
  have Fld_aB_letter_4 : Fld Z T4.heap aB "com/example/lianzhuang/lianzhuang/tile/Suit" "letter" "C" (.int (115 : Int32)) := P5.keep K4 nin0
  have Fld_aH_letter_4 : Fld Z T4.heap aH "com/example/lianzhuang/lianzhuang/tile/Suit" "letter" "C" (.int (122 : Int32)) := P6.keep K4 nin0
  have Keep_4 : Keep h0 T4.heap [] := (Keep.refl h0 []).trans K4 all0
  have Zs_4 : n0 ≤ T4.heap.size := Nat.le_trans Z0 K4.1
  refine GoW.sg (mkF m 3 (Sh0 109) [(.ref b4)]) (fun t k => st4 t k) ?_
  refine GoW.sg (mkF m 4 (Sh1 109 b4) []) (fun t k => XS.astoreN X4.here hx rfl (hb hby d1_3) rfl rfl (l' := (Sh1 109 b4)) rfl k) ?_
  refine GoW.sg (mkF m 5 (Sh1 109 b4) [(.ref b4)]) (fun t k => XS.aloadN X4.here hx rfl (hb hby d1_4) rfl rfl k) ?_
  obtain ⟨cl5, Ar5, q5, Sz5, Nn5, Hh5, Gg5⟩ := id p4_0
  have st5 := X4.arraylength hx (hq_ rfl Ar5.1) (State.isArrayOf_alike hZ.alike Ar5.2.1) (g := (mkF m 5 (Sh1 109 b4) [(.ref b4)])) rfl rfl (hb hby d1_5)
  rw [len_of Sz5 Nn5] at st5
  refine GoW.sg (mkF m 6 (Sh1 109 b4) [(.int 4)]) (fun t k => st5 t k) ?_
  refine GoW.sg (mkF m 7 (Sh2 109 b4 4) []) (fun t k => XS.istoreN X4.here hx rfl (hb hby d1_6) rfl (l' := (Sh2 109 b4 4)) rfl k) ?_
  refine GoW.sg (mkF m 8 (Sh2 109 b4 4) [(.int 0)]) (fun t k => XS.iconst X4.here hx rfl (hb hby d1_7) k) ?_
  refine GoW.sg (mkF m 9 (Sh3 109 b4 4 0) []) (fun t k => XS.istoreN X4.here hx rfl (hb hby d1_8) rfl (l' := (Sh3 109 b4 4 0)) rfl k) ?_
  refine GoW.sg (mkF m 10 (Sh3 109 b4 4 0) [(.int 0)]) (fun t k => XS.iloadN X4.here hx rfl (hb hby d1_9) rfl k) ?_
  refine GoW.sg (mkF m 11 (Sh3 109 b4 4 0) [(.int 4), (.int 0)]) (fun t k => XS.iloadN X4.here hx rfl (hb hby d1_10) rfl k) ?_
  refine GoW.sg (mkF m 14 (Sh3 109 b4 4 0) []) (fun t k => XS.icmpNo X4.here hx rfl (hb hby d1_11) rfl (by decide) k) ?_
  refine GoW.sg (mkF m 15 (Sh3 109 b4 4 0) [(.ref b4)]) (fun t k => XS.aloadN X4.here hx rfl (hb hby d1_14) rfl rfl k) ?_
  refine GoW.sg (mkF m 16 (Sh3 109 b4 4 0) [(.int 0), (.ref b4)]) (fun t k => XS.iloadN X4.here hx rfl (hb hby d1_15) rfl k) ?_
  obtain ⟨cl6, Ar6, q6, Sz6, Nn6, Hh6, Gg6⟩ := id p4_0
  have hin6 : ¬ ((0 : Int32) < 0 ∨ cl6.slots.size ≤ ((0 : Int32)).toNatClampNeg) := inb_of Sz6 ⟨by decide, by decide⟩
  refine GoW.sg (mkF m 17 (Sh3 109 b4 4 0) [(.ref aC)]) (fun t k => X4.aaload hx (j := (0 : Int32)) (v := (.ref aC)) (hq_ rfl Ar6.1) (State.isArrayOf_alike hZ.alike Ar6.2.1) rfl Ar6.2.2 hin6 (Hh6.at hin6 rfl) (g := (mkF m 16 (Sh3 109 b4 4 0) [(.int 0), (.ref b4)])) rfl rfl (hb hby d1_16) t k) ?_
  refine GoW.sg (mkF m 19 (Sh4 109 b4 4 0 aC) []) (fun t k => XS.astore X4.here hx rfl (hb hby d1_17) rfl rfl (l' := (Sh4 109 b4 4 0 aC)) rfl k) ?_
  refine GoW.sg (mkF m 21 (Sh4 109 b4 4 0 aC) [(.ref aC)]) (fun t k => XS.aload X4.here hx rfl (hb hby d1_19) rfl rfl k) ?_
  obtain ⟨T7, X7, e7, st7⟩ := getF X4 hx hZ hown (host := "") (Or.inl (ww hw 23 rfl)) Via.refl rfl Fld_aC_letter_4 (g := (mkF m 21 (Sh4 109 b4 4 0 aC) [(.ref aC)])) rfl rfl (hb hby d1_21)
  refine GoW.sg (mkF m 24 (Sh4 109 b4 4 0 aC) [(.int 109)]) (fun t k => st7 t k) ?_
  refine GoW.sg (mkF m 25 (Sh4 109 b4 4 0 aC) [(.int 109), (.int 109)]) (fun t k => XS.iloadN X7.here hx rfl (hb hby d1_24) rfl k) ?_
  refine GoW.sg (mkF m 28 (Sh4 109 b4 4 0 aC) []) (fun t k => XS.icmpNo X7.here hx rfl (hb hby d1_25) rfl (by decide) k) ?_
  refine GoW.sg (mkF m 30 (Sh4 109 b4 4 0 aC) [(.ref aC)]) (fun t k => XS.aload X7.here hx rfl (hb hby d1_28) rfl rfl k) ?_
  refine GoW.retA X7 hx Bd.returns rfl rfl rfl (hb hby d1_30) Bd.notSynchronized ?_ (by decide) (by decide)
  rw [e7]
  exact ⟨rfl, N4, Keep_4⟩
def QW112 (Z : State) (aV : Addr) (kV : ClassId) (aC : Addr) (aD : Addr) (aB : Addr) (aH : Addr) (h0 : Heap) (n0 : Nat) (v : Option Value) (h : Heap) (L : List Loc) : Prop := v = some (.ref aD) ∧ Fr n0 L ∧ (Keep h0 h [])
theorem ef1_rmW112 (m : MethodId)  : entryFrame m #[(.int (112 : Int32))] 5 = (mkF m 0 #[.val (.int 112), .unset, .unset, .unset, .unset] []) := by first | (simp [entryFrame, mkF, argsToLocals, Value.category, maxLocals]; done) | rfl
set_option maxRecDepth 65536 in
set_option maxHeartbeats 40000000 in
theorem rmW112 (l : Launch) (Z : State) (a0 : Array Value) (hw : ∀ d ∈ tables_1, d.before a0 Z = true) (ws : List Jvm.Cond)  (aV : Addr) (kV : ClassId) (aC : Addr) (aD : Addr) (aB : Addr) (aH : Addr) (h0 : Heap) (n0 : Nat) (Z0 : n0 ≤ h0.size) (P0 : Sta Z h0 "com/example/lianzhuang/lianzhuang/tile/Suit" "$VALUES" "[Lcom/example/lianzhuang/lianzhuang/tile/Suit;" (.ref aV)) (P1 : Arv Z h0 aV kV (.object "com/example/lianzhuang/lianzhuang/tile/Suit") (4 : Int32) [(.ref aC), (.ref aD), (.ref aB), (.ref aH)] .null) (P2 : Exa Z h0 aV "[Lcom/example/lianzhuang/lianzhuang/tile/Suit;") (P3 : Fld Z h0 aC "com/example/lianzhuang/lianzhuang/tile/Suit" "letter" "C" (.int (109 : Int32))) (P4 : Fld Z h0 aD "com/example/lianzhuang/lianzhuang/tile/Suit" "letter" "C" (.int (112 : Int32))) (P5 : Fld Z h0 aB "com/example/lianzhuang/lianzhuang/tile/Suit" "letter" "C" (.int (115 : Int32))) (P6 : Fld Z h0 aH "com/example/lianzhuang/lianzhuang/tile/Suit" "letter" "C" (.int (122 : Int32)))    :
    MetFree l (⟨"com/example/lianzhuang/lianzhuang/tile/Suit", "withLetter", "(C)Lcom/example/lianzhuang/lianzhuang/tile/Suit;"⟩ : MethodName) (head1 (Jvm.Cond.code (⟨"com/example/lianzhuang/lianzhuang/tile/Suit", "withLetter", "(C)Lcom/example/lianzhuang/lianzhuang/tile/Suit;"⟩ : MethodName) prog_42_method_7_code 5 (some (.object "com/example/lianzhuang/lianzhuang/tile/Suit")) :: ws) ({ frames := 2, cells := 1, slots := 4, locals := 25 } : Room)) (fun a U => a = #[(.int (112 : Int32))] ∧ Z.Warmed39 U.vm ∧ U.heap = h0) (fun _ _ _ _ _ => True) (fun _ U o U' => ∃ v L, o = .returned v ∧ (QW112 Z aV kV aC aD aB aH h0 n0) v U'.heap L ∧ FrameEnd U o U' L 1 4) := by
  refine MetFree.of_bodySF (plainFor_of_name pn_com_example_lianzhuang_lianzhuang_tile_Suit) hisR ?_
  intro p e s m args below meth c s₁ Bd hml0 hP hK
  obtain ⟨rfl, hZ, hh⟩ := hP
  have hx := Bd.exec
  have hby := Bd.bytes
  have hml : c.maxLocals = 5 := hml0
  have hown : s.vm.findClass "com/example/lianzhuang/lianzhuang/tile/Suit" = some m.cls := findClass_of_methodNamed Bd.named
  have hnm := (name_of_methodNamed Bd.named Bd.method).1
  have X0 : Stand p l e ({ frames := 2, cells := 1, slots := 4, locals := 25 } : Room) s m #[(.int (112 : Int32))] below meth c s₁ [] 0 0 := Stand.of_body Bd
  have e0 : s₁.heap = h0 := by rw [← hh, Bd.state]; rfl
  have N0 := Fr.nil n0
  refine GoW.mk ?_
  refine GoW.st (fun t k => castTop (ef1_rmW112 m ) k) ?_
  show GoW p e below s (QW112 Z aV kV aC aD aB aH h0 n0) 1 4 (s₁.setTop (mkF m 0 (Sh0 112) []))
  obtain ⟨_, _, ⟨T8, L8, k8, n8⟩, -, X8, ⟨Lc8, hQ8, l8, y8, z8⟩, st8⟩ := Jvm.LawKit.callS X0 hx (y := (⟨"com/example/lianzhuang/lianzhuang/tile/Suit", "values", "()[Lcom/example/lianzhuang/lianzhuang/tile/Suit;"⟩ : MethodName)) hown (mvT hZ (ww hw 4 rfl)) (mvT hZ (ww hw 5 rfl)) (mvT hZ (ww hw 2 rfl)) (mvT hZ (ww hw 6 rfl)) (by decide) (backOf (W := 0) (rmV l Z a0 hw []  aV kV aC aD aB aH h0 n0 Z0 P0 P1 P2   ) hZ (ww hw 6 rfl) (ww hw 2 rfl) (by decide) (by decide)) (g := (mkF m 0 (Sh0 112) [])) rfl (by rw [hml]; rfl) (argsL := []) (rest := []) (lenOf pd_28295bLcom2fexample2flianzhuang2flianzhuang2ftile2fSuit3b rfl) rfl (by show 2 * 0 + _ ≤ _; exact Nat.le_of_eq rfl) (hb hby d1_0) (fun _ _ => ⟨rfl, e0, (by decide : 0 + 1 ≤ _), (by decide : 0 + 4 ≤ _)⟩)
  dsimp only [Pt.U, Pt.locs, Pt.cells, Pt.slots] at X8 l8 y8 z8 st8 hQ8
  subst l8 y8 z8
  obtain ⟨rfl, N8q, K8, p8_0⟩ := hQ8
  have N8 := Fr.app N0 N8q
  obtain ⟨b8, g8⟩ : ∃ z, z = h0.size := ⟨_, rfl⟩
  rw [← g8] at p8_0 st8
  have g_b8 : n0 ≤ b8 := Nat.le_trans Z0 (Nat.le_of_eq g8.symm)
  have sz_b8 : h0.size ≤ b8 := Nat.le_trans (Keep.refl h0 []).1 (Nat.le_of_eq g8.symm)
  have ne_aV_b8 : aV ≠ b8 := Nat.ne_of_lt (Nat.lt_of_lt_of_eq P1.lt g8.symm)
  have ne_aC_b8 : aC ≠ b8 := Nat.ne_of_lt (Nat.lt_of_lt_of_eq P3.lt g8.symm)
  have ne_aD_b8 : aD ≠ b8 := Nat.ne_of_lt (Nat.lt_of_lt_of_eq P4.lt g8.symm)
  have ne_aB_b8 : aB ≠ b8 := Nat.ne_of_lt (Nat.lt_of_lt_of_eq P5.lt g8.symm)
  have ne_aH_b8 : aH ≠ b8 := Nat.ne_of_lt (Nat.lt_of_lt_of_eq P6.lt g8.symm)
  have Sta_com_example_lianzhuang_lianzhuang_tile_Suit_VALUES_8 : Sta Z T8.heap "com/example/lianzhuang/lianzhuang/tile/Suit" "$VALUES" "[Lcom/example/lianzhuang/lianzhuang/tile/Suit;" (.ref aV) := own_staK0 P0 K8
  have Arv_aV_8 : Arv Z T8.heap aV kV (.object "com/example/lianzhuang/lianzhuang/tile/Suit") (4 : Int32) [(.ref aC), (.ref aD), (.ref aB), (.ref aH)] .null := P1.keep K8 nin0
  have Exa_aV_8 : Exa Z T8.heap aV "[Lcom/example/lianzhuang/lianzhuang/tile/Suit;" := P2.keep K8
  have Fld_aC_letter_8 : Fld Z T8.heap aC "com/example/lianzhuang/lianzhuang/tile/Suit" "letter" "C" (.int (109 : Int32)) := P3.keep K8 nin0
  have Fld_aD_letter_8 : Fld Z T8.heap aD "com/example/lianzhuang/lianzhuang/tile/Suit" "letter" "C" (.int (112 : Int32)) := P4.keep K8 nin0
  have Fld_aB_letter_8 : Fld Z T8.heap aB "com/example/lianzhuang/lianzhuang/tile/Suit" "letter" "C" (.int (115 : Int32)) := P5.keep K8 nin0
  have Fld_aH_letter_8 : Fld Z T8.heap aH "com/example/lianzhuang/lianzhuang/tile/Suit" "letter" "C" (.int (122 : Int32)) := P6.keep K8 nin0
  have Keep_8 : Keep h0 T8.heap [] := (Keep.refl h0 []).trans K8 all0
  have Zs_8 : n0 ≤ T8.heap.size := Nat.le_trans Z0 K8.1
  refine GoW.sg (mkF m 3 (Sh0 112) [(.ref b8)]) (fun t k => st8 t k) ?_
  refine GoW.sg (mkF m 4 (Sh1 112 b8) []) (fun t k => XS.astoreN X8.here hx rfl (hb hby d1_3) rfl rfl (l' := (Sh1 112 b8)) rfl k) ?_
  refine GoW.sg (mkF m 5 (Sh1 112 b8) [(.ref b8)]) (fun t k => XS.aloadN X8.here hx rfl (hb hby d1_4) rfl rfl k) ?_
  obtain ⟨cl9, Ar9, q9, Sz9, Nn9, Hh9, Gg9⟩ := id p8_0
  have st9 := X8.arraylength hx (hq_ rfl Ar9.1) (State.isArrayOf_alike hZ.alike Ar9.2.1) (g := (mkF m 5 (Sh1 112 b8) [(.ref b8)])) rfl rfl (hb hby d1_5)
  rw [len_of Sz9 Nn9] at st9
  refine GoW.sg (mkF m 6 (Sh1 112 b8) [(.int 4)]) (fun t k => st9 t k) ?_
  refine GoW.sg (mkF m 7 (Sh2 112 b8 4) []) (fun t k => XS.istoreN X8.here hx rfl (hb hby d1_6) rfl (l' := (Sh2 112 b8 4)) rfl k) ?_
  refine GoW.sg (mkF m 8 (Sh2 112 b8 4) [(.int 0)]) (fun t k => XS.iconst X8.here hx rfl (hb hby d1_7) k) ?_
  refine GoW.sg (mkF m 9 (Sh3 112 b8 4 0) []) (fun t k => XS.istoreN X8.here hx rfl (hb hby d1_8) rfl (l' := (Sh3 112 b8 4 0)) rfl k) ?_
  refine GoW.sg (mkF m 10 (Sh3 112 b8 4 0) [(.int 0)]) (fun t k => XS.iloadN X8.here hx rfl (hb hby d1_9) rfl k) ?_
  refine GoW.sg (mkF m 11 (Sh3 112 b8 4 0) [(.int 4), (.int 0)]) (fun t k => XS.iloadN X8.here hx rfl (hb hby d1_10) rfl k) ?_
  refine GoW.sg (mkF m 14 (Sh3 112 b8 4 0) []) (fun t k => XS.icmpNo X8.here hx rfl (hb hby d1_11) rfl (by decide) k) ?_
  refine GoW.sg (mkF m 15 (Sh3 112 b8 4 0) [(.ref b8)]) (fun t k => XS.aloadN X8.here hx rfl (hb hby d1_14) rfl rfl k) ?_
  refine GoW.sg (mkF m 16 (Sh3 112 b8 4 0) [(.int 0), (.ref b8)]) (fun t k => XS.iloadN X8.here hx rfl (hb hby d1_15) rfl k) ?_
  obtain ⟨cl10, Ar10, q10, Sz10, Nn10, Hh10, Gg10⟩ := id p8_0
  have hin10 : ¬ ((0 : Int32) < 0 ∨ cl10.slots.size ≤ ((0 : Int32)).toNatClampNeg) := inb_of Sz10 ⟨by decide, by decide⟩
  refine GoW.sg (mkF m 17 (Sh3 112 b8 4 0) [(.ref aC)]) (fun t k => X8.aaload hx (j := (0 : Int32)) (v := (.ref aC)) (hq_ rfl Ar10.1) (State.isArrayOf_alike hZ.alike Ar10.2.1) rfl Ar10.2.2 hin10 (Hh10.at hin10 rfl) (g := (mkF m 16 (Sh3 112 b8 4 0) [(.int 0), (.ref b8)])) rfl rfl (hb hby d1_16) t k) ?_
  refine GoW.sg (mkF m 19 (Sh4 112 b8 4 0 aC) []) (fun t k => XS.astore X8.here hx rfl (hb hby d1_17) rfl rfl (l' := (Sh4 112 b8 4 0 aC)) rfl k) ?_
  refine GoW.sg (mkF m 21 (Sh4 112 b8 4 0 aC) [(.ref aC)]) (fun t k => XS.aload X8.here hx rfl (hb hby d1_19) rfl rfl k) ?_
  obtain ⟨T11, X11, e11, st11⟩ := getF X8 hx hZ hown (host := "") (Or.inl (ww hw 23 rfl)) Via.refl rfl Fld_aC_letter_8 (g := (mkF m 21 (Sh4 112 b8 4 0 aC) [(.ref aC)])) rfl rfl (hb hby d1_21)
  refine GoW.sg (mkF m 24 (Sh4 112 b8 4 0 aC) [(.int 109)]) (fun t k => st11 t k) ?_
  refine GoW.sg (mkF m 25 (Sh4 112 b8 4 0 aC) [(.int 112), (.int 109)]) (fun t k => XS.iloadN X11.here hx rfl (hb hby d1_24) rfl k) ?_
  refine GoW.sg (mkF m 31 (Sh4 112 b8 4 0 aC) []) (fun t k => XS.icmpYes X11.here hx rfl (pc0 := 25) (pc' := 31) rfl (hb hby d1_25) rfl (by decide) (by decide) (by decide) k) ?_
  refine GoW.sg (mkF m 34 (Sh4 112 b8 4 1 aC) []) (fun t k => XS.iinc X11.here hx rfl (hb hby d1_31) rfl (l' := (Sh4 112 b8 4 1 aC)) rfl k) ?_
  refine GoW.sg (mkF m 9 (Sh4 112 b8 4 1 aC) []) (fun t k => XS.goto X11.here hx rfl (pc0 := 34) (pc' := 9) rfl (hb hby d1_34) (by decide) (by decide) k) ?_
  refine GoW.sg (mkF m 10 (Sh4 112 b8 4 1 aC) [(.int 1)]) (fun t k => XS.iloadN X11.here hx rfl (hb hby d1_9) rfl k) ?_
  refine GoW.sg (mkF m 11 (Sh4 112 b8 4 1 aC) [(.int 4), (.int 1)]) (fun t k => XS.iloadN X11.here hx rfl (hb hby d1_10) rfl k) ?_
  refine GoW.sg (mkF m 14 (Sh4 112 b8 4 1 aC) []) (fun t k => XS.icmpNo X11.here hx rfl (hb hby d1_11) rfl (by decide) k) ?_
  refine GoW.sg (mkF m 15 (Sh4 112 b8 4 1 aC) [(.ref b8)]) (fun t k => XS.aloadN X11.here hx rfl (hb hby d1_14) rfl rfl k) ?_
  refine GoW.sg (mkF m 16 (Sh4 112 b8 4 1 aC) [(.int 1), (.ref b8)]) (fun t k => XS.iloadN X11.here hx rfl (hb hby d1_15) rfl k) ?_
  obtain ⟨cl12, Ar12, q12, Sz12, Nn12, Hh12, Gg12⟩ := id p8_0
  have hin12 : ¬ ((1 : Int32) < 0 ∨ cl12.slots.size ≤ ((1 : Int32)).toNatClampNeg) := inb_of Sz12 ⟨by decide, by decide⟩
  refine GoW.sg (mkF m 17 (Sh4 112 b8 4 1 aC) [(.ref aD)]) (fun t k => X11.aaload hx (j := (1 : Int32)) (v := (.ref aD)) (hq_ e11 Ar12.1) (State.isArrayOf_alike hZ.alike Ar12.2.1) rfl Ar12.2.2 hin12 (Hh12.at hin12 rfl) (g := (mkF m 16 (Sh4 112 b8 4 1 aC) [(.int 1), (.ref b8)])) rfl rfl (hb hby d1_16) t k) ?_
  refine GoW.sg (mkF m 19 (Sh4 112 b8 4 1 aD) []) (fun t k => XS.astore X11.here hx rfl (hb hby d1_17) rfl rfl (l' := (Sh4 112 b8 4 1 aD)) rfl k) ?_
  refine GoW.sg (mkF m 21 (Sh4 112 b8 4 1 aD) [(.ref aD)]) (fun t k => XS.aload X11.here hx rfl (hb hby d1_19) rfl rfl k) ?_
  obtain ⟨T13, X13, e13, st13⟩ := getF X11 hx hZ hown (host := "") (Or.inl (ww hw 23 rfl)) Via.refl e11 Fld_aD_letter_8 (g := (mkF m 21 (Sh4 112 b8 4 1 aD) [(.ref aD)])) rfl rfl (hb hby d1_21)
  refine GoW.sg (mkF m 24 (Sh4 112 b8 4 1 aD) [(.int 112)]) (fun t k => st13 t k) ?_
  refine GoW.sg (mkF m 25 (Sh4 112 b8 4 1 aD) [(.int 112), (.int 112)]) (fun t k => XS.iloadN X13.here hx rfl (hb hby d1_24) rfl k) ?_
  refine GoW.sg (mkF m 28 (Sh4 112 b8 4 1 aD) []) (fun t k => XS.icmpNo X13.here hx rfl (hb hby d1_25) rfl (by decide) k) ?_
  refine GoW.sg (mkF m 30 (Sh4 112 b8 4 1 aD) [(.ref aD)]) (fun t k => XS.aload X13.here hx rfl (hb hby d1_28) rfl rfl k) ?_
  refine GoW.retA X13 hx Bd.returns rfl rfl rfl (hb hby d1_30) Bd.notSynchronized ?_ (by decide) (by decide)
  rw [e13]
  exact ⟨rfl, N8, Keep_8⟩
def QW115 (Z : State) (aV : Addr) (kV : ClassId) (aC : Addr) (aD : Addr) (aB : Addr) (aH : Addr) (h0 : Heap) (n0 : Nat) (v : Option Value) (h : Heap) (L : List Loc) : Prop := v = some (.ref aB) ∧ Fr n0 L ∧ (Keep h0 h [])
theorem ef1_rmW115 (m : MethodId)  : entryFrame m #[(.int (115 : Int32))] 5 = (mkF m 0 #[.val (.int 115), .unset, .unset, .unset, .unset] []) := by first | (simp [entryFrame, mkF, argsToLocals, Value.category, maxLocals]; done) | rfl
set_option maxRecDepth 65536 in
set_option maxHeartbeats 40000000 in
theorem rmW115 (l : Launch) (Z : State) (a0 : Array Value) (hw : ∀ d ∈ tables_1, d.before a0 Z = true) (ws : List Jvm.Cond)  (aV : Addr) (kV : ClassId) (aC : Addr) (aD : Addr) (aB : Addr) (aH : Addr) (h0 : Heap) (n0 : Nat) (Z0 : n0 ≤ h0.size) (P0 : Sta Z h0 "com/example/lianzhuang/lianzhuang/tile/Suit" "$VALUES" "[Lcom/example/lianzhuang/lianzhuang/tile/Suit;" (.ref aV)) (P1 : Arv Z h0 aV kV (.object "com/example/lianzhuang/lianzhuang/tile/Suit") (4 : Int32) [(.ref aC), (.ref aD), (.ref aB), (.ref aH)] .null) (P2 : Exa Z h0 aV "[Lcom/example/lianzhuang/lianzhuang/tile/Suit;") (P3 : Fld Z h0 aC "com/example/lianzhuang/lianzhuang/tile/Suit" "letter" "C" (.int (109 : Int32))) (P4 : Fld Z h0 aD "com/example/lianzhuang/lianzhuang/tile/Suit" "letter" "C" (.int (112 : Int32))) (P5 : Fld Z h0 aB "com/example/lianzhuang/lianzhuang/tile/Suit" "letter" "C" (.int (115 : Int32))) (P6 : Fld Z h0 aH "com/example/lianzhuang/lianzhuang/tile/Suit" "letter" "C" (.int (122 : Int32)))    :
    MetFree l (⟨"com/example/lianzhuang/lianzhuang/tile/Suit", "withLetter", "(C)Lcom/example/lianzhuang/lianzhuang/tile/Suit;"⟩ : MethodName) (head1 (Jvm.Cond.code (⟨"com/example/lianzhuang/lianzhuang/tile/Suit", "withLetter", "(C)Lcom/example/lianzhuang/lianzhuang/tile/Suit;"⟩ : MethodName) prog_42_method_7_code 5 (some (.object "com/example/lianzhuang/lianzhuang/tile/Suit")) :: ws) ({ frames := 2, cells := 1, slots := 4, locals := 25 } : Room)) (fun a U => a = #[(.int (115 : Int32))] ∧ Z.Warmed39 U.vm ∧ U.heap = h0) (fun _ _ _ _ _ => True) (fun _ U o U' => ∃ v L, o = .returned v ∧ (QW115 Z aV kV aC aD aB aH h0 n0) v U'.heap L ∧ FrameEnd U o U' L 1 4) := by
  refine MetFree.of_bodySF (plainFor_of_name pn_com_example_lianzhuang_lianzhuang_tile_Suit) hisR ?_
  intro p e s m args below meth c s₁ Bd hml0 hP hK
  obtain ⟨rfl, hZ, hh⟩ := hP
  have hx := Bd.exec
  have hby := Bd.bytes
  have hml : c.maxLocals = 5 := hml0
  have hown : s.vm.findClass "com/example/lianzhuang/lianzhuang/tile/Suit" = some m.cls := findClass_of_methodNamed Bd.named
  have hnm := (name_of_methodNamed Bd.named Bd.method).1
  have X0 : Stand p l e ({ frames := 2, cells := 1, slots := 4, locals := 25 } : Room) s m #[(.int (115 : Int32))] below meth c s₁ [] 0 0 := Stand.of_body Bd
  have e0 : s₁.heap = h0 := by rw [← hh, Bd.state]; rfl
  have N0 := Fr.nil n0
  refine GoW.mk ?_
  refine GoW.st (fun t k => castTop (ef1_rmW115 m ) k) ?_
  show GoW p e below s (QW115 Z aV kV aC aD aB aH h0 n0) 1 4 (s₁.setTop (mkF m 0 (Sh0 115) []))
  obtain ⟨_, _, ⟨T14, L14, k14, n14⟩, -, X14, ⟨Lc14, hQ14, l14, y14, z14⟩, st14⟩ := Jvm.LawKit.callS X0 hx (y := (⟨"com/example/lianzhuang/lianzhuang/tile/Suit", "values", "()[Lcom/example/lianzhuang/lianzhuang/tile/Suit;"⟩ : MethodName)) hown (mvT hZ (ww hw 4 rfl)) (mvT hZ (ww hw 5 rfl)) (mvT hZ (ww hw 2 rfl)) (mvT hZ (ww hw 6 rfl)) (by decide) (backOf (W := 0) (rmV l Z a0 hw []  aV kV aC aD aB aH h0 n0 Z0 P0 P1 P2   ) hZ (ww hw 6 rfl) (ww hw 2 rfl) (by decide) (by decide)) (g := (mkF m 0 (Sh0 115) [])) rfl (by rw [hml]; rfl) (argsL := []) (rest := []) (lenOf pd_28295bLcom2fexample2flianzhuang2flianzhuang2ftile2fSuit3b rfl) rfl (by show 2 * 0 + _ ≤ _; exact Nat.le_of_eq rfl) (hb hby d1_0) (fun _ _ => ⟨rfl, e0, (by decide : 0 + 1 ≤ _), (by decide : 0 + 4 ≤ _)⟩)
  dsimp only [Pt.U, Pt.locs, Pt.cells, Pt.slots] at X14 l14 y14 z14 st14 hQ14
  subst l14 y14 z14
  obtain ⟨rfl, N14q, K14, p14_0⟩ := hQ14
  have N14 := Fr.app N0 N14q
  obtain ⟨b14, g14⟩ : ∃ z, z = h0.size := ⟨_, rfl⟩
  rw [← g14] at p14_0 st14
  have g_b14 : n0 ≤ b14 := Nat.le_trans Z0 (Nat.le_of_eq g14.symm)
  have sz_b14 : h0.size ≤ b14 := Nat.le_trans (Keep.refl h0 []).1 (Nat.le_of_eq g14.symm)
  have ne_aV_b14 : aV ≠ b14 := Nat.ne_of_lt (Nat.lt_of_lt_of_eq P1.lt g14.symm)
  have ne_aC_b14 : aC ≠ b14 := Nat.ne_of_lt (Nat.lt_of_lt_of_eq P3.lt g14.symm)
  have ne_aD_b14 : aD ≠ b14 := Nat.ne_of_lt (Nat.lt_of_lt_of_eq P4.lt g14.symm)
  have ne_aB_b14 : aB ≠ b14 := Nat.ne_of_lt (Nat.lt_of_lt_of_eq P5.lt g14.symm)
  have ne_aH_b14 : aH ≠ b14 := Nat.ne_of_lt (Nat.lt_of_lt_of_eq P6.lt g14.symm)
  have Sta_com_example_lianzhuang_lianzhuang_tile_Suit_VALUES_14 : Sta Z T14.heap "com/example/lianzhuang/lianzhuang/tile/Suit" "$VALUES" "[Lcom/example/lianzhuang/lianzhuang/tile/Suit;" (.ref aV) := own_staK0 P0 K14
  have Arv_aV_14 : Arv Z T14.heap aV kV (.object "com/example/lianzhuang/lianzhuang/tile/Suit") (4 : Int32) [(.ref aC), (.ref aD), (.ref aB), (.ref aH)] .null := P1.keep K14 nin0
  have Exa_aV_14 : Exa Z T14.heap aV "[Lcom/example/lianzhuang/lianzhuang/tile/Suit;" := P2.keep K14
  have Fld_aC_letter_14 : Fld Z T14.heap aC "com/example/lianzhuang/lianzhuang/tile/Suit" "letter" "C" (.int (109 : Int32)) := P3.keep K14 nin0
  have Fld_aD_letter_14 : Fld Z T14.heap aD "com/example/lianzhuang/lianzhuang/tile/Suit" "letter" "C" (.int (112 : Int32)) := P4.keep K14 nin0
  have Fld_aB_letter_14 : Fld Z T14.heap aB "com/example/lianzhuang/lianzhuang/tile/Suit" "letter" "C" (.int (115 : Int32)) := P5.keep K14 nin0
  have Fld_aH_letter_14 : Fld Z T14.heap aH "com/example/lianzhuang/lianzhuang/tile/Suit" "letter" "C" (.int (122 : Int32)) := P6.keep K14 nin0
  have Keep_14 : Keep h0 T14.heap [] := (Keep.refl h0 []).trans K14 all0
  have Zs_14 : n0 ≤ T14.heap.size := Nat.le_trans Z0 K14.1
  refine GoW.sg (mkF m 3 (Sh0 115) [(.ref b14)]) (fun t k => st14 t k) ?_
  refine GoW.sg (mkF m 4 (Sh1 115 b14) []) (fun t k => XS.astoreN X14.here hx rfl (hb hby d1_3) rfl rfl (l' := (Sh1 115 b14)) rfl k) ?_
  refine GoW.sg (mkF m 5 (Sh1 115 b14) [(.ref b14)]) (fun t k => XS.aloadN X14.here hx rfl (hb hby d1_4) rfl rfl k) ?_
  obtain ⟨cl15, Ar15, q15, Sz15, Nn15, Hh15, Gg15⟩ := id p14_0
  have st15 := X14.arraylength hx (hq_ rfl Ar15.1) (State.isArrayOf_alike hZ.alike Ar15.2.1) (g := (mkF m 5 (Sh1 115 b14) [(.ref b14)])) rfl rfl (hb hby d1_5)
  rw [len_of Sz15 Nn15] at st15
  refine GoW.sg (mkF m 6 (Sh1 115 b14) [(.int 4)]) (fun t k => st15 t k) ?_
  refine GoW.sg (mkF m 7 (Sh2 115 b14 4) []) (fun t k => XS.istoreN X14.here hx rfl (hb hby d1_6) rfl (l' := (Sh2 115 b14 4)) rfl k) ?_
  refine GoW.sg (mkF m 8 (Sh2 115 b14 4) [(.int 0)]) (fun t k => XS.iconst X14.here hx rfl (hb hby d1_7) k) ?_
  refine GoW.sg (mkF m 9 (Sh3 115 b14 4 0) []) (fun t k => XS.istoreN X14.here hx rfl (hb hby d1_8) rfl (l' := (Sh3 115 b14 4 0)) rfl k) ?_
  refine GoW.sg (mkF m 10 (Sh3 115 b14 4 0) [(.int 0)]) (fun t k => XS.iloadN X14.here hx rfl (hb hby d1_9) rfl k) ?_
  refine GoW.sg (mkF m 11 (Sh3 115 b14 4 0) [(.int 4), (.int 0)]) (fun t k => XS.iloadN X14.here hx rfl (hb hby d1_10) rfl k) ?_
  refine GoW.sg (mkF m 14 (Sh3 115 b14 4 0) []) (fun t k => XS.icmpNo X14.here hx rfl (hb hby d1_11) rfl (by decide) k) ?_
  refine GoW.sg (mkF m 15 (Sh3 115 b14 4 0) [(.ref b14)]) (fun t k => XS.aloadN X14.here hx rfl (hb hby d1_14) rfl rfl k) ?_
  refine GoW.sg (mkF m 16 (Sh3 115 b14 4 0) [(.int 0), (.ref b14)]) (fun t k => XS.iloadN X14.here hx rfl (hb hby d1_15) rfl k) ?_
  obtain ⟨cl16, Ar16, q16, Sz16, Nn16, Hh16, Gg16⟩ := id p14_0
  have hin16 : ¬ ((0 : Int32) < 0 ∨ cl16.slots.size ≤ ((0 : Int32)).toNatClampNeg) := inb_of Sz16 ⟨by decide, by decide⟩
  refine GoW.sg (mkF m 17 (Sh3 115 b14 4 0) [(.ref aC)]) (fun t k => X14.aaload hx (j := (0 : Int32)) (v := (.ref aC)) (hq_ rfl Ar16.1) (State.isArrayOf_alike hZ.alike Ar16.2.1) rfl Ar16.2.2 hin16 (Hh16.at hin16 rfl) (g := (mkF m 16 (Sh3 115 b14 4 0) [(.int 0), (.ref b14)])) rfl rfl (hb hby d1_16) t k) ?_
  refine GoW.sg (mkF m 19 (Sh4 115 b14 4 0 aC) []) (fun t k => XS.astore X14.here hx rfl (hb hby d1_17) rfl rfl (l' := (Sh4 115 b14 4 0 aC)) rfl k) ?_
  refine GoW.sg (mkF m 21 (Sh4 115 b14 4 0 aC) [(.ref aC)]) (fun t k => XS.aload X14.here hx rfl (hb hby d1_19) rfl rfl k) ?_
  obtain ⟨T17, X17, e17, st17⟩ := getF X14 hx hZ hown (host := "") (Or.inl (ww hw 23 rfl)) Via.refl rfl Fld_aC_letter_14 (g := (mkF m 21 (Sh4 115 b14 4 0 aC) [(.ref aC)])) rfl rfl (hb hby d1_21)
  refine GoW.sg (mkF m 24 (Sh4 115 b14 4 0 aC) [(.int 109)]) (fun t k => st17 t k) ?_
  refine GoW.sg (mkF m 25 (Sh4 115 b14 4 0 aC) [(.int 115), (.int 109)]) (fun t k => XS.iloadN X17.here hx rfl (hb hby d1_24) rfl k) ?_
  refine GoW.sg (mkF m 31 (Sh4 115 b14 4 0 aC) []) (fun t k => XS.icmpYes X17.here hx rfl (pc0 := 25) (pc' := 31) rfl (hb hby d1_25) rfl (by decide) (by decide) (by decide) k) ?_
  refine GoW.sg (mkF m 34 (Sh4 115 b14 4 1 aC) []) (fun t k => XS.iinc X17.here hx rfl (hb hby d1_31) rfl (l' := (Sh4 115 b14 4 1 aC)) rfl k) ?_
  refine GoW.sg (mkF m 9 (Sh4 115 b14 4 1 aC) []) (fun t k => XS.goto X17.here hx rfl (pc0 := 34) (pc' := 9) rfl (hb hby d1_34) (by decide) (by decide) k) ?_
  refine GoW.sg (mkF m 10 (Sh4 115 b14 4 1 aC) [(.int 1)]) (fun t k => XS.iloadN X17.here hx rfl (hb hby d1_9) rfl k) ?_
  refine GoW.sg (mkF m 11 (Sh4 115 b14 4 1 aC) [(.int 4), (.int 1)]) (fun t k => XS.iloadN X17.here hx rfl (hb hby d1_10) rfl k) ?_
  refine GoW.sg (mkF m 14 (Sh4 115 b14 4 1 aC) []) (fun t k => XS.icmpNo X17.here hx rfl (hb hby d1_11) rfl (by decide) k) ?_
  refine GoW.sg (mkF m 15 (Sh4 115 b14 4 1 aC) [(.ref b14)]) (fun t k => XS.aloadN X17.here hx rfl (hb hby d1_14) rfl rfl k) ?_
  refine GoW.sg (mkF m 16 (Sh4 115 b14 4 1 aC) [(.int 1), (.ref b14)]) (fun t k => XS.iloadN X17.here hx rfl (hb hby d1_15) rfl k) ?_
  obtain ⟨cl18, Ar18, q18, Sz18, Nn18, Hh18, Gg18⟩ := id p14_0
  have hin18 : ¬ ((1 : Int32) < 0 ∨ cl18.slots.size ≤ ((1 : Int32)).toNatClampNeg) := inb_of Sz18 ⟨by decide, by decide⟩
  refine GoW.sg (mkF m 17 (Sh4 115 b14 4 1 aC) [(.ref aD)]) (fun t k => X17.aaload hx (j := (1 : Int32)) (v := (.ref aD)) (hq_ e17 Ar18.1) (State.isArrayOf_alike hZ.alike Ar18.2.1) rfl Ar18.2.2 hin18 (Hh18.at hin18 rfl) (g := (mkF m 16 (Sh4 115 b14 4 1 aC) [(.int 1), (.ref b14)])) rfl rfl (hb hby d1_16) t k) ?_
  refine GoW.sg (mkF m 19 (Sh4 115 b14 4 1 aD) []) (fun t k => XS.astore X17.here hx rfl (hb hby d1_17) rfl rfl (l' := (Sh4 115 b14 4 1 aD)) rfl k) ?_
  refine GoW.sg (mkF m 21 (Sh4 115 b14 4 1 aD) [(.ref aD)]) (fun t k => XS.aload X17.here hx rfl (hb hby d1_19) rfl rfl k) ?_
  obtain ⟨T19, X19, e19, st19⟩ := getF X17 hx hZ hown (host := "") (Or.inl (ww hw 23 rfl)) Via.refl e17 Fld_aD_letter_14 (g := (mkF m 21 (Sh4 115 b14 4 1 aD) [(.ref aD)])) rfl rfl (hb hby d1_21)
  refine GoW.sg (mkF m 24 (Sh4 115 b14 4 1 aD) [(.int 112)]) (fun t k => st19 t k) ?_
  refine GoW.sg (mkF m 25 (Sh4 115 b14 4 1 aD) [(.int 115), (.int 112)]) (fun t k => XS.iloadN X19.here hx rfl (hb hby d1_24) rfl k) ?_
  refine GoW.sg (mkF m 31 (Sh4 115 b14 4 1 aD) []) (fun t k => XS.icmpYes X19.here hx rfl (pc0 := 25) (pc' := 31) rfl (hb hby d1_25) rfl (by decide) (by decide) (by decide) k) ?_
  refine GoW.sg (mkF m 34 (Sh4 115 b14 4 2 aD) []) (fun t k => XS.iinc X19.here hx rfl (hb hby d1_31) rfl (l' := (Sh4 115 b14 4 2 aD)) rfl k) ?_
  refine GoW.sg (mkF m 9 (Sh4 115 b14 4 2 aD) []) (fun t k => XS.goto X19.here hx rfl (pc0 := 34) (pc' := 9) rfl (hb hby d1_34) (by decide) (by decide) k) ?_
  refine GoW.sg (mkF m 10 (Sh4 115 b14 4 2 aD) [(.int 2)]) (fun t k => XS.iloadN X19.here hx rfl (hb hby d1_9) rfl k) ?_
  refine GoW.sg (mkF m 11 (Sh4 115 b14 4 2 aD) [(.int 4), (.int 2)]) (fun t k => XS.iloadN X19.here hx rfl (hb hby d1_10) rfl k) ?_
  refine GoW.sg (mkF m 14 (Sh4 115 b14 4 2 aD) []) (fun t k => XS.icmpNo X19.here hx rfl (hb hby d1_11) rfl (by decide) k) ?_
  refine GoW.sg (mkF m 15 (Sh4 115 b14 4 2 aD) [(.ref b14)]) (fun t k => XS.aloadN X19.here hx rfl (hb hby d1_14) rfl rfl k) ?_
  refine GoW.sg (mkF m 16 (Sh4 115 b14 4 2 aD) [(.int 2), (.ref b14)]) (fun t k => XS.iloadN X19.here hx rfl (hb hby d1_15) rfl k) ?_
  obtain ⟨cl20, Ar20, q20, Sz20, Nn20, Hh20, Gg20⟩ := id p14_0
  have hin20 : ¬ ((2 : Int32) < 0 ∨ cl20.slots.size ≤ ((2 : Int32)).toNatClampNeg) := inb_of Sz20 ⟨by decide, by decide⟩
  refine GoW.sg (mkF m 17 (Sh4 115 b14 4 2 aD) [(.ref aB)]) (fun t k => X19.aaload hx (j := (2 : Int32)) (v := (.ref aB)) (hq_ e19 Ar20.1) (State.isArrayOf_alike hZ.alike Ar20.2.1) rfl Ar20.2.2 hin20 (Hh20.at hin20 rfl) (g := (mkF m 16 (Sh4 115 b14 4 2 aD) [(.int 2), (.ref b14)])) rfl rfl (hb hby d1_16) t k) ?_
  refine GoW.sg (mkF m 19 (Sh4 115 b14 4 2 aB) []) (fun t k => XS.astore X19.here hx rfl (hb hby d1_17) rfl rfl (l' := (Sh4 115 b14 4 2 aB)) rfl k) ?_
  refine GoW.sg (mkF m 21 (Sh4 115 b14 4 2 aB) [(.ref aB)]) (fun t k => XS.aload X19.here hx rfl (hb hby d1_19) rfl rfl k) ?_
  obtain ⟨T21, X21, e21, st21⟩ := getF X19 hx hZ hown (host := "") (Or.inl (ww hw 23 rfl)) Via.refl e19 Fld_aB_letter_14 (g := (mkF m 21 (Sh4 115 b14 4 2 aB) [(.ref aB)])) rfl rfl (hb hby d1_21)
  refine GoW.sg (mkF m 24 (Sh4 115 b14 4 2 aB) [(.int 115)]) (fun t k => st21 t k) ?_
  refine GoW.sg (mkF m 25 (Sh4 115 b14 4 2 aB) [(.int 115), (.int 115)]) (fun t k => XS.iloadN X21.here hx rfl (hb hby d1_24) rfl k) ?_
  refine GoW.sg (mkF m 28 (Sh4 115 b14 4 2 aB) []) (fun t k => XS.icmpNo X21.here hx rfl (hb hby d1_25) rfl (by decide) k) ?_
  refine GoW.sg (mkF m 30 (Sh4 115 b14 4 2 aB) [(.ref aB)]) (fun t k => XS.aload X21.here hx rfl (hb hby d1_28) rfl rfl k) ?_
  refine GoW.retA X21 hx Bd.returns rfl rfl rfl (hb hby d1_30) Bd.notSynchronized ?_ (by decide) (by decide)
  rw [e21]
  exact ⟨rfl, N14, Keep_14⟩
def QW122 (Z : State) (aV : Addr) (kV : ClassId) (aC : Addr) (aD : Addr) (aB : Addr) (aH : Addr) (h0 : Heap) (n0 : Nat) (v : Option Value) (h : Heap) (L : List Loc) : Prop := v = some (.ref aH) ∧ Fr n0 L ∧ (Keep h0 h [])
theorem ef1_rmW122 (m : MethodId)  : entryFrame m #[(.int (122 : Int32))] 5 = (mkF m 0 #[.val (.int 122), .unset, .unset, .unset, .unset] []) := by first | (simp [entryFrame, mkF, argsToLocals, Value.category, maxLocals]; done) | rfl
set_option maxRecDepth 65536 in
set_option maxHeartbeats 40000000 in
theorem rmW122 (l : Launch) (Z : State) (a0 : Array Value) (hw : ∀ d ∈ tables_1, d.before a0 Z = true) (ws : List Jvm.Cond)  (aV : Addr) (kV : ClassId) (aC : Addr) (aD : Addr) (aB : Addr) (aH : Addr) (h0 : Heap) (n0 : Nat) (Z0 : n0 ≤ h0.size) (P0 : Sta Z h0 "com/example/lianzhuang/lianzhuang/tile/Suit" "$VALUES" "[Lcom/example/lianzhuang/lianzhuang/tile/Suit;" (.ref aV)) (P1 : Arv Z h0 aV kV (.object "com/example/lianzhuang/lianzhuang/tile/Suit") (4 : Int32) [(.ref aC), (.ref aD), (.ref aB), (.ref aH)] .null) (P2 : Exa Z h0 aV "[Lcom/example/lianzhuang/lianzhuang/tile/Suit;") (P3 : Fld Z h0 aC "com/example/lianzhuang/lianzhuang/tile/Suit" "letter" "C" (.int (109 : Int32))) (P4 : Fld Z h0 aD "com/example/lianzhuang/lianzhuang/tile/Suit" "letter" "C" (.int (112 : Int32))) (P5 : Fld Z h0 aB "com/example/lianzhuang/lianzhuang/tile/Suit" "letter" "C" (.int (115 : Int32))) (P6 : Fld Z h0 aH "com/example/lianzhuang/lianzhuang/tile/Suit" "letter" "C" (.int (122 : Int32)))    :
    MetFree l (⟨"com/example/lianzhuang/lianzhuang/tile/Suit", "withLetter", "(C)Lcom/example/lianzhuang/lianzhuang/tile/Suit;"⟩ : MethodName) (head1 (Jvm.Cond.code (⟨"com/example/lianzhuang/lianzhuang/tile/Suit", "withLetter", "(C)Lcom/example/lianzhuang/lianzhuang/tile/Suit;"⟩ : MethodName) prog_42_method_7_code 5 (some (.object "com/example/lianzhuang/lianzhuang/tile/Suit")) :: ws) ({ frames := 2, cells := 1, slots := 4, locals := 25 } : Room)) (fun a U => a = #[(.int (122 : Int32))] ∧ Z.Warmed39 U.vm ∧ U.heap = h0) (fun _ _ _ _ _ => True) (fun _ U o U' => ∃ v L, o = .returned v ∧ (QW122 Z aV kV aC aD aB aH h0 n0) v U'.heap L ∧ FrameEnd U o U' L 1 4) := by
  refine MetFree.of_bodySF (plainFor_of_name pn_com_example_lianzhuang_lianzhuang_tile_Suit) hisR ?_
  intro p e s m args below meth c s₁ Bd hml0 hP hK
  obtain ⟨rfl, hZ, hh⟩ := hP
  have hx := Bd.exec
  have hby := Bd.bytes
  have hml : c.maxLocals = 5 := hml0
  have hown : s.vm.findClass "com/example/lianzhuang/lianzhuang/tile/Suit" = some m.cls := findClass_of_methodNamed Bd.named
  have hnm := (name_of_methodNamed Bd.named Bd.method).1
  have X0 : Stand p l e ({ frames := 2, cells := 1, slots := 4, locals := 25 } : Room) s m #[(.int (122 : Int32))] below meth c s₁ [] 0 0 := Stand.of_body Bd
  have e0 : s₁.heap = h0 := by rw [← hh, Bd.state]; rfl
  have N0 := Fr.nil n0
  refine GoW.mk ?_
  refine GoW.st (fun t k => castTop (ef1_rmW122 m ) k) ?_
  show GoW p e below s (QW122 Z aV kV aC aD aB aH h0 n0) 1 4 (s₁.setTop (mkF m 0 (Sh0 122) []))
  obtain ⟨_, _, ⟨T22, L22, k22, n22⟩, -, X22, ⟨Lc22, hQ22, l22, y22, z22⟩, st22⟩ := Jvm.LawKit.callS X0 hx (y := (⟨"com/example/lianzhuang/lianzhuang/tile/Suit", "values", "()[Lcom/example/lianzhuang/lianzhuang/tile/Suit;"⟩ : MethodName)) hown (mvT hZ (ww hw 4 rfl)) (mvT hZ (ww hw 5 rfl)) (mvT hZ (ww hw 2 rfl)) (mvT hZ (ww hw 6 rfl)) (by decide) (backOf (W := 0) (rmV l Z a0 hw []  aV kV aC aD aB aH h0 n0 Z0 P0 P1 P2   ) hZ (ww hw 6 rfl) (ww hw 2 rfl) (by decide) (by decide)) (g := (mkF m 0 (Sh0 122) [])) rfl (by rw [hml]; rfl) (argsL := []) (rest := []) (lenOf pd_28295bLcom2fexample2flianzhuang2flianzhuang2ftile2fSuit3b rfl) rfl (by show 2 * 0 + _ ≤ _; exact Nat.le_of_eq rfl) (hb hby d1_0) (fun _ _ => ⟨rfl, e0, (by decide : 0 + 1 ≤ _), (by decide : 0 + 4 ≤ _)⟩)
  dsimp only [Pt.U, Pt.locs, Pt.cells, Pt.slots] at X22 l22 y22 z22 st22 hQ22
  subst l22 y22 z22
  obtain ⟨rfl, N22q, K22, p22_0⟩ := hQ22
  have N22 := Fr.app N0 N22q
  obtain ⟨b22, g22⟩ : ∃ z, z = h0.size := ⟨_, rfl⟩
  rw [← g22] at p22_0 st22
  have g_b22 : n0 ≤ b22 := Nat.le_trans Z0 (Nat.le_of_eq g22.symm)
  have sz_b22 : h0.size ≤ b22 := Nat.le_trans (Keep.refl h0 []).1 (Nat.le_of_eq g22.symm)
  have ne_aV_b22 : aV ≠ b22 := Nat.ne_of_lt (Nat.lt_of_lt_of_eq P1.lt g22.symm)
  have ne_aC_b22 : aC ≠ b22 := Nat.ne_of_lt (Nat.lt_of_lt_of_eq P3.lt g22.symm)
  have ne_aD_b22 : aD ≠ b22 := Nat.ne_of_lt (Nat.lt_of_lt_of_eq P4.lt g22.symm)
  have ne_aB_b22 : aB ≠ b22 := Nat.ne_of_lt (Nat.lt_of_lt_of_eq P5.lt g22.symm)
  have ne_aH_b22 : aH ≠ b22 := Nat.ne_of_lt (Nat.lt_of_lt_of_eq P6.lt g22.symm)
  have Sta_com_example_lianzhuang_lianzhuang_tile_Suit_VALUES_22 : Sta Z T22.heap "com/example/lianzhuang/lianzhuang/tile/Suit" "$VALUES" "[Lcom/example/lianzhuang/lianzhuang/tile/Suit;" (.ref aV) := own_staK0 P0 K22
  have Arv_aV_22 : Arv Z T22.heap aV kV (.object "com/example/lianzhuang/lianzhuang/tile/Suit") (4 : Int32) [(.ref aC), (.ref aD), (.ref aB), (.ref aH)] .null := P1.keep K22 nin0
  have Exa_aV_22 : Exa Z T22.heap aV "[Lcom/example/lianzhuang/lianzhuang/tile/Suit;" := P2.keep K22
  have Fld_aC_letter_22 : Fld Z T22.heap aC "com/example/lianzhuang/lianzhuang/tile/Suit" "letter" "C" (.int (109 : Int32)) := P3.keep K22 nin0
  have Fld_aD_letter_22 : Fld Z T22.heap aD "com/example/lianzhuang/lianzhuang/tile/Suit" "letter" "C" (.int (112 : Int32)) := P4.keep K22 nin0
  have Fld_aB_letter_22 : Fld Z T22.heap aB "com/example/lianzhuang/lianzhuang/tile/Suit" "letter" "C" (.int (115 : Int32)) := P5.keep K22 nin0
  have Fld_aH_letter_22 : Fld Z T22.heap aH "com/example/lianzhuang/lianzhuang/tile/Suit" "letter" "C" (.int (122 : Int32)) := P6.keep K22 nin0
  have Keep_22 : Keep h0 T22.heap [] := (Keep.refl h0 []).trans K22 all0
  have Zs_22 : n0 ≤ T22.heap.size := Nat.le_trans Z0 K22.1
  refine GoW.sg (mkF m 3 (Sh0 122) [(.ref b22)]) (fun t k => st22 t k) ?_
  refine GoW.sg (mkF m 4 (Sh1 122 b22) []) (fun t k => XS.astoreN X22.here hx rfl (hb hby d1_3) rfl rfl (l' := (Sh1 122 b22)) rfl k) ?_
  refine GoW.sg (mkF m 5 (Sh1 122 b22) [(.ref b22)]) (fun t k => XS.aloadN X22.here hx rfl (hb hby d1_4) rfl rfl k) ?_
  obtain ⟨cl23, Ar23, q23, Sz23, Nn23, Hh23, Gg23⟩ := id p22_0
  have st23 := X22.arraylength hx (hq_ rfl Ar23.1) (State.isArrayOf_alike hZ.alike Ar23.2.1) (g := (mkF m 5 (Sh1 122 b22) [(.ref b22)])) rfl rfl (hb hby d1_5)
  rw [len_of Sz23 Nn23] at st23
  refine GoW.sg (mkF m 6 (Sh1 122 b22) [(.int 4)]) (fun t k => st23 t k) ?_
  refine GoW.sg (mkF m 7 (Sh2 122 b22 4) []) (fun t k => XS.istoreN X22.here hx rfl (hb hby d1_6) rfl (l' := (Sh2 122 b22 4)) rfl k) ?_
  refine GoW.sg (mkF m 8 (Sh2 122 b22 4) [(.int 0)]) (fun t k => XS.iconst X22.here hx rfl (hb hby d1_7) k) ?_
  refine GoW.sg (mkF m 9 (Sh3 122 b22 4 0) []) (fun t k => XS.istoreN X22.here hx rfl (hb hby d1_8) rfl (l' := (Sh3 122 b22 4 0)) rfl k) ?_
  refine GoW.sg (mkF m 10 (Sh3 122 b22 4 0) [(.int 0)]) (fun t k => XS.iloadN X22.here hx rfl (hb hby d1_9) rfl k) ?_
  refine GoW.sg (mkF m 11 (Sh3 122 b22 4 0) [(.int 4), (.int 0)]) (fun t k => XS.iloadN X22.here hx rfl (hb hby d1_10) rfl k) ?_
  refine GoW.sg (mkF m 14 (Sh3 122 b22 4 0) []) (fun t k => XS.icmpNo X22.here hx rfl (hb hby d1_11) rfl (by decide) k) ?_
  refine GoW.sg (mkF m 15 (Sh3 122 b22 4 0) [(.ref b22)]) (fun t k => XS.aloadN X22.here hx rfl (hb hby d1_14) rfl rfl k) ?_
  refine GoW.sg (mkF m 16 (Sh3 122 b22 4 0) [(.int 0), (.ref b22)]) (fun t k => XS.iloadN X22.here hx rfl (hb hby d1_15) rfl k) ?_
  obtain ⟨cl24, Ar24, q24, Sz24, Nn24, Hh24, Gg24⟩ := id p22_0
  have hin24 : ¬ ((0 : Int32) < 0 ∨ cl24.slots.size ≤ ((0 : Int32)).toNatClampNeg) := inb_of Sz24 ⟨by decide, by decide⟩
  refine GoW.sg (mkF m 17 (Sh3 122 b22 4 0) [(.ref aC)]) (fun t k => X22.aaload hx (j := (0 : Int32)) (v := (.ref aC)) (hq_ rfl Ar24.1) (State.isArrayOf_alike hZ.alike Ar24.2.1) rfl Ar24.2.2 hin24 (Hh24.at hin24 rfl) (g := (mkF m 16 (Sh3 122 b22 4 0) [(.int 0), (.ref b22)])) rfl rfl (hb hby d1_16) t k) ?_
  refine GoW.sg (mkF m 19 (Sh4 122 b22 4 0 aC) []) (fun t k => XS.astore X22.here hx rfl (hb hby d1_17) rfl rfl (l' := (Sh4 122 b22 4 0 aC)) rfl k) ?_
  refine GoW.sg (mkF m 21 (Sh4 122 b22 4 0 aC) [(.ref aC)]) (fun t k => XS.aload X22.here hx rfl (hb hby d1_19) rfl rfl k) ?_
  obtain ⟨T25, X25, e25, st25⟩ := getF X22 hx hZ hown (host := "") (Or.inl (ww hw 23 rfl)) Via.refl rfl Fld_aC_letter_22 (g := (mkF m 21 (Sh4 122 b22 4 0 aC) [(.ref aC)])) rfl rfl (hb hby d1_21)
  refine GoW.sg (mkF m 24 (Sh4 122 b22 4 0 aC) [(.int 109)]) (fun t k => st25 t k) ?_
  refine GoW.sg (mkF m 25 (Sh4 122 b22 4 0 aC) [(.int 122), (.int 109)]) (fun t k => XS.iloadN X25.here hx rfl (hb hby d1_24) rfl k) ?_
  refine GoW.sg (mkF m 31 (Sh4 122 b22 4 0 aC) []) (fun t k => XS.icmpYes X25.here hx rfl (pc0 := 25) (pc' := 31) rfl (hb hby d1_25) rfl (by decide) (by decide) (by decide) k) ?_
  refine GoW.sg (mkF m 34 (Sh4 122 b22 4 1 aC) []) (fun t k => XS.iinc X25.here hx rfl (hb hby d1_31) rfl (l' := (Sh4 122 b22 4 1 aC)) rfl k) ?_
  refine GoW.sg (mkF m 9 (Sh4 122 b22 4 1 aC) []) (fun t k => XS.goto X25.here hx rfl (pc0 := 34) (pc' := 9) rfl (hb hby d1_34) (by decide) (by decide) k) ?_
  refine GoW.sg (mkF m 10 (Sh4 122 b22 4 1 aC) [(.int 1)]) (fun t k => XS.iloadN X25.here hx rfl (hb hby d1_9) rfl k) ?_
  refine GoW.sg (mkF m 11 (Sh4 122 b22 4 1 aC) [(.int 4), (.int 1)]) (fun t k => XS.iloadN X25.here hx rfl (hb hby d1_10) rfl k) ?_
  refine GoW.sg (mkF m 14 (Sh4 122 b22 4 1 aC) []) (fun t k => XS.icmpNo X25.here hx rfl (hb hby d1_11) rfl (by decide) k) ?_
  refine GoW.sg (mkF m 15 (Sh4 122 b22 4 1 aC) [(.ref b22)]) (fun t k => XS.aloadN X25.here hx rfl (hb hby d1_14) rfl rfl k) ?_
  refine GoW.sg (mkF m 16 (Sh4 122 b22 4 1 aC) [(.int 1), (.ref b22)]) (fun t k => XS.iloadN X25.here hx rfl (hb hby d1_15) rfl k) ?_
  obtain ⟨cl26, Ar26, q26, Sz26, Nn26, Hh26, Gg26⟩ := id p22_0
  have hin26 : ¬ ((1 : Int32) < 0 ∨ cl26.slots.size ≤ ((1 : Int32)).toNatClampNeg) := inb_of Sz26 ⟨by decide, by decide⟩
  refine GoW.sg (mkF m 17 (Sh4 122 b22 4 1 aC) [(.ref aD)]) (fun t k => X25.aaload hx (j := (1 : Int32)) (v := (.ref aD)) (hq_ e25 Ar26.1) (State.isArrayOf_alike hZ.alike Ar26.2.1) rfl Ar26.2.2 hin26 (Hh26.at hin26 rfl) (g := (mkF m 16 (Sh4 122 b22 4 1 aC) [(.int 1), (.ref b22)])) rfl rfl (hb hby d1_16) t k) ?_
  refine GoW.sg (mkF m 19 (Sh4 122 b22 4 1 aD) []) (fun t k => XS.astore X25.here hx rfl (hb hby d1_17) rfl rfl (l' := (Sh4 122 b22 4 1 aD)) rfl k) ?_
  refine GoW.sg (mkF m 21 (Sh4 122 b22 4 1 aD) [(.ref aD)]) (fun t k => XS.aload X25.here hx rfl (hb hby d1_19) rfl rfl k) ?_
  obtain ⟨T27, X27, e27, st27⟩ := getF X25 hx hZ hown (host := "") (Or.inl (ww hw 23 rfl)) Via.refl e25 Fld_aD_letter_22 (g := (mkF m 21 (Sh4 122 b22 4 1 aD) [(.ref aD)])) rfl rfl (hb hby d1_21)
  refine GoW.sg (mkF m 24 (Sh4 122 b22 4 1 aD) [(.int 112)]) (fun t k => st27 t k) ?_
  refine GoW.sg (mkF m 25 (Sh4 122 b22 4 1 aD) [(.int 122), (.int 112)]) (fun t k => XS.iloadN X27.here hx rfl (hb hby d1_24) rfl k) ?_
  refine GoW.sg (mkF m 31 (Sh4 122 b22 4 1 aD) []) (fun t k => XS.icmpYes X27.here hx rfl (pc0 := 25) (pc' := 31) rfl (hb hby d1_25) rfl (by decide) (by decide) (by decide) k) ?_
  refine GoW.sg (mkF m 34 (Sh4 122 b22 4 2 aD) []) (fun t k => XS.iinc X27.here hx rfl (hb hby d1_31) rfl (l' := (Sh4 122 b22 4 2 aD)) rfl k) ?_
  refine GoW.sg (mkF m 9 (Sh4 122 b22 4 2 aD) []) (fun t k => XS.goto X27.here hx rfl (pc0 := 34) (pc' := 9) rfl (hb hby d1_34) (by decide) (by decide) k) ?_
  refine GoW.sg (mkF m 10 (Sh4 122 b22 4 2 aD) [(.int 2)]) (fun t k => XS.iloadN X27.here hx rfl (hb hby d1_9) rfl k) ?_
  refine GoW.sg (mkF m 11 (Sh4 122 b22 4 2 aD) [(.int 4), (.int 2)]) (fun t k => XS.iloadN X27.here hx rfl (hb hby d1_10) rfl k) ?_
  refine GoW.sg (mkF m 14 (Sh4 122 b22 4 2 aD) []) (fun t k => XS.icmpNo X27.here hx rfl (hb hby d1_11) rfl (by decide) k) ?_
  refine GoW.sg (mkF m 15 (Sh4 122 b22 4 2 aD) [(.ref b22)]) (fun t k => XS.aloadN X27.here hx rfl (hb hby d1_14) rfl rfl k) ?_
  refine GoW.sg (mkF m 16 (Sh4 122 b22 4 2 aD) [(.int 2), (.ref b22)]) (fun t k => XS.iloadN X27.here hx rfl (hb hby d1_15) rfl k) ?_
  obtain ⟨cl28, Ar28, q28, Sz28, Nn28, Hh28, Gg28⟩ := id p22_0
  have hin28 : ¬ ((2 : Int32) < 0 ∨ cl28.slots.size ≤ ((2 : Int32)).toNatClampNeg) := inb_of Sz28 ⟨by decide, by decide⟩
  refine GoW.sg (mkF m 17 (Sh4 122 b22 4 2 aD) [(.ref aB)]) (fun t k => X27.aaload hx (j := (2 : Int32)) (v := (.ref aB)) (hq_ e27 Ar28.1) (State.isArrayOf_alike hZ.alike Ar28.2.1) rfl Ar28.2.2 hin28 (Hh28.at hin28 rfl) (g := (mkF m 16 (Sh4 122 b22 4 2 aD) [(.int 2), (.ref b22)])) rfl rfl (hb hby d1_16) t k) ?_
  refine GoW.sg (mkF m 19 (Sh4 122 b22 4 2 aB) []) (fun t k => XS.astore X27.here hx rfl (hb hby d1_17) rfl rfl (l' := (Sh4 122 b22 4 2 aB)) rfl k) ?_
  refine GoW.sg (mkF m 21 (Sh4 122 b22 4 2 aB) [(.ref aB)]) (fun t k => XS.aload X27.here hx rfl (hb hby d1_19) rfl rfl k) ?_
  obtain ⟨T29, X29, e29, st29⟩ := getF X27 hx hZ hown (host := "") (Or.inl (ww hw 23 rfl)) Via.refl e27 Fld_aB_letter_22 (g := (mkF m 21 (Sh4 122 b22 4 2 aB) [(.ref aB)])) rfl rfl (hb hby d1_21)
  refine GoW.sg (mkF m 24 (Sh4 122 b22 4 2 aB) [(.int 115)]) (fun t k => st29 t k) ?_
  refine GoW.sg (mkF m 25 (Sh4 122 b22 4 2 aB) [(.int 122), (.int 115)]) (fun t k => XS.iloadN X29.here hx rfl (hb hby d1_24) rfl k) ?_
  refine GoW.sg (mkF m 31 (Sh4 122 b22 4 2 aB) []) (fun t k => XS.icmpYes X29.here hx rfl (pc0 := 25) (pc' := 31) rfl (hb hby d1_25) rfl (by decide) (by decide) (by decide) k) ?_
  refine GoW.sg (mkF m 34 (Sh4 122 b22 4 3 aB) []) (fun t k => XS.iinc X29.here hx rfl (hb hby d1_31) rfl (l' := (Sh4 122 b22 4 3 aB)) rfl k) ?_
  refine GoW.sg (mkF m 9 (Sh4 122 b22 4 3 aB) []) (fun t k => XS.goto X29.here hx rfl (pc0 := 34) (pc' := 9) rfl (hb hby d1_34) (by decide) (by decide) k) ?_
  refine GoW.sg (mkF m 10 (Sh4 122 b22 4 3 aB) [(.int 3)]) (fun t k => XS.iloadN X29.here hx rfl (hb hby d1_9) rfl k) ?_
  refine GoW.sg (mkF m 11 (Sh4 122 b22 4 3 aB) [(.int 4), (.int 3)]) (fun t k => XS.iloadN X29.here hx rfl (hb hby d1_10) rfl k) ?_
  refine GoW.sg (mkF m 14 (Sh4 122 b22 4 3 aB) []) (fun t k => XS.icmpNo X29.here hx rfl (hb hby d1_11) rfl (by decide) k) ?_
  refine GoW.sg (mkF m 15 (Sh4 122 b22 4 3 aB) [(.ref b22)]) (fun t k => XS.aloadN X29.here hx rfl (hb hby d1_14) rfl rfl k) ?_
  refine GoW.sg (mkF m 16 (Sh4 122 b22 4 3 aB) [(.int 3), (.ref b22)]) (fun t k => XS.iloadN X29.here hx rfl (hb hby d1_15) rfl k) ?_
  obtain ⟨cl30, Ar30, q30, Sz30, Nn30, Hh30, Gg30⟩ := id p22_0
  have hin30 : ¬ ((3 : Int32) < 0 ∨ cl30.slots.size ≤ ((3 : Int32)).toNatClampNeg) := inb_of Sz30 ⟨by decide, by decide⟩
  refine GoW.sg (mkF m 17 (Sh4 122 b22 4 3 aB) [(.ref aH)]) (fun t k => X29.aaload hx (j := (3 : Int32)) (v := (.ref aH)) (hq_ e29 Ar30.1) (State.isArrayOf_alike hZ.alike Ar30.2.1) rfl Ar30.2.2 hin30 (Hh30.at hin30 rfl) (g := (mkF m 16 (Sh4 122 b22 4 3 aB) [(.int 3), (.ref b22)])) rfl rfl (hb hby d1_16) t k) ?_
  refine GoW.sg (mkF m 19 (Sh4 122 b22 4 3 aH) []) (fun t k => XS.astore X29.here hx rfl (hb hby d1_17) rfl rfl (l' := (Sh4 122 b22 4 3 aH)) rfl k) ?_
  refine GoW.sg (mkF m 21 (Sh4 122 b22 4 3 aH) [(.ref aH)]) (fun t k => XS.aload X29.here hx rfl (hb hby d1_19) rfl rfl k) ?_
  obtain ⟨T31, X31, e31, st31⟩ := getF X29 hx hZ hown (host := "") (Or.inl (ww hw 23 rfl)) Via.refl e29 Fld_aH_letter_22 (g := (mkF m 21 (Sh4 122 b22 4 3 aH) [(.ref aH)])) rfl rfl (hb hby d1_21)
  refine GoW.sg (mkF m 24 (Sh4 122 b22 4 3 aH) [(.int 122)]) (fun t k => st31 t k) ?_
  refine GoW.sg (mkF m 25 (Sh4 122 b22 4 3 aH) [(.int 122), (.int 122)]) (fun t k => XS.iloadN X31.here hx rfl (hb hby d1_24) rfl k) ?_
  refine GoW.sg (mkF m 28 (Sh4 122 b22 4 3 aH) []) (fun t k => XS.icmpNo X31.here hx rfl (hb hby d1_25) rfl (by decide) k) ?_
  refine GoW.sg (mkF m 30 (Sh4 122 b22 4 3 aH) [(.ref aH)]) (fun t k => XS.aload X31.here hx rfl (hb hby d1_28) rfl rfl k) ?_
  refine GoW.retA X31 hx Bd.returns rfl rfl rfl (hb hby d1_30) Bd.notSynchronized ?_ (by decide) (by decide)
  rw [e31]
  exact ⟨rfl, N22, Keep_22⟩
def QWn (Z : State) (q1 : Int32) (aV : Addr) (kV : ClassId) (aC : Addr) (aD : Addr) (aB : Addr) (aH : Addr) (h0 : Heap) (n0 : Nat) (v : Option Value) (h : Heap) (L : List Loc) : Prop := v = some .null ∧ Fr n0 L ∧ (Keep h0 h [])
theorem ef1_rmWn (m : MethodId) (q1 : Int32) : entryFrame m #[(.int q1)] 5 = (mkF m 0 #[.val (.int q1), .unset, .unset, .unset, .unset] []) := by first | (simp [entryFrame, mkF, argsToLocals, Value.category, maxLocals]; done) | rfl
set_option maxRecDepth 65536 in
set_option maxHeartbeats 40000000 in
theorem rmWn (l : Launch) (Z : State) (a0 : Array Value) (hw : ∀ d ∈ tables_1, d.before a0 Z = true) (ws : List Jvm.Cond) (q1 : Int32) (aV : Addr) (kV : ClassId) (aC : Addr) (aD : Addr) (aB : Addr) (aH : Addr) (h0 : Heap) (n0 : Nat) (Z0 : n0 ≤ h0.size) (P0 : Sta Z h0 "com/example/lianzhuang/lianzhuang/tile/Suit" "$VALUES" "[Lcom/example/lianzhuang/lianzhuang/tile/Suit;" (.ref aV)) (P1 : Arv Z h0 aV kV (.object "com/example/lianzhuang/lianzhuang/tile/Suit") (4 : Int32) [(.ref aC), (.ref aD), (.ref aB), (.ref aH)] .null) (P2 : Exa Z h0 aV "[Lcom/example/lianzhuang/lianzhuang/tile/Suit;") (P3 : Fld Z h0 aC "com/example/lianzhuang/lianzhuang/tile/Suit" "letter" "C" (.int (109 : Int32))) (P4 : Fld Z h0 aD "com/example/lianzhuang/lianzhuang/tile/Suit" "letter" "C" (.int (112 : Int32))) (P5 : Fld Z h0 aB "com/example/lianzhuang/lianzhuang/tile/Suit" "letter" "C" (.int (115 : Int32))) (P6 : Fld Z h0 aH "com/example/lianzhuang/lianzhuang/tile/Suit" "letter" "C" (.int (122 : Int32)))   (u109 : ¬ ((109 : Int32) = q1)) (u112 : ¬ ((112 : Int32) = q1)) (u115 : ¬ ((115 : Int32) = q1)) (u122 : ¬ ((122 : Int32) = q1)) :
    MetFree l (⟨"com/example/lianzhuang/lianzhuang/tile/Suit", "withLetter", "(C)Lcom/example/lianzhuang/lianzhuang/tile/Suit;"⟩ : MethodName) (head1 (Jvm.Cond.code (⟨"com/example/lianzhuang/lianzhuang/tile/Suit", "withLetter", "(C)Lcom/example/lianzhuang/lianzhuang/tile/Suit;"⟩ : MethodName) prog_42_method_7_code 5 (some (.object "com/example/lianzhuang/lianzhuang/tile/Suit")) :: ws) ({ frames := 2, cells := 1, slots := 4, locals := 25 } : Room)) (fun a U => a = #[(.int q1)] ∧ Z.Warmed39 U.vm ∧ U.heap = h0) (fun _ _ _ _ _ => True) (fun _ U o U' => ∃ v L, o = .returned v ∧ (QWn Z q1 aV kV aC aD aB aH h0 n0) v U'.heap L ∧ FrameEnd U o U' L 1 4) := by
  refine MetFree.of_bodySF (plainFor_of_name pn_com_example_lianzhuang_lianzhuang_tile_Suit) hisR ?_
  intro p e s m args below meth c s₁ Bd hml0 hP hK
  obtain ⟨rfl, hZ, hh⟩ := hP
  have hx := Bd.exec
  have hby := Bd.bytes
  have hml : c.maxLocals = 5 := hml0
  have hown : s.vm.findClass "com/example/lianzhuang/lianzhuang/tile/Suit" = some m.cls := findClass_of_methodNamed Bd.named
  have hnm := (name_of_methodNamed Bd.named Bd.method).1
  have X0 : Stand p l e ({ frames := 2, cells := 1, slots := 4, locals := 25 } : Room) s m #[(.int q1)] below meth c s₁ [] 0 0 := Stand.of_body Bd
  have e0 : s₁.heap = h0 := by rw [← hh, Bd.state]; rfl
  have N0 := Fr.nil n0
  refine GoW.mk ?_
  refine GoW.st (fun t k => castTop (ef1_rmWn m q1) k) ?_
  show GoW p e below s (QWn Z q1 aV kV aC aD aB aH h0 n0) 1 4 (s₁.setTop (mkF m 0 (Sh0 q1) []))
  obtain ⟨_, _, ⟨T32, L32, k32, n32⟩, -, X32, ⟨Lc32, hQ32, l32, y32, z32⟩, st32⟩ := Jvm.LawKit.callS X0 hx (y := (⟨"com/example/lianzhuang/lianzhuang/tile/Suit", "values", "()[Lcom/example/lianzhuang/lianzhuang/tile/Suit;"⟩ : MethodName)) hown (mvT hZ (ww hw 4 rfl)) (mvT hZ (ww hw 5 rfl)) (mvT hZ (ww hw 2 rfl)) (mvT hZ (ww hw 6 rfl)) (by decide) (backOf (W := 0) (rmV l Z a0 hw []  aV kV aC aD aB aH h0 n0 Z0 P0 P1 P2   ) hZ (ww hw 6 rfl) (ww hw 2 rfl) (by decide) (by decide)) (g := (mkF m 0 (Sh0 q1) [])) rfl (by rw [hml]; rfl) (argsL := []) (rest := []) (lenOf pd_28295bLcom2fexample2flianzhuang2flianzhuang2ftile2fSuit3b rfl) rfl (by show 2 * 0 + _ ≤ _; exact Nat.le_of_eq rfl) (hb hby d1_0) (fun _ _ => ⟨rfl, e0, (by decide : 0 + 1 ≤ _), (by decide : 0 + 4 ≤ _)⟩)
  dsimp only [Pt.U, Pt.locs, Pt.cells, Pt.slots] at X32 l32 y32 z32 st32 hQ32
  subst l32 y32 z32
  obtain ⟨rfl, N32q, K32, p32_0⟩ := hQ32
  have N32 := Fr.app N0 N32q
  obtain ⟨b32, g32⟩ : ∃ z, z = h0.size := ⟨_, rfl⟩
  rw [← g32] at p32_0 st32
  have g_b32 : n0 ≤ b32 := Nat.le_trans Z0 (Nat.le_of_eq g32.symm)
  have sz_b32 : h0.size ≤ b32 := Nat.le_trans (Keep.refl h0 []).1 (Nat.le_of_eq g32.symm)
  have ne_aV_b32 : aV ≠ b32 := Nat.ne_of_lt (Nat.lt_of_lt_of_eq P1.lt g32.symm)
  have ne_aC_b32 : aC ≠ b32 := Nat.ne_of_lt (Nat.lt_of_lt_of_eq P3.lt g32.symm)
  have ne_aD_b32 : aD ≠ b32 := Nat.ne_of_lt (Nat.lt_of_lt_of_eq P4.lt g32.symm)
  have ne_aB_b32 : aB ≠ b32 := Nat.ne_of_lt (Nat.lt_of_lt_of_eq P5.lt g32.symm)
  have ne_aH_b32 : aH ≠ b32 := Nat.ne_of_lt (Nat.lt_of_lt_of_eq P6.lt g32.symm)
  have Sta_com_example_lianzhuang_lianzhuang_tile_Suit_VALUES_32 : Sta Z T32.heap "com/example/lianzhuang/lianzhuang/tile/Suit" "$VALUES" "[Lcom/example/lianzhuang/lianzhuang/tile/Suit;" (.ref aV) := own_staK0 P0 K32
  have Arv_aV_32 : Arv Z T32.heap aV kV (.object "com/example/lianzhuang/lianzhuang/tile/Suit") (4 : Int32) [(.ref aC), (.ref aD), (.ref aB), (.ref aH)] .null := P1.keep K32 nin0
  have Exa_aV_32 : Exa Z T32.heap aV "[Lcom/example/lianzhuang/lianzhuang/tile/Suit;" := P2.keep K32
  have Fld_aC_letter_32 : Fld Z T32.heap aC "com/example/lianzhuang/lianzhuang/tile/Suit" "letter" "C" (.int (109 : Int32)) := P3.keep K32 nin0
  have Fld_aD_letter_32 : Fld Z T32.heap aD "com/example/lianzhuang/lianzhuang/tile/Suit" "letter" "C" (.int (112 : Int32)) := P4.keep K32 nin0
  have Fld_aB_letter_32 : Fld Z T32.heap aB "com/example/lianzhuang/lianzhuang/tile/Suit" "letter" "C" (.int (115 : Int32)) := P5.keep K32 nin0
  have Fld_aH_letter_32 : Fld Z T32.heap aH "com/example/lianzhuang/lianzhuang/tile/Suit" "letter" "C" (.int (122 : Int32)) := P6.keep K32 nin0
  have Keep_32 : Keep h0 T32.heap [] := (Keep.refl h0 []).trans K32 all0
  have Zs_32 : n0 ≤ T32.heap.size := Nat.le_trans Z0 K32.1
  refine GoW.sg (mkF m 3 (Sh0 q1) [(.ref b32)]) (fun t k => st32 t k) ?_
  refine GoW.sg (mkF m 4 (Sh1 q1 b32) []) (fun t k => XS.astoreN X32.here hx rfl (hb hby d1_3) rfl rfl (l' := (Sh1 q1 b32)) rfl k) ?_
  refine GoW.sg (mkF m 5 (Sh1 q1 b32) [(.ref b32)]) (fun t k => XS.aloadN X32.here hx rfl (hb hby d1_4) rfl rfl k) ?_
  obtain ⟨cl33, Ar33, q33, Sz33, Nn33, Hh33, Gg33⟩ := id p32_0
  have st33 := X32.arraylength hx (hq_ rfl Ar33.1) (State.isArrayOf_alike hZ.alike Ar33.2.1) (g := (mkF m 5 (Sh1 q1 b32) [(.ref b32)])) rfl rfl (hb hby d1_5)
  rw [len_of Sz33 Nn33] at st33
  refine GoW.sg (mkF m 6 (Sh1 q1 b32) [(.int 4)]) (fun t k => st33 t k) ?_
  refine GoW.sg (mkF m 7 (Sh2 q1 b32 4) []) (fun t k => XS.istoreN X32.here hx rfl (hb hby d1_6) rfl (l' := (Sh2 q1 b32 4)) rfl k) ?_
  refine GoW.sg (mkF m 8 (Sh2 q1 b32 4) [(.int 0)]) (fun t k => XS.iconst X32.here hx rfl (hb hby d1_7) k) ?_
  refine GoW.sg (mkF m 9 (Sh3 q1 b32 4 0) []) (fun t k => XS.istoreN X32.here hx rfl (hb hby d1_8) rfl (l' := (Sh3 q1 b32 4 0)) rfl k) ?_
  refine GoW.sg (mkF m 10 (Sh3 q1 b32 4 0) [(.int 0)]) (fun t k => XS.iloadN X32.here hx rfl (hb hby d1_9) rfl k) ?_
  refine GoW.sg (mkF m 11 (Sh3 q1 b32 4 0) [(.int 4), (.int 0)]) (fun t k => XS.iloadN X32.here hx rfl (hb hby d1_10) rfl k) ?_
  refine GoW.sg (mkF m 14 (Sh3 q1 b32 4 0) []) (fun t k => XS.icmpNo X32.here hx rfl (hb hby d1_11) rfl (by decide) k) ?_
  refine GoW.sg (mkF m 15 (Sh3 q1 b32 4 0) [(.ref b32)]) (fun t k => XS.aloadN X32.here hx rfl (hb hby d1_14) rfl rfl k) ?_
  refine GoW.sg (mkF m 16 (Sh3 q1 b32 4 0) [(.int 0), (.ref b32)]) (fun t k => XS.iloadN X32.here hx rfl (hb hby d1_15) rfl k) ?_
  obtain ⟨cl34, Ar34, q34, Sz34, Nn34, Hh34, Gg34⟩ := id p32_0
  have hin34 : ¬ ((0 : Int32) < 0 ∨ cl34.slots.size ≤ ((0 : Int32)).toNatClampNeg) := inb_of Sz34 ⟨by decide, by decide⟩
  refine GoW.sg (mkF m 17 (Sh3 q1 b32 4 0) [(.ref aC)]) (fun t k => X32.aaload hx (j := (0 : Int32)) (v := (.ref aC)) (hq_ rfl Ar34.1) (State.isArrayOf_alike hZ.alike Ar34.2.1) rfl Ar34.2.2 hin34 (Hh34.at hin34 rfl) (g := (mkF m 16 (Sh3 q1 b32 4 0) [(.int 0), (.ref b32)])) rfl rfl (hb hby d1_16) t k) ?_
  refine GoW.sg (mkF m 19 (Sh4 q1 b32 4 0 aC) []) (fun t k => XS.astore X32.here hx rfl (hb hby d1_17) rfl rfl (l' := (Sh4 q1 b32 4 0 aC)) rfl k) ?_
  refine GoW.sg (mkF m 21 (Sh4 q1 b32 4 0 aC) [(.ref aC)]) (fun t k => XS.aload X32.here hx rfl (hb hby d1_19) rfl rfl k) ?_
  obtain ⟨T35, X35, e35, st35⟩ := getF X32 hx hZ hown (host := "") (Or.inl (ww hw 23 rfl)) Via.refl rfl Fld_aC_letter_32 (g := (mkF m 21 (Sh4 q1 b32 4 0 aC) [(.ref aC)])) rfl rfl (hb hby d1_21)
  refine GoW.sg (mkF m 24 (Sh4 q1 b32 4 0 aC) [(.int 109)]) (fun t k => st35 t k) ?_
  refine GoW.sg (mkF m 25 (Sh4 q1 b32 4 0 aC) [(.int q1), (.int 109)]) (fun t k => XS.iloadN X35.here hx rfl (hb hby d1_24) rfl k) ?_
  refine GoW.sg (mkF m 31 (Sh4 q1 b32 4 0 aC) []) (fun t k => XS.icmpYes X35.here hx rfl (pc0 := 25) (pc' := 31) rfl (hb hby d1_25) rfl (feq u109).2 (by decide) (by decide) k) ?_
  refine GoW.sg (mkF m 34 (Sh4 q1 b32 4 1 aC) []) (fun t k => XS.iinc X35.here hx rfl (hb hby d1_31) rfl (l' := (Sh4 q1 b32 4 1 aC)) rfl k) ?_
  refine GoW.sg (mkF m 9 (Sh4 q1 b32 4 1 aC) []) (fun t k => XS.goto X35.here hx rfl (pc0 := 34) (pc' := 9) rfl (hb hby d1_34) (by decide) (by decide) k) ?_
  refine GoW.sg (mkF m 10 (Sh4 q1 b32 4 1 aC) [(.int 1)]) (fun t k => XS.iloadN X35.here hx rfl (hb hby d1_9) rfl k) ?_
  refine GoW.sg (mkF m 11 (Sh4 q1 b32 4 1 aC) [(.int 4), (.int 1)]) (fun t k => XS.iloadN X35.here hx rfl (hb hby d1_10) rfl k) ?_
  refine GoW.sg (mkF m 14 (Sh4 q1 b32 4 1 aC) []) (fun t k => XS.icmpNo X35.here hx rfl (hb hby d1_11) rfl (by decide) k) ?_
  refine GoW.sg (mkF m 15 (Sh4 q1 b32 4 1 aC) [(.ref b32)]) (fun t k => XS.aloadN X35.here hx rfl (hb hby d1_14) rfl rfl k) ?_
  refine GoW.sg (mkF m 16 (Sh4 q1 b32 4 1 aC) [(.int 1), (.ref b32)]) (fun t k => XS.iloadN X35.here hx rfl (hb hby d1_15) rfl k) ?_
  obtain ⟨cl36, Ar36, q36, Sz36, Nn36, Hh36, Gg36⟩ := id p32_0
  have hin36 : ¬ ((1 : Int32) < 0 ∨ cl36.slots.size ≤ ((1 : Int32)).toNatClampNeg) := inb_of Sz36 ⟨by decide, by decide⟩
  refine GoW.sg (mkF m 17 (Sh4 q1 b32 4 1 aC) [(.ref aD)]) (fun t k => X35.aaload hx (j := (1 : Int32)) (v := (.ref aD)) (hq_ e35 Ar36.1) (State.isArrayOf_alike hZ.alike Ar36.2.1) rfl Ar36.2.2 hin36 (Hh36.at hin36 rfl) (g := (mkF m 16 (Sh4 q1 b32 4 1 aC) [(.int 1), (.ref b32)])) rfl rfl (hb hby d1_16) t k) ?_
  refine GoW.sg (mkF m 19 (Sh4 q1 b32 4 1 aD) []) (fun t k => XS.astore X35.here hx rfl (hb hby d1_17) rfl rfl (l' := (Sh4 q1 b32 4 1 aD)) rfl k) ?_
  refine GoW.sg (mkF m 21 (Sh4 q1 b32 4 1 aD) [(.ref aD)]) (fun t k => XS.aload X35.here hx rfl (hb hby d1_19) rfl rfl k) ?_
  obtain ⟨T37, X37, e37, st37⟩ := getF X35 hx hZ hown (host := "") (Or.inl (ww hw 23 rfl)) Via.refl e35 Fld_aD_letter_32 (g := (mkF m 21 (Sh4 q1 b32 4 1 aD) [(.ref aD)])) rfl rfl (hb hby d1_21)
  refine GoW.sg (mkF m 24 (Sh4 q1 b32 4 1 aD) [(.int 112)]) (fun t k => st37 t k) ?_
  refine GoW.sg (mkF m 25 (Sh4 q1 b32 4 1 aD) [(.int q1), (.int 112)]) (fun t k => XS.iloadN X37.here hx rfl (hb hby d1_24) rfl k) ?_
  refine GoW.sg (mkF m 31 (Sh4 q1 b32 4 1 aD) []) (fun t k => XS.icmpYes X37.here hx rfl (pc0 := 25) (pc' := 31) rfl (hb hby d1_25) rfl (feq u112).2 (by decide) (by decide) k) ?_
  refine GoW.sg (mkF m 34 (Sh4 q1 b32 4 2 aD) []) (fun t k => XS.iinc X37.here hx rfl (hb hby d1_31) rfl (l' := (Sh4 q1 b32 4 2 aD)) rfl k) ?_
  refine GoW.sg (mkF m 9 (Sh4 q1 b32 4 2 aD) []) (fun t k => XS.goto X37.here hx rfl (pc0 := 34) (pc' := 9) rfl (hb hby d1_34) (by decide) (by decide) k) ?_
  refine GoW.sg (mkF m 10 (Sh4 q1 b32 4 2 aD) [(.int 2)]) (fun t k => XS.iloadN X37.here hx rfl (hb hby d1_9) rfl k) ?_
  refine GoW.sg (mkF m 11 (Sh4 q1 b32 4 2 aD) [(.int 4), (.int 2)]) (fun t k => XS.iloadN X37.here hx rfl (hb hby d1_10) rfl k) ?_
  refine GoW.sg (mkF m 14 (Sh4 q1 b32 4 2 aD) []) (fun t k => XS.icmpNo X37.here hx rfl (hb hby d1_11) rfl (by decide) k) ?_
  refine GoW.sg (mkF m 15 (Sh4 q1 b32 4 2 aD) [(.ref b32)]) (fun t k => XS.aloadN X37.here hx rfl (hb hby d1_14) rfl rfl k) ?_
  refine GoW.sg (mkF m 16 (Sh4 q1 b32 4 2 aD) [(.int 2), (.ref b32)]) (fun t k => XS.iloadN X37.here hx rfl (hb hby d1_15) rfl k) ?_
  obtain ⟨cl38, Ar38, q38, Sz38, Nn38, Hh38, Gg38⟩ := id p32_0
  have hin38 : ¬ ((2 : Int32) < 0 ∨ cl38.slots.size ≤ ((2 : Int32)).toNatClampNeg) := inb_of Sz38 ⟨by decide, by decide⟩
  refine GoW.sg (mkF m 17 (Sh4 q1 b32 4 2 aD) [(.ref aB)]) (fun t k => X37.aaload hx (j := (2 : Int32)) (v := (.ref aB)) (hq_ e37 Ar38.1) (State.isArrayOf_alike hZ.alike Ar38.2.1) rfl Ar38.2.2 hin38 (Hh38.at hin38 rfl) (g := (mkF m 16 (Sh4 q1 b32 4 2 aD) [(.int 2), (.ref b32)])) rfl rfl (hb hby d1_16) t k) ?_
  refine GoW.sg (mkF m 19 (Sh4 q1 b32 4 2 aB) []) (fun t k => XS.astore X37.here hx rfl (hb hby d1_17) rfl rfl (l' := (Sh4 q1 b32 4 2 aB)) rfl k) ?_
  refine GoW.sg (mkF m 21 (Sh4 q1 b32 4 2 aB) [(.ref aB)]) (fun t k => XS.aload X37.here hx rfl (hb hby d1_19) rfl rfl k) ?_
  obtain ⟨T39, X39, e39, st39⟩ := getF X37 hx hZ hown (host := "") (Or.inl (ww hw 23 rfl)) Via.refl e37 Fld_aB_letter_32 (g := (mkF m 21 (Sh4 q1 b32 4 2 aB) [(.ref aB)])) rfl rfl (hb hby d1_21)
  refine GoW.sg (mkF m 24 (Sh4 q1 b32 4 2 aB) [(.int 115)]) (fun t k => st39 t k) ?_
  refine GoW.sg (mkF m 25 (Sh4 q1 b32 4 2 aB) [(.int q1), (.int 115)]) (fun t k => XS.iloadN X39.here hx rfl (hb hby d1_24) rfl k) ?_
  refine GoW.sg (mkF m 31 (Sh4 q1 b32 4 2 aB) []) (fun t k => XS.icmpYes X39.here hx rfl (pc0 := 25) (pc' := 31) rfl (hb hby d1_25) rfl (feq u115).2 (by decide) (by decide) k) ?_
  refine GoW.sg (mkF m 34 (Sh4 q1 b32 4 3 aB) []) (fun t k => XS.iinc X39.here hx rfl (hb hby d1_31) rfl (l' := (Sh4 q1 b32 4 3 aB)) rfl k) ?_
  refine GoW.sg (mkF m 9 (Sh4 q1 b32 4 3 aB) []) (fun t k => XS.goto X39.here hx rfl (pc0 := 34) (pc' := 9) rfl (hb hby d1_34) (by decide) (by decide) k) ?_
  refine GoW.sg (mkF m 10 (Sh4 q1 b32 4 3 aB) [(.int 3)]) (fun t k => XS.iloadN X39.here hx rfl (hb hby d1_9) rfl k) ?_
  refine GoW.sg (mkF m 11 (Sh4 q1 b32 4 3 aB) [(.int 4), (.int 3)]) (fun t k => XS.iloadN X39.here hx rfl (hb hby d1_10) rfl k) ?_
  refine GoW.sg (mkF m 14 (Sh4 q1 b32 4 3 aB) []) (fun t k => XS.icmpNo X39.here hx rfl (hb hby d1_11) rfl (by decide) k) ?_
  refine GoW.sg (mkF m 15 (Sh4 q1 b32 4 3 aB) [(.ref b32)]) (fun t k => XS.aloadN X39.here hx rfl (hb hby d1_14) rfl rfl k) ?_
  refine GoW.sg (mkF m 16 (Sh4 q1 b32 4 3 aB) [(.int 3), (.ref b32)]) (fun t k => XS.iloadN X39.here hx rfl (hb hby d1_15) rfl k) ?_
  obtain ⟨cl40, Ar40, q40, Sz40, Nn40, Hh40, Gg40⟩ := id p32_0
  have hin40 : ¬ ((3 : Int32) < 0 ∨ cl40.slots.size ≤ ((3 : Int32)).toNatClampNeg) := inb_of Sz40 ⟨by decide, by decide⟩
  refine GoW.sg (mkF m 17 (Sh4 q1 b32 4 3 aB) [(.ref aH)]) (fun t k => X39.aaload hx (j := (3 : Int32)) (v := (.ref aH)) (hq_ e39 Ar40.1) (State.isArrayOf_alike hZ.alike Ar40.2.1) rfl Ar40.2.2 hin40 (Hh40.at hin40 rfl) (g := (mkF m 16 (Sh4 q1 b32 4 3 aB) [(.int 3), (.ref b32)])) rfl rfl (hb hby d1_16) t k) ?_
  refine GoW.sg (mkF m 19 (Sh4 q1 b32 4 3 aH) []) (fun t k => XS.astore X39.here hx rfl (hb hby d1_17) rfl rfl (l' := (Sh4 q1 b32 4 3 aH)) rfl k) ?_
  refine GoW.sg (mkF m 21 (Sh4 q1 b32 4 3 aH) [(.ref aH)]) (fun t k => XS.aload X39.here hx rfl (hb hby d1_19) rfl rfl k) ?_
  obtain ⟨T41, X41, e41, st41⟩ := getF X39 hx hZ hown (host := "") (Or.inl (ww hw 23 rfl)) Via.refl e39 Fld_aH_letter_32 (g := (mkF m 21 (Sh4 q1 b32 4 3 aH) [(.ref aH)])) rfl rfl (hb hby d1_21)
  refine GoW.sg (mkF m 24 (Sh4 q1 b32 4 3 aH) [(.int 122)]) (fun t k => st41 t k) ?_
  refine GoW.sg (mkF m 25 (Sh4 q1 b32 4 3 aH) [(.int q1), (.int 122)]) (fun t k => XS.iloadN X41.here hx rfl (hb hby d1_24) rfl k) ?_
  refine GoW.sg (mkF m 31 (Sh4 q1 b32 4 3 aH) []) (fun t k => XS.icmpYes X41.here hx rfl (pc0 := 25) (pc' := 31) rfl (hb hby d1_25) rfl (feq u122).2 (by decide) (by decide) k) ?_
  refine GoW.sg (mkF m 34 (Sh4 q1 b32 4 4 aH) []) (fun t k => XS.iinc X41.here hx rfl (hb hby d1_31) rfl (l' := (Sh4 q1 b32 4 4 aH)) rfl k) ?_
  refine GoW.sg (mkF m 9 (Sh4 q1 b32 4 4 aH) []) (fun t k => XS.goto X41.here hx rfl (pc0 := 34) (pc' := 9) rfl (hb hby d1_34) (by decide) (by decide) k) ?_
  refine GoW.sg (mkF m 10 (Sh4 q1 b32 4 4 aH) [(.int 4)]) (fun t k => XS.iloadN X41.here hx rfl (hb hby d1_9) rfl k) ?_
  refine GoW.sg (mkF m 11 (Sh4 q1 b32 4 4 aH) [(.int 4), (.int 4)]) (fun t k => XS.iloadN X41.here hx rfl (hb hby d1_10) rfl k) ?_
  refine GoW.sg (mkF m 37 (Sh4 q1 b32 4 4 aH) []) (fun t k => XS.icmpYes X41.here hx rfl (pc0 := 11) (pc' := 37) rfl (hb hby d1_11) rfl (by decide) (by decide) (by decide) k) ?_
  refine GoW.sg (mkF m 38 (Sh4 q1 b32 4 4 aH) [.null]) (fun t k => XS.aconstNull X41.here hx rfl (hb hby d1_37) k) ?_
  refine GoW.retA X41 hx Bd.returns rfl rfl rfl (hb hby d1_38) Bd.notSynchronized ?_ (by decide) (by decide)
  rw [e41]
  exact ⟨rfl, N32, Keep_32⟩
def QE109 (Z : State) (aC : Addr) (h0 : Heap) (n0 : Nat) (v : Option Value) (h : Heap) (L : List Loc) : Prop := v = some (.ref aC) ∧ Fr n0 L ∧ (h = h0)
theorem ef3_rmE109 (m : MethodId)  : entryFrame m #[(.int (109 : Int32))] 1 = (mkF m 0 #[.val (.int 109)] []) := by first | (simp [entryFrame, mkF, argsToLocals, Value.category, maxLocals]; done) | rfl
set_option maxRecDepth 65536 in
set_option maxHeartbeats 40000000 in
theorem rmE109 (l : Launch) (Z : State) (a0 : Array Value) (hw : ∀ d ∈ tables_1, d.before a0 Z = true) (ws : List Jvm.Cond)  (aC : Addr) (h0 : Heap) (n0 : Nat) (P0 : Sta Z h0 "com/example/lianzhuang/lianzhuang/tile/Suit" "CHARACTERS" "Lcom/example/lianzhuang/lianzhuang/tile/Suit;" (.ref aC))    :
    MetFree l (⟨"com/example/lianzhuang/lianzhuang/tile/SuitWithLetterPinLaw", "expectedFor", "(C)Lcom/example/lianzhuang/lianzhuang/tile/Suit;"⟩ : MethodName) (head1 (Jvm.Cond.code (⟨"com/example/lianzhuang/lianzhuang/tile/SuitWithLetterPinLaw", "expectedFor", "(C)Lcom/example/lianzhuang/lianzhuang/tile/Suit;"⟩ : MethodName) method_2_code 1 (some (.object "com/example/lianzhuang/lianzhuang/tile/Suit")) :: ws) ({ frames := 0, cells := 0, slots := 0, locals := 0 } : Room)) (fun a U => a = #[(.int (109 : Int32))] ∧ Z.Warmed39 U.vm ∧ U.heap = h0) (fun _ _ _ _ _ => True) (fun _ U o U' => ∃ v L, o = .returned v ∧ (QE109 Z aC h0 n0) v U'.heap L ∧ FrameEnd U o U' L 0 0) := by
  refine MetFree.of_bodySF (plainFor_of_name pn_com_example_lianzhuang_lianzhuang_tile_SuitWithLetterPinLaw) hisR ?_
  intro p e s m args below meth c s₁ Bd hml0 hP hK
  obtain ⟨rfl, hZ, hh⟩ := hP
  have hx := Bd.exec
  have hby := Bd.bytes
  have hml : c.maxLocals = 1 := hml0
  have hown : s.vm.findClass "com/example/lianzhuang/lianzhuang/tile/SuitWithLetterPinLaw" = some m.cls := findClass_of_methodNamed Bd.named
  have hnm := (name_of_methodNamed Bd.named Bd.method).1
  have X0 : Stand p l e ({ frames := 0, cells := 0, slots := 0, locals := 0 } : Room) s m #[(.int (109 : Int32))] below meth c s₁ [] 0 0 := Stand.of_body Bd
  have e0 : s₁.heap = h0 := by rw [← hh, Bd.state]; rfl
  have N0 := Fr.nil n0
  refine GoW.mk ?_
  refine GoW.st (fun t k => castTop (ef3_rmE109 m ) k) ?_
  show GoW p e below s (QE109 Z aC h0 n0) 0 0 (s₁.setTop (mkF m 0 #[.val (.int 109)] []))
  refine GoW.sg (mkF m 1 #[.val (.int 109)] [(.int 109)]) (fun t k => XS.iloadN X0.here hx rfl (hb hby d3_0) rfl k) ?_
  refine GoW.sg (mkF m 3 #[.val (.int 109)] [(.int 109), (.int 109)]) (fun t k => XS.bipush X0.here hx rfl (hb hby d3_1) k) ?_
  refine GoW.sg (mkF m 6 #[.val (.int 109)] []) (fun t k => XS.icmpNo X0.here hx rfl (hb hby d3_3) rfl (by decide) k) ?_
  obtain ⟨T42, X42, e42, st42⟩ := getS (host := "") X0 hx hZ hown (ww hw 39 rfl) Via.refl e0 P0 (g := (mkF m 6 #[.val (.int 109)] [])) rfl (hb hby d3_6)
  refine GoW.sg (mkF m 9 #[.val (.int 109)] [(.ref aC)]) (fun t k => st42 t k) ?_
  refine GoW.retA X42 hx Bd.returns rfl rfl rfl (hb hby d3_9) Bd.notSynchronized ?_ (by decide) (by decide)
  rw [e42]
  exact ⟨rfl, N0, rfl⟩
def QE112 (Z : State) (aD : Addr) (h0 : Heap) (n0 : Nat) (v : Option Value) (h : Heap) (L : List Loc) : Prop := v = some (.ref aD) ∧ Fr n0 L ∧ (h = h0)
theorem ef3_rmE112 (m : MethodId)  : entryFrame m #[(.int (112 : Int32))] 1 = (mkF m 0 #[.val (.int 112)] []) := by first | (simp [entryFrame, mkF, argsToLocals, Value.category, maxLocals]; done) | rfl
set_option maxRecDepth 65536 in
set_option maxHeartbeats 40000000 in
theorem rmE112 (l : Launch) (Z : State) (a0 : Array Value) (hw : ∀ d ∈ tables_1, d.before a0 Z = true) (ws : List Jvm.Cond)  (aD : Addr) (h0 : Heap) (n0 : Nat) (P0 : Sta Z h0 "com/example/lianzhuang/lianzhuang/tile/Suit" "DOTS" "Lcom/example/lianzhuang/lianzhuang/tile/Suit;" (.ref aD))    :
    MetFree l (⟨"com/example/lianzhuang/lianzhuang/tile/SuitWithLetterPinLaw", "expectedFor", "(C)Lcom/example/lianzhuang/lianzhuang/tile/Suit;"⟩ : MethodName) (head1 (Jvm.Cond.code (⟨"com/example/lianzhuang/lianzhuang/tile/SuitWithLetterPinLaw", "expectedFor", "(C)Lcom/example/lianzhuang/lianzhuang/tile/Suit;"⟩ : MethodName) method_2_code 1 (some (.object "com/example/lianzhuang/lianzhuang/tile/Suit")) :: ws) ({ frames := 0, cells := 0, slots := 0, locals := 0 } : Room)) (fun a U => a = #[(.int (112 : Int32))] ∧ Z.Warmed39 U.vm ∧ U.heap = h0) (fun _ _ _ _ _ => True) (fun _ U o U' => ∃ v L, o = .returned v ∧ (QE112 Z aD h0 n0) v U'.heap L ∧ FrameEnd U o U' L 0 0) := by
  refine MetFree.of_bodySF (plainFor_of_name pn_com_example_lianzhuang_lianzhuang_tile_SuitWithLetterPinLaw) hisR ?_
  intro p e s m args below meth c s₁ Bd hml0 hP hK
  obtain ⟨rfl, hZ, hh⟩ := hP
  have hx := Bd.exec
  have hby := Bd.bytes
  have hml : c.maxLocals = 1 := hml0
  have hown : s.vm.findClass "com/example/lianzhuang/lianzhuang/tile/SuitWithLetterPinLaw" = some m.cls := findClass_of_methodNamed Bd.named
  have hnm := (name_of_methodNamed Bd.named Bd.method).1
  have X0 : Stand p l e ({ frames := 0, cells := 0, slots := 0, locals := 0 } : Room) s m #[(.int (112 : Int32))] below meth c s₁ [] 0 0 := Stand.of_body Bd
  have e0 : s₁.heap = h0 := by rw [← hh, Bd.state]; rfl
  have N0 := Fr.nil n0
  refine GoW.mk ?_
  refine GoW.st (fun t k => castTop (ef3_rmE112 m ) k) ?_
  show GoW p e below s (QE112 Z aD h0 n0) 0 0 (s₁.setTop (mkF m 0 #[.val (.int 112)] []))
  refine GoW.sg (mkF m 1 #[.val (.int 112)] [(.int 112)]) (fun t k => XS.iloadN X0.here hx rfl (hb hby d3_0) rfl k) ?_
  refine GoW.sg (mkF m 3 #[.val (.int 112)] [(.int 109), (.int 112)]) (fun t k => XS.bipush X0.here hx rfl (hb hby d3_1) k) ?_
  refine GoW.sg (mkF m 10 #[.val (.int 112)] []) (fun t k => XS.icmpYes X0.here hx rfl (pc0 := 3) (pc' := 10) rfl (hb hby d3_3) rfl (by decide) (by decide) (by decide) k) ?_
  refine GoW.sg (mkF m 11 #[.val (.int 112)] [(.int 112)]) (fun t k => XS.iloadN X0.here hx rfl (hb hby d3_10) rfl k) ?_
  refine GoW.sg (mkF m 13 #[.val (.int 112)] [(.int 112), (.int 112)]) (fun t k => XS.bipush X0.here hx rfl (hb hby d3_11) k) ?_
  refine GoW.sg (mkF m 16 #[.val (.int 112)] []) (fun t k => XS.icmpNo X0.here hx rfl (hb hby d3_13) rfl (by decide) k) ?_
  obtain ⟨T43, X43, e43, st43⟩ := getS (host := "") X0 hx hZ hown (ww hw 38 rfl) Via.refl e0 P0 (g := (mkF m 16 #[.val (.int 112)] [])) rfl (hb hby d3_16)
  refine GoW.sg (mkF m 19 #[.val (.int 112)] [(.ref aD)]) (fun t k => st43 t k) ?_
  refine GoW.retA X43 hx Bd.returns rfl rfl rfl (hb hby d3_19) Bd.notSynchronized ?_ (by decide) (by decide)
  rw [e43]
  exact ⟨rfl, N0, rfl⟩
def QE115 (Z : State) (aB : Addr) (h0 : Heap) (n0 : Nat) (v : Option Value) (h : Heap) (L : List Loc) : Prop := v = some (.ref aB) ∧ Fr n0 L ∧ (h = h0)
theorem ef3_rmE115 (m : MethodId)  : entryFrame m #[(.int (115 : Int32))] 1 = (mkF m 0 #[.val (.int 115)] []) := by first | (simp [entryFrame, mkF, argsToLocals, Value.category, maxLocals]; done) | rfl
set_option maxRecDepth 65536 in
set_option maxHeartbeats 40000000 in
theorem rmE115 (l : Launch) (Z : State) (a0 : Array Value) (hw : ∀ d ∈ tables_1, d.before a0 Z = true) (ws : List Jvm.Cond)  (aB : Addr) (h0 : Heap) (n0 : Nat) (P0 : Sta Z h0 "com/example/lianzhuang/lianzhuang/tile/Suit" "BAMBOO" "Lcom/example/lianzhuang/lianzhuang/tile/Suit;" (.ref aB))    :
    MetFree l (⟨"com/example/lianzhuang/lianzhuang/tile/SuitWithLetterPinLaw", "expectedFor", "(C)Lcom/example/lianzhuang/lianzhuang/tile/Suit;"⟩ : MethodName) (head1 (Jvm.Cond.code (⟨"com/example/lianzhuang/lianzhuang/tile/SuitWithLetterPinLaw", "expectedFor", "(C)Lcom/example/lianzhuang/lianzhuang/tile/Suit;"⟩ : MethodName) method_2_code 1 (some (.object "com/example/lianzhuang/lianzhuang/tile/Suit")) :: ws) ({ frames := 0, cells := 0, slots := 0, locals := 0 } : Room)) (fun a U => a = #[(.int (115 : Int32))] ∧ Z.Warmed39 U.vm ∧ U.heap = h0) (fun _ _ _ _ _ => True) (fun _ U o U' => ∃ v L, o = .returned v ∧ (QE115 Z aB h0 n0) v U'.heap L ∧ FrameEnd U o U' L 0 0) := by
  refine MetFree.of_bodySF (plainFor_of_name pn_com_example_lianzhuang_lianzhuang_tile_SuitWithLetterPinLaw) hisR ?_
  intro p e s m args below meth c s₁ Bd hml0 hP hK
  obtain ⟨rfl, hZ, hh⟩ := hP
  have hx := Bd.exec
  have hby := Bd.bytes
  have hml : c.maxLocals = 1 := hml0
  have hown : s.vm.findClass "com/example/lianzhuang/lianzhuang/tile/SuitWithLetterPinLaw" = some m.cls := findClass_of_methodNamed Bd.named
  have hnm := (name_of_methodNamed Bd.named Bd.method).1
  have X0 : Stand p l e ({ frames := 0, cells := 0, slots := 0, locals := 0 } : Room) s m #[(.int (115 : Int32))] below meth c s₁ [] 0 0 := Stand.of_body Bd
  have e0 : s₁.heap = h0 := by rw [← hh, Bd.state]; rfl
  have N0 := Fr.nil n0
  refine GoW.mk ?_
  refine GoW.st (fun t k => castTop (ef3_rmE115 m ) k) ?_
  show GoW p e below s (QE115 Z aB h0 n0) 0 0 (s₁.setTop (mkF m 0 #[.val (.int 115)] []))
  refine GoW.sg (mkF m 1 #[.val (.int 115)] [(.int 115)]) (fun t k => XS.iloadN X0.here hx rfl (hb hby d3_0) rfl k) ?_
  refine GoW.sg (mkF m 3 #[.val (.int 115)] [(.int 109), (.int 115)]) (fun t k => XS.bipush X0.here hx rfl (hb hby d3_1) k) ?_
  refine GoW.sg (mkF m 10 #[.val (.int 115)] []) (fun t k => XS.icmpYes X0.here hx rfl (pc0 := 3) (pc' := 10) rfl (hb hby d3_3) rfl (by decide) (by decide) (by decide) k) ?_
  refine GoW.sg (mkF m 11 #[.val (.int 115)] [(.int 115)]) (fun t k => XS.iloadN X0.here hx rfl (hb hby d3_10) rfl k) ?_
  refine GoW.sg (mkF m 13 #[.val (.int 115)] [(.int 112), (.int 115)]) (fun t k => XS.bipush X0.here hx rfl (hb hby d3_11) k) ?_
  refine GoW.sg (mkF m 20 #[.val (.int 115)] []) (fun t k => XS.icmpYes X0.here hx rfl (pc0 := 13) (pc' := 20) rfl (hb hby d3_13) rfl (by decide) (by decide) (by decide) k) ?_
  refine GoW.sg (mkF m 21 #[.val (.int 115)] [(.int 115)]) (fun t k => XS.iloadN X0.here hx rfl (hb hby d3_20) rfl k) ?_
  refine GoW.sg (mkF m 23 #[.val (.int 115)] [(.int 115), (.int 115)]) (fun t k => XS.bipush X0.here hx rfl (hb hby d3_21) k) ?_
  refine GoW.sg (mkF m 26 #[.val (.int 115)] []) (fun t k => XS.icmpNo X0.here hx rfl (hb hby d3_23) rfl (by decide) k) ?_
  obtain ⟨T44, X44, e44, st44⟩ := getS (host := "") X0 hx hZ hown (ww hw 40 rfl) Via.refl e0 P0 (g := (mkF m 26 #[.val (.int 115)] [])) rfl (hb hby d3_26)
  refine GoW.sg (mkF m 29 #[.val (.int 115)] [(.ref aB)]) (fun t k => st44 t k) ?_
  refine GoW.retA X44 hx Bd.returns rfl rfl rfl (hb hby d3_29) Bd.notSynchronized ?_ (by decide) (by decide)
  rw [e44]
  exact ⟨rfl, N0, rfl⟩
def QE122 (Z : State) (aH : Addr) (h0 : Heap) (n0 : Nat) (v : Option Value) (h : Heap) (L : List Loc) : Prop := v = some (.ref aH) ∧ Fr n0 L ∧ (h = h0)
theorem ef3_rmE122 (m : MethodId)  : entryFrame m #[(.int (122 : Int32))] 1 = (mkF m 0 #[.val (.int 122)] []) := by first | (simp [entryFrame, mkF, argsToLocals, Value.category, maxLocals]; done) | rfl
set_option maxRecDepth 65536 in
set_option maxHeartbeats 40000000 in
theorem rmE122 (l : Launch) (Z : State) (a0 : Array Value) (hw : ∀ d ∈ tables_1, d.before a0 Z = true) (ws : List Jvm.Cond)  (aH : Addr) (h0 : Heap) (n0 : Nat) (P0 : Sta Z h0 "com/example/lianzhuang/lianzhuang/tile/Suit" "HONOURS" "Lcom/example/lianzhuang/lianzhuang/tile/Suit;" (.ref aH))    :
    MetFree l (⟨"com/example/lianzhuang/lianzhuang/tile/SuitWithLetterPinLaw", "expectedFor", "(C)Lcom/example/lianzhuang/lianzhuang/tile/Suit;"⟩ : MethodName) (head1 (Jvm.Cond.code (⟨"com/example/lianzhuang/lianzhuang/tile/SuitWithLetterPinLaw", "expectedFor", "(C)Lcom/example/lianzhuang/lianzhuang/tile/Suit;"⟩ : MethodName) method_2_code 1 (some (.object "com/example/lianzhuang/lianzhuang/tile/Suit")) :: ws) ({ frames := 0, cells := 0, slots := 0, locals := 0 } : Room)) (fun a U => a = #[(.int (122 : Int32))] ∧ Z.Warmed39 U.vm ∧ U.heap = h0) (fun _ _ _ _ _ => True) (fun _ U o U' => ∃ v L, o = .returned v ∧ (QE122 Z aH h0 n0) v U'.heap L ∧ FrameEnd U o U' L 0 0) := by
  refine MetFree.of_bodySF (plainFor_of_name pn_com_example_lianzhuang_lianzhuang_tile_SuitWithLetterPinLaw) hisR ?_
  intro p e s m args below meth c s₁ Bd hml0 hP hK
  obtain ⟨rfl, hZ, hh⟩ := hP
  have hx := Bd.exec
  have hby := Bd.bytes
  have hml : c.maxLocals = 1 := hml0
  have hown : s.vm.findClass "com/example/lianzhuang/lianzhuang/tile/SuitWithLetterPinLaw" = some m.cls := findClass_of_methodNamed Bd.named
  have hnm := (name_of_methodNamed Bd.named Bd.method).1
  have X0 : Stand p l e ({ frames := 0, cells := 0, slots := 0, locals := 0 } : Room) s m #[(.int (122 : Int32))] below meth c s₁ [] 0 0 := Stand.of_body Bd
  have e0 : s₁.heap = h0 := by rw [← hh, Bd.state]; rfl
  have N0 := Fr.nil n0
  refine GoW.mk ?_
  refine GoW.st (fun t k => castTop (ef3_rmE122 m ) k) ?_
  show GoW p e below s (QE122 Z aH h0 n0) 0 0 (s₁.setTop (mkF m 0 #[.val (.int 122)] []))
  refine GoW.sg (mkF m 1 #[.val (.int 122)] [(.int 122)]) (fun t k => XS.iloadN X0.here hx rfl (hb hby d3_0) rfl k) ?_
  refine GoW.sg (mkF m 3 #[.val (.int 122)] [(.int 109), (.int 122)]) (fun t k => XS.bipush X0.here hx rfl (hb hby d3_1) k) ?_
  refine GoW.sg (mkF m 10 #[.val (.int 122)] []) (fun t k => XS.icmpYes X0.here hx rfl (pc0 := 3) (pc' := 10) rfl (hb hby d3_3) rfl (by decide) (by decide) (by decide) k) ?_
  refine GoW.sg (mkF m 11 #[.val (.int 122)] [(.int 122)]) (fun t k => XS.iloadN X0.here hx rfl (hb hby d3_10) rfl k) ?_
  refine GoW.sg (mkF m 13 #[.val (.int 122)] [(.int 112), (.int 122)]) (fun t k => XS.bipush X0.here hx rfl (hb hby d3_11) k) ?_
  refine GoW.sg (mkF m 20 #[.val (.int 122)] []) (fun t k => XS.icmpYes X0.here hx rfl (pc0 := 13) (pc' := 20) rfl (hb hby d3_13) rfl (by decide) (by decide) (by decide) k) ?_
  refine GoW.sg (mkF m 21 #[.val (.int 122)] [(.int 122)]) (fun t k => XS.iloadN X0.here hx rfl (hb hby d3_20) rfl k) ?_
  refine GoW.sg (mkF m 23 #[.val (.int 122)] [(.int 115), (.int 122)]) (fun t k => XS.bipush X0.here hx rfl (hb hby d3_21) k) ?_
  refine GoW.sg (mkF m 30 #[.val (.int 122)] []) (fun t k => XS.icmpYes X0.here hx rfl (pc0 := 23) (pc' := 30) rfl (hb hby d3_23) rfl (by decide) (by decide) (by decide) k) ?_
  refine GoW.sg (mkF m 31 #[.val (.int 122)] [(.int 122)]) (fun t k => XS.iloadN X0.here hx rfl (hb hby d3_30) rfl k) ?_
  refine GoW.sg (mkF m 33 #[.val (.int 122)] [(.int 122), (.int 122)]) (fun t k => XS.bipush X0.here hx rfl (hb hby d3_31) k) ?_
  refine GoW.sg (mkF m 36 #[.val (.int 122)] []) (fun t k => XS.icmpNo X0.here hx rfl (hb hby d3_33) rfl (by decide) k) ?_
  obtain ⟨T45, X45, e45, st45⟩ := getS (host := "") X0 hx hZ hown (ww hw 32 rfl) Via.refl e0 P0 (g := (mkF m 36 #[.val (.int 122)] [])) rfl (hb hby d3_36)
  refine GoW.sg (mkF m 39 #[.val (.int 122)] [(.ref aH)]) (fun t k => st45 t k) ?_
  refine GoW.retA X45 hx Bd.returns rfl rfl rfl (hb hby d3_39) Bd.notSynchronized ?_ (by decide) (by decide)
  rw [e45]
  exact ⟨rfl, N0, rfl⟩
def QEn (Z : State) (q1 : Int32) (h0 : Heap) (n0 : Nat) (v : Option Value) (h : Heap) (L : List Loc) : Prop := v = some .null ∧ Fr n0 L ∧ (h = h0)
theorem ef3_rmEn (m : MethodId) (q1 : Int32) : entryFrame m #[(.int q1)] 1 = (mkF m 0 #[.val (.int q1)] []) := by first | (simp [entryFrame, mkF, argsToLocals, Value.category, maxLocals]; done) | rfl
set_option maxRecDepth 65536 in
set_option maxHeartbeats 40000000 in
theorem rmEn (l : Launch) (Z : State) (a0 : Array Value) (hw : ∀ d ∈ tables_1, d.before a0 Z = true) (ws : List Jvm.Cond) (q1 : Int32)  (h0 : Heap) (n0 : Nat)    (u109 : ¬ (q1 = (109 : Int32))) (u112 : ¬ (q1 = (112 : Int32))) (u115 : ¬ (q1 = (115 : Int32))) (u122 : ¬ (q1 = (122 : Int32))) :
    MetFree l (⟨"com/example/lianzhuang/lianzhuang/tile/SuitWithLetterPinLaw", "expectedFor", "(C)Lcom/example/lianzhuang/lianzhuang/tile/Suit;"⟩ : MethodName) (head1 (Jvm.Cond.code (⟨"com/example/lianzhuang/lianzhuang/tile/SuitWithLetterPinLaw", "expectedFor", "(C)Lcom/example/lianzhuang/lianzhuang/tile/Suit;"⟩ : MethodName) method_2_code 1 (some (.object "com/example/lianzhuang/lianzhuang/tile/Suit")) :: ws) ({ frames := 0, cells := 0, slots := 0, locals := 0 } : Room)) (fun a U => a = #[(.int q1)] ∧ Z.Warmed39 U.vm ∧ U.heap = h0) (fun _ _ _ _ _ => True) (fun _ U o U' => ∃ v L, o = .returned v ∧ (QEn Z q1 h0 n0) v U'.heap L ∧ FrameEnd U o U' L 0 0) := by
  refine MetFree.of_bodySF (plainFor_of_name pn_com_example_lianzhuang_lianzhuang_tile_SuitWithLetterPinLaw) hisR ?_
  intro p e s m args below meth c s₁ Bd hml0 hP hK
  obtain ⟨rfl, hZ, hh⟩ := hP
  have hx := Bd.exec
  have hby := Bd.bytes
  have hml : c.maxLocals = 1 := hml0
  have hown : s.vm.findClass "com/example/lianzhuang/lianzhuang/tile/SuitWithLetterPinLaw" = some m.cls := findClass_of_methodNamed Bd.named
  have hnm := (name_of_methodNamed Bd.named Bd.method).1
  have X0 : Stand p l e ({ frames := 0, cells := 0, slots := 0, locals := 0 } : Room) s m #[(.int q1)] below meth c s₁ [] 0 0 := Stand.of_body Bd
  have e0 : s₁.heap = h0 := by rw [← hh, Bd.state]; rfl
  have N0 := Fr.nil n0
  refine GoW.mk ?_
  refine GoW.st (fun t k => castTop (ef3_rmEn m q1) k) ?_
  show GoW p e below s (QEn Z q1 h0 n0) 0 0 (s₁.setTop (mkF m 0 #[.val (.int q1)] []))
  refine GoW.sg (mkF m 1 #[.val (.int q1)] [(.int q1)]) (fun t k => XS.iloadN X0.here hx rfl (hb hby d3_0) rfl k) ?_
  refine GoW.sg (mkF m 3 #[.val (.int q1)] [(.int 109), (.int q1)]) (fun t k => XS.bipush X0.here hx rfl (hb hby d3_1) k) ?_
  refine GoW.sg (mkF m 10 #[.val (.int q1)] []) (fun t k => XS.icmpYes X0.here hx rfl (pc0 := 3) (pc' := 10) rfl (hb hby d3_3) rfl (feq u109).2 (by decide) (by decide) k) ?_
  refine GoW.sg (mkF m 11 #[.val (.int q1)] [(.int q1)]) (fun t k => XS.iloadN X0.here hx rfl (hb hby d3_10) rfl k) ?_
  refine GoW.sg (mkF m 13 #[.val (.int q1)] [(.int 112), (.int q1)]) (fun t k => XS.bipush X0.here hx rfl (hb hby d3_11) k) ?_
  refine GoW.sg (mkF m 20 #[.val (.int q1)] []) (fun t k => XS.icmpYes X0.here hx rfl (pc0 := 13) (pc' := 20) rfl (hb hby d3_13) rfl (feq u112).2 (by decide) (by decide) k) ?_
  refine GoW.sg (mkF m 21 #[.val (.int q1)] [(.int q1)]) (fun t k => XS.iloadN X0.here hx rfl (hb hby d3_20) rfl k) ?_
  refine GoW.sg (mkF m 23 #[.val (.int q1)] [(.int 115), (.int q1)]) (fun t k => XS.bipush X0.here hx rfl (hb hby d3_21) k) ?_
  refine GoW.sg (mkF m 30 #[.val (.int q1)] []) (fun t k => XS.icmpYes X0.here hx rfl (pc0 := 23) (pc' := 30) rfl (hb hby d3_23) rfl (feq u115).2 (by decide) (by decide) k) ?_
  refine GoW.sg (mkF m 31 #[.val (.int q1)] [(.int q1)]) (fun t k => XS.iloadN X0.here hx rfl (hb hby d3_30) rfl k) ?_
  refine GoW.sg (mkF m 33 #[.val (.int q1)] [(.int 122), (.int q1)]) (fun t k => XS.bipush X0.here hx rfl (hb hby d3_31) k) ?_
  refine GoW.sg (mkF m 40 #[.val (.int q1)] []) (fun t k => XS.icmpYes X0.here hx rfl (pc0 := 33) (pc' := 40) rfl (hb hby d3_33) rfl (feq u122).2 (by decide) (by decide) k) ?_
  refine GoW.sg (mkF m 41 #[.val (.int q1)] [.null]) (fun t k => XS.aconstNull X0.here hx rfl (hb hby d3_40) k) ?_
  refine GoW.retA X0 hx Bd.returns rfl rfl rfl (hb hby d3_41) Bd.notSynchronized ?_ (by decide) (by decide)
  rw [e0]
  exact ⟨rfl, N0, rfl⟩
def QK0 (Z : State) (aC : Addr) (h0 : Heap) (n0 : Nat) (v : Option Value) (h : Heap) (L : List Loc) : Prop := v = some (.ref aC) ∧ Fr n0 L ∧ (h = h0)
theorem ef4_rmK0 (m : MethodId)  : entryFrame m #[(.int (0 : Int32))] 1 = (mkF m 0 #[.val (.int 0)] []) := by first | (simp [entryFrame, mkF, argsToLocals, Value.category, maxLocals]; done) | rfl
set_option maxRecDepth 65536 in
set_option maxHeartbeats 40000000 in
theorem rmK0 (l : Launch) (Z : State) (a0 : Array Value) (hw : ∀ d ∈ tables_1, d.before a0 Z = true) (ws : List Jvm.Cond)  (aC : Addr) (h0 : Heap) (n0 : Nat) (P0 : Sta Z h0 "com/example/lianzhuang/lianzhuang/tile/Suit" "CHARACTERS" "Lcom/example/lianzhuang/lianzhuang/tile/Suit;" (.ref aC))    :
    MetFree l (⟨"com/example/lianzhuang/lianzhuang/tile/SuitWithLetterPinLaw", "pick", "(I)Lcom/example/lianzhuang/lianzhuang/tile/Suit;"⟩ : MethodName) (head1 (Jvm.Cond.code (⟨"com/example/lianzhuang/lianzhuang/tile/SuitWithLetterPinLaw", "pick", "(I)Lcom/example/lianzhuang/lianzhuang/tile/Suit;"⟩ : MethodName) method_3_code 1 (some (.object "com/example/lianzhuang/lianzhuang/tile/Suit")) :: ws) ({ frames := 0, cells := 0, slots := 0, locals := 0 } : Room)) (fun a U => a = #[(.int (0 : Int32))] ∧ Z.Warmed39 U.vm ∧ U.heap = h0) (fun _ _ _ _ _ => True) (fun _ U o U' => ∃ v L, o = .returned v ∧ (QK0 Z aC h0 n0) v U'.heap L ∧ FrameEnd U o U' L 0 0) := by
  refine MetFree.of_bodySF (plainFor_of_name pn_com_example_lianzhuang_lianzhuang_tile_SuitWithLetterPinLaw) hisR ?_
  intro p e s m args below meth c s₁ Bd hml0 hP hK
  obtain ⟨rfl, hZ, hh⟩ := hP
  have hx := Bd.exec
  have hby := Bd.bytes
  have hml : c.maxLocals = 1 := hml0
  have hown : s.vm.findClass "com/example/lianzhuang/lianzhuang/tile/SuitWithLetterPinLaw" = some m.cls := findClass_of_methodNamed Bd.named
  have hnm := (name_of_methodNamed Bd.named Bd.method).1
  have X0 : Stand p l e ({ frames := 0, cells := 0, slots := 0, locals := 0 } : Room) s m #[(.int (0 : Int32))] below meth c s₁ [] 0 0 := Stand.of_body Bd
  have e0 : s₁.heap = h0 := by rw [← hh, Bd.state]; rfl
  have N0 := Fr.nil n0
  refine GoW.mk ?_
  refine GoW.st (fun t k => castTop (ef4_rmK0 m ) k) ?_
  show GoW p e below s (QK0 Z aC h0 n0) 0 0 (s₁.setTop (mkF m 0 #[.val (.int 0)] []))
  refine GoW.sg (mkF m 1 #[.val (.int 0)] [(.int 0)]) (fun t k => XS.iloadN X0.here hx rfl (hb hby d4_0) rfl k) ?_
  refine GoW.sg (mkF m 4 #[.val (.int 0)] []) (fun t k => XS.ifNo X0.here hx rfl (hb hby d4_1) rfl (by decide) k) ?_
  obtain ⟨T46, X46, e46, st46⟩ := getS (host := "") X0 hx hZ hown (ww hw 39 rfl) Via.refl e0 P0 (g := (mkF m 4 #[.val (.int 0)] [])) rfl (hb hby d4_4)
  refine GoW.sg (mkF m 7 #[.val (.int 0)] [(.ref aC)]) (fun t k => st46 t k) ?_
  refine GoW.retA X46 hx Bd.returns rfl rfl rfl (hb hby d4_7) Bd.notSynchronized ?_ (by decide) (by decide)
  rw [e46]
  exact ⟨rfl, N0, rfl⟩
def QK1 (Z : State) (aD : Addr) (h0 : Heap) (n0 : Nat) (v : Option Value) (h : Heap) (L : List Loc) : Prop := v = some (.ref aD) ∧ Fr n0 L ∧ (h = h0)
theorem ef4_rmK1 (m : MethodId)  : entryFrame m #[(.int (1 : Int32))] 1 = (mkF m 0 #[.val (.int 1)] []) := by first | (simp [entryFrame, mkF, argsToLocals, Value.category, maxLocals]; done) | rfl
set_option maxRecDepth 65536 in
set_option maxHeartbeats 40000000 in
theorem rmK1 (l : Launch) (Z : State) (a0 : Array Value) (hw : ∀ d ∈ tables_1, d.before a0 Z = true) (ws : List Jvm.Cond)  (aD : Addr) (h0 : Heap) (n0 : Nat) (P0 : Sta Z h0 "com/example/lianzhuang/lianzhuang/tile/Suit" "DOTS" "Lcom/example/lianzhuang/lianzhuang/tile/Suit;" (.ref aD))    :
    MetFree l (⟨"com/example/lianzhuang/lianzhuang/tile/SuitWithLetterPinLaw", "pick", "(I)Lcom/example/lianzhuang/lianzhuang/tile/Suit;"⟩ : MethodName) (head1 (Jvm.Cond.code (⟨"com/example/lianzhuang/lianzhuang/tile/SuitWithLetterPinLaw", "pick", "(I)Lcom/example/lianzhuang/lianzhuang/tile/Suit;"⟩ : MethodName) method_3_code 1 (some (.object "com/example/lianzhuang/lianzhuang/tile/Suit")) :: ws) ({ frames := 0, cells := 0, slots := 0, locals := 0 } : Room)) (fun a U => a = #[(.int (1 : Int32))] ∧ Z.Warmed39 U.vm ∧ U.heap = h0) (fun _ _ _ _ _ => True) (fun _ U o U' => ∃ v L, o = .returned v ∧ (QK1 Z aD h0 n0) v U'.heap L ∧ FrameEnd U o U' L 0 0) := by
  refine MetFree.of_bodySF (plainFor_of_name pn_com_example_lianzhuang_lianzhuang_tile_SuitWithLetterPinLaw) hisR ?_
  intro p e s m args below meth c s₁ Bd hml0 hP hK
  obtain ⟨rfl, hZ, hh⟩ := hP
  have hx := Bd.exec
  have hby := Bd.bytes
  have hml : c.maxLocals = 1 := hml0
  have hown : s.vm.findClass "com/example/lianzhuang/lianzhuang/tile/SuitWithLetterPinLaw" = some m.cls := findClass_of_methodNamed Bd.named
  have hnm := (name_of_methodNamed Bd.named Bd.method).1
  have X0 : Stand p l e ({ frames := 0, cells := 0, slots := 0, locals := 0 } : Room) s m #[(.int (1 : Int32))] below meth c s₁ [] 0 0 := Stand.of_body Bd
  have e0 : s₁.heap = h0 := by rw [← hh, Bd.state]; rfl
  have N0 := Fr.nil n0
  refine GoW.mk ?_
  refine GoW.st (fun t k => castTop (ef4_rmK1 m ) k) ?_
  show GoW p e below s (QK1 Z aD h0 n0) 0 0 (s₁.setTop (mkF m 0 #[.val (.int 1)] []))
  refine GoW.sg (mkF m 1 #[.val (.int 1)] [(.int 1)]) (fun t k => XS.iloadN X0.here hx rfl (hb hby d4_0) rfl k) ?_
  refine GoW.sg (mkF m 8 #[.val (.int 1)] []) (fun t k => XS.ifYes X0.here hx rfl (pc0 := 1) (pc' := 8) rfl (hb hby d4_1) rfl (by decide) (by decide) (by decide) k) ?_
  refine GoW.sg (mkF m 9 #[.val (.int 1)] [(.int 1)]) (fun t k => XS.iloadN X0.here hx rfl (hb hby d4_8) rfl k) ?_
  refine GoW.sg (mkF m 10 #[.val (.int 1)] [(.int 1), (.int 1)]) (fun t k => XS.iconst X0.here hx rfl (hb hby d4_9) k) ?_
  refine GoW.sg (mkF m 13 #[.val (.int 1)] []) (fun t k => XS.icmpNo X0.here hx rfl (hb hby d4_10) rfl (by decide) k) ?_
  obtain ⟨T47, X47, e47, st47⟩ := getS (host := "") X0 hx hZ hown (ww hw 38 rfl) Via.refl e0 P0 (g := (mkF m 13 #[.val (.int 1)] [])) rfl (hb hby d4_13)
  refine GoW.sg (mkF m 16 #[.val (.int 1)] [(.ref aD)]) (fun t k => st47 t k) ?_
  refine GoW.retA X47 hx Bd.returns rfl rfl rfl (hb hby d4_16) Bd.notSynchronized ?_ (by decide) (by decide)
  rw [e47]
  exact ⟨rfl, N0, rfl⟩
def QK2 (Z : State) (aB : Addr) (h0 : Heap) (n0 : Nat) (v : Option Value) (h : Heap) (L : List Loc) : Prop := v = some (.ref aB) ∧ Fr n0 L ∧ (h = h0)
theorem ef4_rmK2 (m : MethodId)  : entryFrame m #[(.int (2 : Int32))] 1 = (mkF m 0 #[.val (.int 2)] []) := by first | (simp [entryFrame, mkF, argsToLocals, Value.category, maxLocals]; done) | rfl
set_option maxRecDepth 65536 in
set_option maxHeartbeats 40000000 in
theorem rmK2 (l : Launch) (Z : State) (a0 : Array Value) (hw : ∀ d ∈ tables_1, d.before a0 Z = true) (ws : List Jvm.Cond)  (aB : Addr) (h0 : Heap) (n0 : Nat) (P0 : Sta Z h0 "com/example/lianzhuang/lianzhuang/tile/Suit" "BAMBOO" "Lcom/example/lianzhuang/lianzhuang/tile/Suit;" (.ref aB))    :
    MetFree l (⟨"com/example/lianzhuang/lianzhuang/tile/SuitWithLetterPinLaw", "pick", "(I)Lcom/example/lianzhuang/lianzhuang/tile/Suit;"⟩ : MethodName) (head1 (Jvm.Cond.code (⟨"com/example/lianzhuang/lianzhuang/tile/SuitWithLetterPinLaw", "pick", "(I)Lcom/example/lianzhuang/lianzhuang/tile/Suit;"⟩ : MethodName) method_3_code 1 (some (.object "com/example/lianzhuang/lianzhuang/tile/Suit")) :: ws) ({ frames := 0, cells := 0, slots := 0, locals := 0 } : Room)) (fun a U => a = #[(.int (2 : Int32))] ∧ Z.Warmed39 U.vm ∧ U.heap = h0) (fun _ _ _ _ _ => True) (fun _ U o U' => ∃ v L, o = .returned v ∧ (QK2 Z aB h0 n0) v U'.heap L ∧ FrameEnd U o U' L 0 0) := by
  refine MetFree.of_bodySF (plainFor_of_name pn_com_example_lianzhuang_lianzhuang_tile_SuitWithLetterPinLaw) hisR ?_
  intro p e s m args below meth c s₁ Bd hml0 hP hK
  obtain ⟨rfl, hZ, hh⟩ := hP
  have hx := Bd.exec
  have hby := Bd.bytes
  have hml : c.maxLocals = 1 := hml0
  have hown : s.vm.findClass "com/example/lianzhuang/lianzhuang/tile/SuitWithLetterPinLaw" = some m.cls := findClass_of_methodNamed Bd.named
  have hnm := (name_of_methodNamed Bd.named Bd.method).1
  have X0 : Stand p l e ({ frames := 0, cells := 0, slots := 0, locals := 0 } : Room) s m #[(.int (2 : Int32))] below meth c s₁ [] 0 0 := Stand.of_body Bd
  have e0 : s₁.heap = h0 := by rw [← hh, Bd.state]; rfl
  have N0 := Fr.nil n0
  refine GoW.mk ?_
  refine GoW.st (fun t k => castTop (ef4_rmK2 m ) k) ?_
  show GoW p e below s (QK2 Z aB h0 n0) 0 0 (s₁.setTop (mkF m 0 #[.val (.int 2)] []))
  refine GoW.sg (mkF m 1 #[.val (.int 2)] [(.int 2)]) (fun t k => XS.iloadN X0.here hx rfl (hb hby d4_0) rfl k) ?_
  refine GoW.sg (mkF m 8 #[.val (.int 2)] []) (fun t k => XS.ifYes X0.here hx rfl (pc0 := 1) (pc' := 8) rfl (hb hby d4_1) rfl (by decide) (by decide) (by decide) k) ?_
  refine GoW.sg (mkF m 9 #[.val (.int 2)] [(.int 2)]) (fun t k => XS.iloadN X0.here hx rfl (hb hby d4_8) rfl k) ?_
  refine GoW.sg (mkF m 10 #[.val (.int 2)] [(.int 1), (.int 2)]) (fun t k => XS.iconst X0.here hx rfl (hb hby d4_9) k) ?_
  refine GoW.sg (mkF m 17 #[.val (.int 2)] []) (fun t k => XS.icmpYes X0.here hx rfl (pc0 := 10) (pc' := 17) rfl (hb hby d4_10) rfl (by decide) (by decide) (by decide) k) ?_
  refine GoW.sg (mkF m 18 #[.val (.int 2)] [(.int 2)]) (fun t k => XS.iloadN X0.here hx rfl (hb hby d4_17) rfl k) ?_
  refine GoW.sg (mkF m 19 #[.val (.int 2)] [(.int 2), (.int 2)]) (fun t k => XS.iconst X0.here hx rfl (hb hby d4_18) k) ?_
  refine GoW.sg (mkF m 22 #[.val (.int 2)] []) (fun t k => XS.icmpNo X0.here hx rfl (hb hby d4_19) rfl (by decide) k) ?_
  obtain ⟨T48, X48, e48, st48⟩ := getS (host := "") X0 hx hZ hown (ww hw 40 rfl) Via.refl e0 P0 (g := (mkF m 22 #[.val (.int 2)] [])) rfl (hb hby d4_22)
  refine GoW.sg (mkF m 25 #[.val (.int 2)] [(.ref aB)]) (fun t k => st48 t k) ?_
  refine GoW.retA X48 hx Bd.returns rfl rfl rfl (hb hby d4_25) Bd.notSynchronized ?_ (by decide) (by decide)
  rw [e48]
  exact ⟨rfl, N0, rfl⟩
def QK3 (Z : State) (aH : Addr) (h0 : Heap) (n0 : Nat) (v : Option Value) (h : Heap) (L : List Loc) : Prop := v = some (.ref aH) ∧ Fr n0 L ∧ (h = h0)
theorem ef4_rmK3 (m : MethodId)  : entryFrame m #[(.int (3 : Int32))] 1 = (mkF m 0 #[.val (.int 3)] []) := by first | (simp [entryFrame, mkF, argsToLocals, Value.category, maxLocals]; done) | rfl
set_option maxRecDepth 65536 in
set_option maxHeartbeats 40000000 in
theorem rmK3 (l : Launch) (Z : State) (a0 : Array Value) (hw : ∀ d ∈ tables_1, d.before a0 Z = true) (ws : List Jvm.Cond)  (aH : Addr) (h0 : Heap) (n0 : Nat) (P0 : Sta Z h0 "com/example/lianzhuang/lianzhuang/tile/Suit" "HONOURS" "Lcom/example/lianzhuang/lianzhuang/tile/Suit;" (.ref aH))    :
    MetFree l (⟨"com/example/lianzhuang/lianzhuang/tile/SuitWithLetterPinLaw", "pick", "(I)Lcom/example/lianzhuang/lianzhuang/tile/Suit;"⟩ : MethodName) (head1 (Jvm.Cond.code (⟨"com/example/lianzhuang/lianzhuang/tile/SuitWithLetterPinLaw", "pick", "(I)Lcom/example/lianzhuang/lianzhuang/tile/Suit;"⟩ : MethodName) method_3_code 1 (some (.object "com/example/lianzhuang/lianzhuang/tile/Suit")) :: ws) ({ frames := 0, cells := 0, slots := 0, locals := 0 } : Room)) (fun a U => a = #[(.int (3 : Int32))] ∧ Z.Warmed39 U.vm ∧ U.heap = h0) (fun _ _ _ _ _ => True) (fun _ U o U' => ∃ v L, o = .returned v ∧ (QK3 Z aH h0 n0) v U'.heap L ∧ FrameEnd U o U' L 0 0) := by
  refine MetFree.of_bodySF (plainFor_of_name pn_com_example_lianzhuang_lianzhuang_tile_SuitWithLetterPinLaw) hisR ?_
  intro p e s m args below meth c s₁ Bd hml0 hP hK
  obtain ⟨rfl, hZ, hh⟩ := hP
  have hx := Bd.exec
  have hby := Bd.bytes
  have hml : c.maxLocals = 1 := hml0
  have hown : s.vm.findClass "com/example/lianzhuang/lianzhuang/tile/SuitWithLetterPinLaw" = some m.cls := findClass_of_methodNamed Bd.named
  have hnm := (name_of_methodNamed Bd.named Bd.method).1
  have X0 : Stand p l e ({ frames := 0, cells := 0, slots := 0, locals := 0 } : Room) s m #[(.int (3 : Int32))] below meth c s₁ [] 0 0 := Stand.of_body Bd
  have e0 : s₁.heap = h0 := by rw [← hh, Bd.state]; rfl
  have N0 := Fr.nil n0
  refine GoW.mk ?_
  refine GoW.st (fun t k => castTop (ef4_rmK3 m ) k) ?_
  show GoW p e below s (QK3 Z aH h0 n0) 0 0 (s₁.setTop (mkF m 0 #[.val (.int 3)] []))
  refine GoW.sg (mkF m 1 #[.val (.int 3)] [(.int 3)]) (fun t k => XS.iloadN X0.here hx rfl (hb hby d4_0) rfl k) ?_
  refine GoW.sg (mkF m 8 #[.val (.int 3)] []) (fun t k => XS.ifYes X0.here hx rfl (pc0 := 1) (pc' := 8) rfl (hb hby d4_1) rfl (by decide) (by decide) (by decide) k) ?_
  refine GoW.sg (mkF m 9 #[.val (.int 3)] [(.int 3)]) (fun t k => XS.iloadN X0.here hx rfl (hb hby d4_8) rfl k) ?_
  refine GoW.sg (mkF m 10 #[.val (.int 3)] [(.int 1), (.int 3)]) (fun t k => XS.iconst X0.here hx rfl (hb hby d4_9) k) ?_
  refine GoW.sg (mkF m 17 #[.val (.int 3)] []) (fun t k => XS.icmpYes X0.here hx rfl (pc0 := 10) (pc' := 17) rfl (hb hby d4_10) rfl (by decide) (by decide) (by decide) k) ?_
  refine GoW.sg (mkF m 18 #[.val (.int 3)] [(.int 3)]) (fun t k => XS.iloadN X0.here hx rfl (hb hby d4_17) rfl k) ?_
  refine GoW.sg (mkF m 19 #[.val (.int 3)] [(.int 2), (.int 3)]) (fun t k => XS.iconst X0.here hx rfl (hb hby d4_18) k) ?_
  refine GoW.sg (mkF m 26 #[.val (.int 3)] []) (fun t k => XS.icmpYes X0.here hx rfl (pc0 := 19) (pc' := 26) rfl (hb hby d4_19) rfl (by decide) (by decide) (by decide) k) ?_
  obtain ⟨T49, X49, e49, st49⟩ := getS (host := "") X0 hx hZ hown (ww hw 32 rfl) Via.refl e0 P0 (g := (mkF m 26 #[.val (.int 3)] [])) rfl (hb hby d4_26)
  refine GoW.sg (mkF m 29 #[.val (.int 3)] [(.ref aH)]) (fun t k => st49 t k) ?_
  refine GoW.retA X49 hx Bd.returns rfl rfl rfl (hb hby d4_29) Bd.notSynchronized ?_ (by decide) (by decide)
  rw [e49]
  exact ⟨rfl, N0, rfl⟩
def QL109 (Z : State) (a1 : Addr) (h0 : Heap) (n0 : Nat) (v : Option Value) (h : Heap) (L : List Loc) : Prop := v = some (.int (109 : Int32)) ∧ Fr n0 L ∧ (h = h0)
theorem ef5_rmL109 (m : MethodId) (a1 : Addr) : entryFrame m #[(.ref a1)] 1 = (mkF m 0 #[.val (.ref a1)] []) := by first | (simp [entryFrame, mkF, argsToLocals, Value.category, maxLocals]; done) | rfl
set_option maxRecDepth 65536 in
set_option maxHeartbeats 40000000 in
theorem rmL109 (l : Launch) (Z : State) (a0 : Array Value) (hw : ∀ d ∈ tables_1, d.before a0 Z = true) (ws : List Jvm.Cond) (a1 : Addr)  (h0 : Heap) (n0 : Nat) (P0 : Fld Z h0 a1 "com/example/lianzhuang/lianzhuang/tile/Suit" "letter" "C" (.int (109 : Int32)))    :
    MetFree l (⟨"com/example/lianzhuang/lianzhuang/tile/Suit", "letter", "()C"⟩ : MethodName) (head1 (Jvm.Cond.code (⟨"com/example/lianzhuang/lianzhuang/tile/Suit", "letter", "()C"⟩ : MethodName) prog_42_method_4_code 1 (some .char) :: ws) ({ frames := 0, cells := 0, slots := 0, locals := 0 } : Room)) (fun a U => a = #[(.ref a1)] ∧ Z.Warmed39 U.vm ∧ U.heap = h0) (fun _ _ _ _ _ => True) (fun _ U o U' => ∃ v L, o = .returned v ∧ (QL109 Z a1 h0 n0) v U'.heap L ∧ FrameEnd U o U' L 0 0) := by
  refine MetFree.of_bodySF (plainFor_of_name pn_com_example_lianzhuang_lianzhuang_tile_Suit) hisR ?_
  intro p e s m args below meth c s₁ Bd hml0 hP hK
  obtain ⟨rfl, hZ, hh⟩ := hP
  have hx := Bd.exec
  have hby := Bd.bytes
  have hml : c.maxLocals = 1 := hml0
  have hown : s.vm.findClass "com/example/lianzhuang/lianzhuang/tile/Suit" = some m.cls := findClass_of_methodNamed Bd.named
  have hnm := (name_of_methodNamed Bd.named Bd.method).1
  have X0 : Stand p l e ({ frames := 0, cells := 0, slots := 0, locals := 0 } : Room) s m #[(.ref a1)] below meth c s₁ [] 0 0 := Stand.of_body Bd
  have e0 : s₁.heap = h0 := by rw [← hh, Bd.state]; rfl
  have N0 := Fr.nil n0
  refine GoW.mk ?_
  refine GoW.st (fun t k => castTop (ef5_rmL109 m a1) k) ?_
  show GoW p e below s (QL109 Z a1 h0 n0) 0 0 (s₁.setTop (mkF m 0 #[.val (.ref a1)] []))
  refine GoW.sg (mkF m 1 #[.val (.ref a1)] [(.ref a1)]) (fun t k => XS.aloadN X0.here hx rfl (hb hby d5_0) rfl rfl k) ?_
  obtain ⟨T50, X50, e50, st50⟩ := getF X0 hx hZ hown (host := "") (Or.inl (ww hw 23 rfl)) Via.refl e0 P0 (g := (mkF m 1 #[.val (.ref a1)] [(.ref a1)])) rfl rfl (hb hby d5_1)
  refine GoW.sg (mkF m 4 #[.val (.ref a1)] [(.int 109)]) (fun t k => st50 t k) ?_
  refine GoW.retN X50 hx (t := .char) Bd.returns (by simp) (hb hby d5_4) Bd.notSynchronized ?_ (by decide) (by decide)
  rw [e50]
  exact ⟨rfl, N0, rfl⟩
def QL112 (Z : State) (a1 : Addr) (h0 : Heap) (n0 : Nat) (v : Option Value) (h : Heap) (L : List Loc) : Prop := v = some (.int (112 : Int32)) ∧ Fr n0 L ∧ (h = h0)
theorem ef5_rmL112 (m : MethodId) (a1 : Addr) : entryFrame m #[(.ref a1)] 1 = (mkF m 0 #[.val (.ref a1)] []) := by first | (simp [entryFrame, mkF, argsToLocals, Value.category, maxLocals]; done) | rfl
set_option maxRecDepth 65536 in
set_option maxHeartbeats 40000000 in
theorem rmL112 (l : Launch) (Z : State) (a0 : Array Value) (hw : ∀ d ∈ tables_1, d.before a0 Z = true) (ws : List Jvm.Cond) (a1 : Addr)  (h0 : Heap) (n0 : Nat) (P0 : Fld Z h0 a1 "com/example/lianzhuang/lianzhuang/tile/Suit" "letter" "C" (.int (112 : Int32)))    :
    MetFree l (⟨"com/example/lianzhuang/lianzhuang/tile/Suit", "letter", "()C"⟩ : MethodName) (head1 (Jvm.Cond.code (⟨"com/example/lianzhuang/lianzhuang/tile/Suit", "letter", "()C"⟩ : MethodName) prog_42_method_4_code 1 (some .char) :: ws) ({ frames := 0, cells := 0, slots := 0, locals := 0 } : Room)) (fun a U => a = #[(.ref a1)] ∧ Z.Warmed39 U.vm ∧ U.heap = h0) (fun _ _ _ _ _ => True) (fun _ U o U' => ∃ v L, o = .returned v ∧ (QL112 Z a1 h0 n0) v U'.heap L ∧ FrameEnd U o U' L 0 0) := by
  refine MetFree.of_bodySF (plainFor_of_name pn_com_example_lianzhuang_lianzhuang_tile_Suit) hisR ?_
  intro p e s m args below meth c s₁ Bd hml0 hP hK
  obtain ⟨rfl, hZ, hh⟩ := hP
  have hx := Bd.exec
  have hby := Bd.bytes
  have hml : c.maxLocals = 1 := hml0
  have hown : s.vm.findClass "com/example/lianzhuang/lianzhuang/tile/Suit" = some m.cls := findClass_of_methodNamed Bd.named
  have hnm := (name_of_methodNamed Bd.named Bd.method).1
  have X0 : Stand p l e ({ frames := 0, cells := 0, slots := 0, locals := 0 } : Room) s m #[(.ref a1)] below meth c s₁ [] 0 0 := Stand.of_body Bd
  have e0 : s₁.heap = h0 := by rw [← hh, Bd.state]; rfl
  have N0 := Fr.nil n0
  refine GoW.mk ?_
  refine GoW.st (fun t k => castTop (ef5_rmL112 m a1) k) ?_
  show GoW p e below s (QL112 Z a1 h0 n0) 0 0 (s₁.setTop (mkF m 0 #[.val (.ref a1)] []))
  refine GoW.sg (mkF m 1 #[.val (.ref a1)] [(.ref a1)]) (fun t k => XS.aloadN X0.here hx rfl (hb hby d5_0) rfl rfl k) ?_
  obtain ⟨T51, X51, e51, st51⟩ := getF X0 hx hZ hown (host := "") (Or.inl (ww hw 23 rfl)) Via.refl e0 P0 (g := (mkF m 1 #[.val (.ref a1)] [(.ref a1)])) rfl rfl (hb hby d5_1)
  refine GoW.sg (mkF m 4 #[.val (.ref a1)] [(.int 112)]) (fun t k => st51 t k) ?_
  refine GoW.retN X51 hx (t := .char) Bd.returns (by simp) (hb hby d5_4) Bd.notSynchronized ?_ (by decide) (by decide)
  rw [e51]
  exact ⟨rfl, N0, rfl⟩
def QL115 (Z : State) (a1 : Addr) (h0 : Heap) (n0 : Nat) (v : Option Value) (h : Heap) (L : List Loc) : Prop := v = some (.int (115 : Int32)) ∧ Fr n0 L ∧ (h = h0)
theorem ef5_rmL115 (m : MethodId) (a1 : Addr) : entryFrame m #[(.ref a1)] 1 = (mkF m 0 #[.val (.ref a1)] []) := by first | (simp [entryFrame, mkF, argsToLocals, Value.category, maxLocals]; done) | rfl
set_option maxRecDepth 65536 in
set_option maxHeartbeats 40000000 in
theorem rmL115 (l : Launch) (Z : State) (a0 : Array Value) (hw : ∀ d ∈ tables_1, d.before a0 Z = true) (ws : List Jvm.Cond) (a1 : Addr)  (h0 : Heap) (n0 : Nat) (P0 : Fld Z h0 a1 "com/example/lianzhuang/lianzhuang/tile/Suit" "letter" "C" (.int (115 : Int32)))    :
    MetFree l (⟨"com/example/lianzhuang/lianzhuang/tile/Suit", "letter", "()C"⟩ : MethodName) (head1 (Jvm.Cond.code (⟨"com/example/lianzhuang/lianzhuang/tile/Suit", "letter", "()C"⟩ : MethodName) prog_42_method_4_code 1 (some .char) :: ws) ({ frames := 0, cells := 0, slots := 0, locals := 0 } : Room)) (fun a U => a = #[(.ref a1)] ∧ Z.Warmed39 U.vm ∧ U.heap = h0) (fun _ _ _ _ _ => True) (fun _ U o U' => ∃ v L, o = .returned v ∧ (QL115 Z a1 h0 n0) v U'.heap L ∧ FrameEnd U o U' L 0 0) := by
  refine MetFree.of_bodySF (plainFor_of_name pn_com_example_lianzhuang_lianzhuang_tile_Suit) hisR ?_
  intro p e s m args below meth c s₁ Bd hml0 hP hK
  obtain ⟨rfl, hZ, hh⟩ := hP
  have hx := Bd.exec
  have hby := Bd.bytes
  have hml : c.maxLocals = 1 := hml0
  have hown : s.vm.findClass "com/example/lianzhuang/lianzhuang/tile/Suit" = some m.cls := findClass_of_methodNamed Bd.named
  have hnm := (name_of_methodNamed Bd.named Bd.method).1
  have X0 : Stand p l e ({ frames := 0, cells := 0, slots := 0, locals := 0 } : Room) s m #[(.ref a1)] below meth c s₁ [] 0 0 := Stand.of_body Bd
  have e0 : s₁.heap = h0 := by rw [← hh, Bd.state]; rfl
  have N0 := Fr.nil n0
  refine GoW.mk ?_
  refine GoW.st (fun t k => castTop (ef5_rmL115 m a1) k) ?_
  show GoW p e below s (QL115 Z a1 h0 n0) 0 0 (s₁.setTop (mkF m 0 #[.val (.ref a1)] []))
  refine GoW.sg (mkF m 1 #[.val (.ref a1)] [(.ref a1)]) (fun t k => XS.aloadN X0.here hx rfl (hb hby d5_0) rfl rfl k) ?_
  obtain ⟨T52, X52, e52, st52⟩ := getF X0 hx hZ hown (host := "") (Or.inl (ww hw 23 rfl)) Via.refl e0 P0 (g := (mkF m 1 #[.val (.ref a1)] [(.ref a1)])) rfl rfl (hb hby d5_1)
  refine GoW.sg (mkF m 4 #[.val (.ref a1)] [(.int 115)]) (fun t k => st52 t k) ?_
  refine GoW.retN X52 hx (t := .char) Bd.returns (by simp) (hb hby d5_4) Bd.notSynchronized ?_ (by decide) (by decide)
  rw [e52]
  exact ⟨rfl, N0, rfl⟩
def QL122 (Z : State) (a1 : Addr) (h0 : Heap) (n0 : Nat) (v : Option Value) (h : Heap) (L : List Loc) : Prop := v = some (.int (122 : Int32)) ∧ Fr n0 L ∧ (h = h0)
theorem ef5_rmL122 (m : MethodId) (a1 : Addr) : entryFrame m #[(.ref a1)] 1 = (mkF m 0 #[.val (.ref a1)] []) := by first | (simp [entryFrame, mkF, argsToLocals, Value.category, maxLocals]; done) | rfl
set_option maxRecDepth 65536 in
set_option maxHeartbeats 40000000 in
theorem rmL122 (l : Launch) (Z : State) (a0 : Array Value) (hw : ∀ d ∈ tables_1, d.before a0 Z = true) (ws : List Jvm.Cond) (a1 : Addr)  (h0 : Heap) (n0 : Nat) (P0 : Fld Z h0 a1 "com/example/lianzhuang/lianzhuang/tile/Suit" "letter" "C" (.int (122 : Int32)))    :
    MetFree l (⟨"com/example/lianzhuang/lianzhuang/tile/Suit", "letter", "()C"⟩ : MethodName) (head1 (Jvm.Cond.code (⟨"com/example/lianzhuang/lianzhuang/tile/Suit", "letter", "()C"⟩ : MethodName) prog_42_method_4_code 1 (some .char) :: ws) ({ frames := 0, cells := 0, slots := 0, locals := 0 } : Room)) (fun a U => a = #[(.ref a1)] ∧ Z.Warmed39 U.vm ∧ U.heap = h0) (fun _ _ _ _ _ => True) (fun _ U o U' => ∃ v L, o = .returned v ∧ (QL122 Z a1 h0 n0) v U'.heap L ∧ FrameEnd U o U' L 0 0) := by
  refine MetFree.of_bodySF (plainFor_of_name pn_com_example_lianzhuang_lianzhuang_tile_Suit) hisR ?_
  intro p e s m args below meth c s₁ Bd hml0 hP hK
  obtain ⟨rfl, hZ, hh⟩ := hP
  have hx := Bd.exec
  have hby := Bd.bytes
  have hml : c.maxLocals = 1 := hml0
  have hown : s.vm.findClass "com/example/lianzhuang/lianzhuang/tile/Suit" = some m.cls := findClass_of_methodNamed Bd.named
  have hnm := (name_of_methodNamed Bd.named Bd.method).1
  have X0 : Stand p l e ({ frames := 0, cells := 0, slots := 0, locals := 0 } : Room) s m #[(.ref a1)] below meth c s₁ [] 0 0 := Stand.of_body Bd
  have e0 : s₁.heap = h0 := by rw [← hh, Bd.state]; rfl
  have N0 := Fr.nil n0
  refine GoW.mk ?_
  refine GoW.st (fun t k => castTop (ef5_rmL122 m a1) k) ?_
  show GoW p e below s (QL122 Z a1 h0 n0) 0 0 (s₁.setTop (mkF m 0 #[.val (.ref a1)] []))
  refine GoW.sg (mkF m 1 #[.val (.ref a1)] [(.ref a1)]) (fun t k => XS.aloadN X0.here hx rfl (hb hby d5_0) rfl rfl k) ?_
  obtain ⟨T53, X53, e53, st53⟩ := getF X0 hx hZ hown (host := "") (Or.inl (ww hw 23 rfl)) Via.refl e0 P0 (g := (mkF m 1 #[.val (.ref a1)] [(.ref a1)])) rfl rfl (hb hby d5_1)
  refine GoW.sg (mkF m 4 #[.val (.ref a1)] [(.int 122)]) (fun t k => st53 t k) ?_
  refine GoW.retN X53 hx (t := .char) Bd.returns (by simp) (hb hby d5_4) Bd.notSynchronized ?_ (by decide) (by decide)
  rw [e53]
  exact ⟨rfl, N0, rfl⟩
theorem ef0_rm0 (m : MethodId) (q1 : Int32) (q2 : Int32) : entryFrame m #[(.int q1), (.int q2)] maxLocals = (mkF m 0 #[.val (.int q1), .val (.int q2), .unset, .unset] []) := by first | (simp [entryFrame, mkF, argsToLocals, Value.category, maxLocals]; done) | rfl
set_option maxRecDepth 65536 in
set_option maxHeartbeats 40000000 in
theorem rm0 (l : Launch) (Z : State) (a0 : Array Value) (hw : ∀ d ∈ tables_1, d.before a0 Z = true) (ws : List Jvm.Cond) (q1 : Int32) (q2 : Int32) (aV : Addr) (kV : ClassId) (aC : Addr) (aD : Addr) (aB : Addr) (aH : Addr) (h0 : Heap) (n0 : Nat) (Z0 : n0 ≤ h0.size) (P0 : Sta Z h0 "com/example/lianzhuang/lianzhuang/tile/Suit" "$VALUES" "[Lcom/example/lianzhuang/lianzhuang/tile/Suit;" (.ref aV)) (P1 : Arv Z h0 aV kV (.object "com/example/lianzhuang/lianzhuang/tile/Suit") (4 : Int32) [(.ref aC), (.ref aD), (.ref aB), (.ref aH)] .null) (P2 : Exa Z h0 aV "[Lcom/example/lianzhuang/lianzhuang/tile/Suit;") (P3 : Fld Z h0 aC "com/example/lianzhuang/lianzhuang/tile/Suit" "letter" "C" (.int (109 : Int32))) (P4 : Fld Z h0 aD "com/example/lianzhuang/lianzhuang/tile/Suit" "letter" "C" (.int (112 : Int32))) (P5 : Fld Z h0 aB "com/example/lianzhuang/lianzhuang/tile/Suit" "letter" "C" (.int (115 : Int32))) (P6 : Fld Z h0 aH "com/example/lianzhuang/lianzhuang/tile/Suit" "letter" "C" (.int (122 : Int32))) (P7 : Sta Z h0 "com/example/lianzhuang/lianzhuang/tile/Suit" "CHARACTERS" "Lcom/example/lianzhuang/lianzhuang/tile/Suit;" (.ref aC)) (P8 : Sta Z h0 "com/example/lianzhuang/lianzhuang/tile/Suit" "DOTS" "Lcom/example/lianzhuang/lianzhuang/tile/Suit;" (.ref aD)) (P9 : Sta Z h0 "com/example/lianzhuang/lianzhuang/tile/Suit" "BAMBOO" "Lcom/example/lianzhuang/lianzhuang/tile/Suit;" (.ref aB)) (P10 : Sta Z h0 "com/example/lianzhuang/lianzhuang/tile/Suit" "HONOURS" "Lcom/example/lianzhuang/lianzhuang/tile/Suit;" (.ref aH)) (P11 : Exa Z h0 aC "com/example/lianzhuang/lianzhuang/tile/Suit") (P12 : Exa Z h0 aD "com/example/lianzhuang/lianzhuang/tile/Suit") (P13 : Exa Z h0 aB "com/example/lianzhuang/lianzhuang/tile/Suit") (P14 : Exa Z h0 aH "com/example/lianzhuang/lianzhuang/tile/Suit")   :
    MetFree l x (head1 (Jvm.Cond.code x code maxLocals ret :: ws) room_1) (fun a U => a = #[(.int q1), (.int q2)] ∧ Z.Warmed39 U.vm ∧ U.heap = h0) (fun _ _ _ _ _ => True) (fun _ U o U' => ∃ v L, o = .returned v ∧ (ValQ (.int (1 : Int32)) n0) v U'.heap L ∧ FrameEnd U o U' L room_1.cells room_1.slots) := by
  refine MetFree.of_bodySF (plainFor_of_name pn_com_example_lianzhuang_lianzhuang_tile_SuitWithLetterPinLaw) hisR ?_
  intro p e s m args below meth c s₁ Bd hml0 hP hK
  obtain ⟨rfl, hZ, hh⟩ := hP
  have hx := Bd.exec
  have hby := Bd.bytes
  have hml : c.maxLocals = 4 := hml0
  have hown : s.vm.findClass "com/example/lianzhuang/lianzhuang/tile/SuitWithLetterPinLaw" = some m.cls := findClass_of_methodNamed Bd.named
  have hnm := (name_of_methodNamed Bd.named Bd.method).1
  have X0 : Stand p l e room_1 s m #[(.int q1), (.int q2)] below meth c s₁ [] 0 0 := Stand.of_body Bd
  have e0 : s₁.heap = h0 := by rw [← hh, Bd.state]; rfl
  have N0 := Fr.nil n0
  refine GoW.mk ?_
  refine GoW.st (fun t k => castTop (ef0_rm0 m q1 q2) k) ?_
  show GoW p e below s (ValQ (.int (1 : Int32)) n0) room_1.cells room_1.slots (s₁.setTop (mkF m 0 (Sh5 q1 q2) []))
  refine GoW.sg (mkF m 1 (Sh5 q1 q2) [(.int q1)]) (fun t k => XS.iloadN X0.here hx rfl (hb hby at_0) rfl k) ?_
  refine GoW.sg (mkF m 2 (Sh5 q1 q2) [(.int q1.toUInt32.toUInt16.toUInt32.toInt32)]) (fun t k => XS.i2c X0.here hx rfl (hb hby at_1) rfl k) ?_
  refine GoW.sg (mkF m 3 (Sh6 q1 q2 (q1.toUInt32.toUInt16.toUInt32.toInt32)) []) (fun t k => XS.istoreN X0.here hx rfl (hb hby at_2) rfl (l' := (Sh6 q1 q2 (q1.toUInt32.toUInt16.toUInt32.toInt32))) rfl k) ?_
  obtain ⟨z54, hz54⟩ : ∃ z : Int32, z = q1.toUInt32.toUInt16.toUInt32.toInt32 := ⟨_, rfl⟩
  rw [← hz54]
  show GoW p e below s (ValQ (.int (1 : Int32)) n0) room_1.cells room_1.slots (s₁.setTop (mkF m 3 (Sh6 q1 q2 z54) []))
  by_cases v109 : z54 = (109 : Int32)
  · rw [v109]
    show GoW p e below s (ValQ (.int (1 : Int32)) n0) room_1.cells room_1.slots (s₁.setTop (mkF m 3 (Sh6 q1 q2 109) []))
    refine GoW.sg (mkF m 4 (Sh6 q1 q2 109) [(.int 109)]) (fun t k => XS.iloadN X0.here hx rfl (hb hby at_3) rfl k) ?_
    obtain ⟨_, _, ⟨T55, L55, k55, n55⟩, -, X55, ⟨Lc55, hQ55, l55, y55, z55⟩, st55⟩ := Jvm.LawKit.callS X0 hx (y := (⟨"com/example/lianzhuang/lianzhuang/tile/Suit", "withLetter", "(C)Lcom/example/lianzhuang/lianzhuang/tile/Suit;"⟩ : MethodName)) hown (mvT hZ (ww hw 0 rfl)) (mvT hZ (ww hw 1 rfl)) (mvT hZ (ww hw 2 rfl)) (mvT hZ (ww hw 3 rfl)) (by decide) (backOf (W := 0) (rmW109 l Z a0 hw []  aV kV aC aD aB aH h0 n0 Z0 P0 P1 P2 P3 P4 P5 P6   ) hZ (ww hw 3 rfl) (ww hw 2 rfl) (by decide) (by decide)) (g := (mkF m 4 (Sh6 q1 q2 109) [(.int 109)])) rfl (by rw [hml]; rfl) (argsL := [(.int (109 : Int32))]) (rest := []) (lenOf pd_28C29Lcom2fexample2flianzhuang2flianzhuang2ftile2fSuit3b rfl) rfl (by show 2 * 0 + _ ≤ _; exact Nat.le_of_eq rfl) (hb hby at_4) (fun _ _ => ⟨rfl, e0, (by decide : 0 + 1 ≤ _), (by decide : 0 + 4 ≤ _)⟩)
    dsimp only [Pt.U, Pt.locs, Pt.cells, Pt.slots] at X55 l55 y55 z55 st55 hQ55
    subst l55 y55 z55
    obtain ⟨rfl, N55q, K55⟩ := hQ55
    have N55 := Fr.app N0 N55q
    have Zs_55 : n0 ≤ T55.heap.size := Nat.le_trans Z0 K55.1
    have Sta_com_example_lianzhuang_lianzhuang_tile_Suit_VALUES_55 : Sta Z T55.heap "com/example/lianzhuang/lianzhuang/tile/Suit" "$VALUES" "[Lcom/example/lianzhuang/lianzhuang/tile/Suit;" (.ref aV) := own_staK0 P0 K55
    have Arv_aV_55 : Arv Z T55.heap aV kV (.object "com/example/lianzhuang/lianzhuang/tile/Suit") (4 : Int32) [(.ref aC), (.ref aD), (.ref aB), (.ref aH)] .null := P1.keep K55 nin0
    have Exa_aV_55 : Exa Z T55.heap aV "[Lcom/example/lianzhuang/lianzhuang/tile/Suit;" := P2.keep K55
    have Fld_aC_letter_55 : Fld Z T55.heap aC "com/example/lianzhuang/lianzhuang/tile/Suit" "letter" "C" (.int (109 : Int32)) := P3.keep K55 nin0
    have Fld_aD_letter_55 : Fld Z T55.heap aD "com/example/lianzhuang/lianzhuang/tile/Suit" "letter" "C" (.int (112 : Int32)) := P4.keep K55 nin0
    have Fld_aB_letter_55 : Fld Z T55.heap aB "com/example/lianzhuang/lianzhuang/tile/Suit" "letter" "C" (.int (115 : Int32)) := P5.keep K55 nin0
    have Fld_aH_letter_55 : Fld Z T55.heap aH "com/example/lianzhuang/lianzhuang/tile/Suit" "letter" "C" (.int (122 : Int32)) := P6.keep K55 nin0
    have Sta_com_example_lianzhuang_lianzhuang_tile_Suit_CHARACTERS_55 : Sta Z T55.heap "com/example/lianzhuang/lianzhuang/tile/Suit" "CHARACTERS" "Lcom/example/lianzhuang/lianzhuang/tile/Suit;" (.ref aC) := own_staK0 P7 K55
    have Sta_com_example_lianzhuang_lianzhuang_tile_Suit_DOTS_55 : Sta Z T55.heap "com/example/lianzhuang/lianzhuang/tile/Suit" "DOTS" "Lcom/example/lianzhuang/lianzhuang/tile/Suit;" (.ref aD) := own_staK0 P8 K55
    have Sta_com_example_lianzhuang_lianzhuang_tile_Suit_BAMBOO_55 : Sta Z T55.heap "com/example/lianzhuang/lianzhuang/tile/Suit" "BAMBOO" "Lcom/example/lianzhuang/lianzhuang/tile/Suit;" (.ref aB) := own_staK0 P9 K55
    have Sta_com_example_lianzhuang_lianzhuang_tile_Suit_HONOURS_55 : Sta Z T55.heap "com/example/lianzhuang/lianzhuang/tile/Suit" "HONOURS" "Lcom/example/lianzhuang/lianzhuang/tile/Suit;" (.ref aH) := own_staK0 P10 K55
    have Exa_aC_55 : Exa Z T55.heap aC "com/example/lianzhuang/lianzhuang/tile/Suit" := P11.keep K55
    have Exa_aD_55 : Exa Z T55.heap aD "com/example/lianzhuang/lianzhuang/tile/Suit" := P12.keep K55
    have Exa_aB_55 : Exa Z T55.heap aB "com/example/lianzhuang/lianzhuang/tile/Suit" := P13.keep K55
    have Exa_aH_55 : Exa Z T55.heap aH "com/example/lianzhuang/lianzhuang/tile/Suit" := P14.keep K55
    refine GoW.sg (mkF m 7 (Sh6 q1 q2 109) [(.ref aC)]) (fun t k => st55 t k) ?_
    refine GoW.sg (mkF m 8 (Sh6 q1 q2 109) [(.int 109), (.ref aC)]) (fun t k => XS.iloadN X55.here hx rfl (hb hby at_7) rfl k) ?_
    obtain ⟨_, _, ⟨T56, L56, k56, n56⟩, -, X56, ⟨Lc56, hQ56, l56, y56, z56⟩, st56⟩ := Jvm.LawKit.callS X55 hx (y := (⟨"com/example/lianzhuang/lianzhuang/tile/SuitWithLetterPinLaw", "expectedFor", "(C)Lcom/example/lianzhuang/lianzhuang/tile/Suit;"⟩ : MethodName)) hown (mvT hZ (ww hw 25 rfl)) (mvT hZ (ww hw 26 rfl)) (mvT hZ (ww hw 27 rfl)) (mvT hZ (ww hw 28 rfl)) (by decide) (backOf (W := 1) (rmE109 l Z a0 hw []  aC T55.heap n0  Sta_com_example_lianzhuang_lianzhuang_tile_Suit_CHARACTERS_55   ) hZ (ww hw 28 rfl) (ww hw 27 rfl) (by decide) (by decide)) (g := (mkF m 8 (Sh6 q1 q2 109) [(.int 109), (.ref aC)])) rfl (by rw [hml]; rfl) (argsL := [(.int (109 : Int32))]) (rest := [(.ref aC)]) (lenOf pd_28C29Lcom2fexample2flianzhuang2flianzhuang2ftile2fSuit3b rfl) rfl (by show 2 * 0 + _ ≤ _; exact Nat.le_of_eq rfl) (hb hby at_8) (fun _ _ => ⟨rfl, rfl, (by decide : 1 + 0 ≤ _), (by decide : 4 + 0 ≤ _)⟩)
    dsimp only [Pt.U, Pt.locs, Pt.cells, Pt.slots] at X56 l56 y56 z56 st56 hQ56
    subst l56 y56 z56
    obtain ⟨rfl, N56q, e56⟩ := hQ56
    have N56 := Fr.app N55 N56q
    refine GoW.sg (mkF m 11 (Sh6 q1 q2 109) [(.ref aC), (.ref aC)]) (fun t k => st56 t k) ?_
    refine GoW.sg (mkF m 16 (Sh6 q1 q2 109) []) (fun t k => Jvm.RoadKit.acmp X56 hx rfl (cd := .eq) (x := (.ref aC)) (y := (.ref aC)) rfl rfl (pc0 := 11) (pc' := 16) (same := true) rfl (hb hby at_11) rfl (decide_eq_true rfl) (by decide) (by decide) k) ?_
    refine GoW.sg (mkF m 17 (Sh6 q1 q2 109) [(.int q2)]) (fun t k => XS.iloadN X56.here hx rfl (hb hby at_16) rfl k) ?_
    refine GoW.sg (mkF m 18 (Sh6 q1 q2 109) [(.int 3), (.int q2)]) (fun t k => XS.iconst X56.here hx rfl (hb hby at_17) k) ?_
    refine GoW.sg (mkF m 19 (Sh6 q1 q2 109) [(.int (q2 &&& (3 : Int32)))]) (fun t k => XS.iand X56.here hx rfl (hb hby at_18) rfl k) ?_
    rcases own_and3 q2 with vv | vv | vv | vv
    · rw [vv]
      show GoW p e below s (ValQ (.int (1 : Int32)) n0) room_1.cells room_1.slots (T56.setTop (mkF m 19 (Sh6 q1 q2 109) [(.int 0)]))
      obtain ⟨_, _, ⟨T57, L57, k57, n57⟩, -, X57, ⟨Lc57, hQ57, l57, y57, z57⟩, st57⟩ := Jvm.LawKit.callS X56 hx (y := (⟨"com/example/lianzhuang/lianzhuang/tile/SuitWithLetterPinLaw", "pick", "(I)Lcom/example/lianzhuang/lianzhuang/tile/Suit;"⟩ : MethodName)) hown (mvT hZ (ww hw 29 rfl)) (mvT hZ (ww hw 30 rfl)) (mvT hZ (ww hw 27 rfl)) (mvT hZ (ww hw 31 rfl)) (by decide) (backOf (W := 0) (rmK0 l Z a0 hw []  aC T55.heap n0  Sta_com_example_lianzhuang_lianzhuang_tile_Suit_CHARACTERS_55   ) hZ (ww hw 31 rfl) (ww hw 27 rfl) (by decide) (by decide)) (g := (mkF m 19 (Sh6 q1 q2 109) [(.int 0)])) rfl (by rw [hml]; rfl) (argsL := [(.int (0 : Int32))]) (rest := []) (lenOf pd_28I29Lcom2fexample2flianzhuang2flianzhuang2ftile2fSuit3b rfl) rfl (by show 2 * 0 + _ ≤ _; exact Nat.le_of_eq rfl) (hb hby at_19) (fun _ _ => ⟨rfl, e56, (by decide : 1 + 0 ≤ _), (by decide : 4 + 0 ≤ _)⟩)
      dsimp only [Pt.U, Pt.locs, Pt.cells, Pt.slots] at X57 l57 y57 z57 st57 hQ57
      subst l57 y57 z57
      obtain ⟨rfl, N57q, e57⟩ := hQ57
      have N57 := Fr.app N56 N57q
      refine GoW.sg (mkF m 22 (Sh6 q1 q2 109) [(.ref aC)]) (fun t k => st57 t k) ?_
      refine GoW.sg (mkF m 23 (Sh7 q1 q2 109 aC) []) (fun t k => XS.astoreN X57.here hx rfl (hb hby at_22) rfl rfl (l' := (Sh7 q1 q2 109 aC)) rfl k) ?_
      refine GoW.sg (mkF m 24 (Sh7 q1 q2 109 aC) [(.ref aC)]) (fun t k => XS.aloadN X57.here hx rfl (hb hby at_23) rfl rfl k) ?_
      obtain ⟨cq58, kq58, q58a, q58b, q58c⟩ := isOf hZ e57 Exa_aC_55
      obtain ⟨_, _, ⟨T58, L58, k58, n58⟩, -, X58, ⟨Lc58, hQ58, l58, y58, z58⟩, st58⟩ := X57.virtualBack hx (y := (⟨"com/example/lianzhuang/lianzhuang/tile/Suit", "letter", "()C"⟩ : MethodName)) (z := (⟨"com/example/lianzhuang/lianzhuang/tile/Suit", "letter", "()C"⟩ : MethodName)) hown (mvT hZ (ww hw 33 rfl)) (mvT hZ (ww hw 34 rfl)) (notFace_of_selects (args := #[]) (mvT hZ (ww hw 36 rfl))) (mvT hZ (ww hw 36 rfl)) (mvT hZ (ww hw 35 rfl)) (by decide) (backOf (W := 0) (rmL109 l Z a0 hw [] aC  T55.heap n0  Fld_aC_letter_55   ) hZ (ww hw 37 rfl) (ww hw 2 rfl) (by decide) (by decide)) q58a q58c (g := (mkF m 24 (Sh7 q1 q2 109 aC) [(.ref aC)])) rfl (by rw [hml]; rfl) (Steps.refl _) (argsL := []) (rest := []) (lenOf pd_2829C rfl) rfl (by show 2 * 0 + _ ≤ _; exact Nat.le_of_eq rfl) (hb hby at_24) (fun _ _ => ⟨rfl, e57, (by decide : 1 + 0 ≤ _), (by decide : 4 + 0 ≤ _)⟩)
      dsimp only [Pt.U, Pt.locs, Pt.cells, Pt.slots] at X58 l58 y58 z58 st58 hQ58
      subst l58 y58 z58
      obtain ⟨rfl, N58q, e58⟩ := hQ58
      have N58 := Fr.app N57 N58q
      refine GoW.sg (mkF m 27 (Sh7 q1 q2 109 aC) [(.int 109)]) (fun t k => st58.trans k) ?_
      obtain ⟨_, _, ⟨T59, L59, k59, n59⟩, -, X59, ⟨Lc59, hQ59, l59, y59, z59⟩, st59⟩ := Jvm.LawKit.callS X58 hx (y := (⟨"com/example/lianzhuang/lianzhuang/tile/Suit", "withLetter", "(C)Lcom/example/lianzhuang/lianzhuang/tile/Suit;"⟩ : MethodName)) hown (mvT hZ (ww hw 0 rfl)) (mvT hZ (ww hw 1 rfl)) (mvT hZ (ww hw 2 rfl)) (mvT hZ (ww hw 3 rfl)) (by decide) (backOf (W := 0) (rmW109 l Z a0 hw []  aV kV aC aD aB aH T55.heap n0 Zs_55 Sta_com_example_lianzhuang_lianzhuang_tile_Suit_VALUES_55 Arv_aV_55 Exa_aV_55 Fld_aC_letter_55 Fld_aD_letter_55 Fld_aB_letter_55 Fld_aH_letter_55   ) hZ (ww hw 3 rfl) (ww hw 2 rfl) (by decide) (by decide)) (g := (mkF m 27 (Sh7 q1 q2 109 aC) [(.int 109)])) rfl (by rw [hml]; rfl) (argsL := [(.int (109 : Int32))]) (rest := []) (lenOf pd_28C29Lcom2fexample2flianzhuang2flianzhuang2ftile2fSuit3b rfl) rfl (by show 2 * 0 + _ ≤ _; exact Nat.le_of_eq rfl) (hb hby at_27) (fun _ _ => ⟨rfl, e58, (by decide : 1 + 1 ≤ _), (by decide : 4 + 4 ≤ _)⟩)
      dsimp only [Pt.U, Pt.locs, Pt.cells, Pt.slots] at X59 l59 y59 z59 st59 hQ59
      subst l59 y59 z59
      obtain ⟨rfl, N59q, K59⟩ := hQ59
      have N59 := Fr.app N58 N59q
      have Zs_59 : n0 ≤ T59.heap.size := Nat.le_trans Zs_55 K59.1
      have Sta_com_example_lianzhuang_lianzhuang_tile_Suit_VALUES_59 : Sta Z T59.heap "com/example/lianzhuang/lianzhuang/tile/Suit" "$VALUES" "[Lcom/example/lianzhuang/lianzhuang/tile/Suit;" (.ref aV) := own_staK0 Sta_com_example_lianzhuang_lianzhuang_tile_Suit_VALUES_55 K59
      have Arv_aV_59 : Arv Z T59.heap aV kV (.object "com/example/lianzhuang/lianzhuang/tile/Suit") (4 : Int32) [(.ref aC), (.ref aD), (.ref aB), (.ref aH)] .null := Arv_aV_55.keep K59 nin0
      have Exa_aV_59 : Exa Z T59.heap aV "[Lcom/example/lianzhuang/lianzhuang/tile/Suit;" := Exa_aV_55.keep K59
      have Fld_aC_letter_59 : Fld Z T59.heap aC "com/example/lianzhuang/lianzhuang/tile/Suit" "letter" "C" (.int (109 : Int32)) := Fld_aC_letter_55.keep K59 nin0
      have Fld_aD_letter_59 : Fld Z T59.heap aD "com/example/lianzhuang/lianzhuang/tile/Suit" "letter" "C" (.int (112 : Int32)) := Fld_aD_letter_55.keep K59 nin0
      have Fld_aB_letter_59 : Fld Z T59.heap aB "com/example/lianzhuang/lianzhuang/tile/Suit" "letter" "C" (.int (115 : Int32)) := Fld_aB_letter_55.keep K59 nin0
      have Fld_aH_letter_59 : Fld Z T59.heap aH "com/example/lianzhuang/lianzhuang/tile/Suit" "letter" "C" (.int (122 : Int32)) := Fld_aH_letter_55.keep K59 nin0
      have Sta_com_example_lianzhuang_lianzhuang_tile_Suit_CHARACTERS_59 : Sta Z T59.heap "com/example/lianzhuang/lianzhuang/tile/Suit" "CHARACTERS" "Lcom/example/lianzhuang/lianzhuang/tile/Suit;" (.ref aC) := own_staK0 Sta_com_example_lianzhuang_lianzhuang_tile_Suit_CHARACTERS_55 K59
      have Sta_com_example_lianzhuang_lianzhuang_tile_Suit_DOTS_59 : Sta Z T59.heap "com/example/lianzhuang/lianzhuang/tile/Suit" "DOTS" "Lcom/example/lianzhuang/lianzhuang/tile/Suit;" (.ref aD) := own_staK0 Sta_com_example_lianzhuang_lianzhuang_tile_Suit_DOTS_55 K59
      have Sta_com_example_lianzhuang_lianzhuang_tile_Suit_BAMBOO_59 : Sta Z T59.heap "com/example/lianzhuang/lianzhuang/tile/Suit" "BAMBOO" "Lcom/example/lianzhuang/lianzhuang/tile/Suit;" (.ref aB) := own_staK0 Sta_com_example_lianzhuang_lianzhuang_tile_Suit_BAMBOO_55 K59
      have Sta_com_example_lianzhuang_lianzhuang_tile_Suit_HONOURS_59 : Sta Z T59.heap "com/example/lianzhuang/lianzhuang/tile/Suit" "HONOURS" "Lcom/example/lianzhuang/lianzhuang/tile/Suit;" (.ref aH) := own_staK0 Sta_com_example_lianzhuang_lianzhuang_tile_Suit_HONOURS_55 K59
      have Exa_aC_59 : Exa Z T59.heap aC "com/example/lianzhuang/lianzhuang/tile/Suit" := Exa_aC_55.keep K59
      have Exa_aD_59 : Exa Z T59.heap aD "com/example/lianzhuang/lianzhuang/tile/Suit" := Exa_aD_55.keep K59
      have Exa_aB_59 : Exa Z T59.heap aB "com/example/lianzhuang/lianzhuang/tile/Suit" := Exa_aB_55.keep K59
      have Exa_aH_59 : Exa Z T59.heap aH "com/example/lianzhuang/lianzhuang/tile/Suit" := Exa_aH_55.keep K59
      refine GoW.sg (mkF m 30 (Sh7 q1 q2 109 aC) [(.ref aC)]) (fun t k => st59 t k) ?_
      refine GoW.sg (mkF m 31 (Sh7 q1 q2 109 aC) [(.ref aC), (.ref aC)]) (fun t k => XS.aloadN X59.here hx rfl (hb hby at_30) rfl rfl k) ?_
      refine GoW.sg (mkF m 34 (Sh7 q1 q2 109 aC) []) (fun t k => Jvm.RoadKit.acmp X59 hx rfl (cd := .ne) (x := (.ref aC)) (y := (.ref aC)) rfl rfl (pc0 := 31) (pc' := 34) (same := true) rfl (hb hby at_31) rfl (decide_eq_true rfl) (by decide) (by decide) k) ?_
      refine GoW.sg (mkF m 35 (Sh7 q1 q2 109 aC) [(.int 1)]) (fun t k => XS.iconst X59.here hx rfl (hb hby at_34) k) ?_
      refine GoW.sg (mkF m 39 (Sh7 q1 q2 109 aC) [(.int 1)]) (fun t k => XS.goto X59.here hx rfl (pc0 := 35) (pc' := 39) rfl (hb hby at_35) (by decide) (by decide) k) ?_
      refine GoW.retN X59 hx (t := .boolean) Bd.returns (by simp) (hb hby at_39) Bd.notSynchronized ?_ (by decide) (by decide)
      exact ⟨rfl, N59⟩
    · rw [vv]
      show GoW p e below s (ValQ (.int (1 : Int32)) n0) room_1.cells room_1.slots (T56.setTop (mkF m 19 (Sh6 q1 q2 109) [(.int 1)]))
      obtain ⟨_, _, ⟨T60, L60, k60, n60⟩, -, X60, ⟨Lc60, hQ60, l60, y60, z60⟩, st60⟩ := Jvm.LawKit.callS X56 hx (y := (⟨"com/example/lianzhuang/lianzhuang/tile/SuitWithLetterPinLaw", "pick", "(I)Lcom/example/lianzhuang/lianzhuang/tile/Suit;"⟩ : MethodName)) hown (mvT hZ (ww hw 29 rfl)) (mvT hZ (ww hw 30 rfl)) (mvT hZ (ww hw 27 rfl)) (mvT hZ (ww hw 31 rfl)) (by decide) (backOf (W := 0) (rmK1 l Z a0 hw []  aD T55.heap n0  Sta_com_example_lianzhuang_lianzhuang_tile_Suit_DOTS_55   ) hZ (ww hw 31 rfl) (ww hw 27 rfl) (by decide) (by decide)) (g := (mkF m 19 (Sh6 q1 q2 109) [(.int 1)])) rfl (by rw [hml]; rfl) (argsL := [(.int (1 : Int32))]) (rest := []) (lenOf pd_28I29Lcom2fexample2flianzhuang2flianzhuang2ftile2fSuit3b rfl) rfl (by show 2 * 0 + _ ≤ _; exact Nat.le_of_eq rfl) (hb hby at_19) (fun _ _ => ⟨rfl, e56, (by decide : 1 + 0 ≤ _), (by decide : 4 + 0 ≤ _)⟩)
      dsimp only [Pt.U, Pt.locs, Pt.cells, Pt.slots] at X60 l60 y60 z60 st60 hQ60
      subst l60 y60 z60
      obtain ⟨rfl, N60q, e60⟩ := hQ60
      have N60 := Fr.app N56 N60q
      refine GoW.sg (mkF m 22 (Sh6 q1 q2 109) [(.ref aD)]) (fun t k => st60 t k) ?_
      refine GoW.sg (mkF m 23 (Sh7 q1 q2 109 aD) []) (fun t k => XS.astoreN X60.here hx rfl (hb hby at_22) rfl rfl (l' := (Sh7 q1 q2 109 aD)) rfl k) ?_
      refine GoW.sg (mkF m 24 (Sh7 q1 q2 109 aD) [(.ref aD)]) (fun t k => XS.aloadN X60.here hx rfl (hb hby at_23) rfl rfl k) ?_
      obtain ⟨cq61, kq61, q61a, q61b, q61c⟩ := isOf hZ e60 Exa_aD_55
      obtain ⟨_, _, ⟨T61, L61, k61, n61⟩, -, X61, ⟨Lc61, hQ61, l61, y61, z61⟩, st61⟩ := X60.virtualBack hx (y := (⟨"com/example/lianzhuang/lianzhuang/tile/Suit", "letter", "()C"⟩ : MethodName)) (z := (⟨"com/example/lianzhuang/lianzhuang/tile/Suit", "letter", "()C"⟩ : MethodName)) hown (mvT hZ (ww hw 33 rfl)) (mvT hZ (ww hw 34 rfl)) (notFace_of_selects (args := #[]) (mvT hZ (ww hw 36 rfl))) (mvT hZ (ww hw 36 rfl)) (mvT hZ (ww hw 35 rfl)) (by decide) (backOf (W := 0) (rmL112 l Z a0 hw [] aD  T55.heap n0  Fld_aD_letter_55   ) hZ (ww hw 37 rfl) (ww hw 2 rfl) (by decide) (by decide)) q61a q61c (g := (mkF m 24 (Sh7 q1 q2 109 aD) [(.ref aD)])) rfl (by rw [hml]; rfl) (Steps.refl _) (argsL := []) (rest := []) (lenOf pd_2829C rfl) rfl (by show 2 * 0 + _ ≤ _; exact Nat.le_of_eq rfl) (hb hby at_24) (fun _ _ => ⟨rfl, e60, (by decide : 1 + 0 ≤ _), (by decide : 4 + 0 ≤ _)⟩)
      dsimp only [Pt.U, Pt.locs, Pt.cells, Pt.slots] at X61 l61 y61 z61 st61 hQ61
      subst l61 y61 z61
      obtain ⟨rfl, N61q, e61⟩ := hQ61
      have N61 := Fr.app N60 N61q
      refine GoW.sg (mkF m 27 (Sh7 q1 q2 109 aD) [(.int 112)]) (fun t k => st61.trans k) ?_
      obtain ⟨_, _, ⟨T62, L62, k62, n62⟩, -, X62, ⟨Lc62, hQ62, l62, y62, z62⟩, st62⟩ := Jvm.LawKit.callS X61 hx (y := (⟨"com/example/lianzhuang/lianzhuang/tile/Suit", "withLetter", "(C)Lcom/example/lianzhuang/lianzhuang/tile/Suit;"⟩ : MethodName)) hown (mvT hZ (ww hw 0 rfl)) (mvT hZ (ww hw 1 rfl)) (mvT hZ (ww hw 2 rfl)) (mvT hZ (ww hw 3 rfl)) (by decide) (backOf (W := 0) (rmW112 l Z a0 hw []  aV kV aC aD aB aH T55.heap n0 Zs_55 Sta_com_example_lianzhuang_lianzhuang_tile_Suit_VALUES_55 Arv_aV_55 Exa_aV_55 Fld_aC_letter_55 Fld_aD_letter_55 Fld_aB_letter_55 Fld_aH_letter_55   ) hZ (ww hw 3 rfl) (ww hw 2 rfl) (by decide) (by decide)) (g := (mkF m 27 (Sh7 q1 q2 109 aD) [(.int 112)])) rfl (by rw [hml]; rfl) (argsL := [(.int (112 : Int32))]) (rest := []) (lenOf pd_28C29Lcom2fexample2flianzhuang2flianzhuang2ftile2fSuit3b rfl) rfl (by show 2 * 0 + _ ≤ _; exact Nat.le_of_eq rfl) (hb hby at_27) (fun _ _ => ⟨rfl, e61, (by decide : 1 + 1 ≤ _), (by decide : 4 + 4 ≤ _)⟩)
      dsimp only [Pt.U, Pt.locs, Pt.cells, Pt.slots] at X62 l62 y62 z62 st62 hQ62
      subst l62 y62 z62
      obtain ⟨rfl, N62q, K62⟩ := hQ62
      have N62 := Fr.app N61 N62q
      have Zs_62 : n0 ≤ T62.heap.size := Nat.le_trans Zs_55 K62.1
      have Sta_com_example_lianzhuang_lianzhuang_tile_Suit_VALUES_62 : Sta Z T62.heap "com/example/lianzhuang/lianzhuang/tile/Suit" "$VALUES" "[Lcom/example/lianzhuang/lianzhuang/tile/Suit;" (.ref aV) := own_staK0 Sta_com_example_lianzhuang_lianzhuang_tile_Suit_VALUES_55 K62
      have Arv_aV_62 : Arv Z T62.heap aV kV (.object "com/example/lianzhuang/lianzhuang/tile/Suit") (4 : Int32) [(.ref aC), (.ref aD), (.ref aB), (.ref aH)] .null := Arv_aV_55.keep K62 nin0
      have Exa_aV_62 : Exa Z T62.heap aV "[Lcom/example/lianzhuang/lianzhuang/tile/Suit;" := Exa_aV_55.keep K62
      have Fld_aC_letter_62 : Fld Z T62.heap aC "com/example/lianzhuang/lianzhuang/tile/Suit" "letter" "C" (.int (109 : Int32)) := Fld_aC_letter_55.keep K62 nin0
      have Fld_aD_letter_62 : Fld Z T62.heap aD "com/example/lianzhuang/lianzhuang/tile/Suit" "letter" "C" (.int (112 : Int32)) := Fld_aD_letter_55.keep K62 nin0
      have Fld_aB_letter_62 : Fld Z T62.heap aB "com/example/lianzhuang/lianzhuang/tile/Suit" "letter" "C" (.int (115 : Int32)) := Fld_aB_letter_55.keep K62 nin0
      have Fld_aH_letter_62 : Fld Z T62.heap aH "com/example/lianzhuang/lianzhuang/tile/Suit" "letter" "C" (.int (122 : Int32)) := Fld_aH_letter_55.keep K62 nin0
      have Sta_com_example_lianzhuang_lianzhuang_tile_Suit_CHARACTERS_62 : Sta Z T62.heap "com/example/lianzhuang/lianzhuang/tile/Suit" "CHARACTERS" "Lcom/example/lianzhuang/lianzhuang/tile/Suit;" (.ref aC) := own_staK0 Sta_com_example_lianzhuang_lianzhuang_tile_Suit_CHARACTERS_55 K62
      have Sta_com_example_lianzhuang_lianzhuang_tile_Suit_DOTS_62 : Sta Z T62.heap "com/example/lianzhuang/lianzhuang/tile/Suit" "DOTS" "Lcom/example/lianzhuang/lianzhuang/tile/Suit;" (.ref aD) := own_staK0 Sta_com_example_lianzhuang_lianzhuang_tile_Suit_DOTS_55 K62
      have Sta_com_example_lianzhuang_lianzhuang_tile_Suit_BAMBOO_62 : Sta Z T62.heap "com/example/lianzhuang/lianzhuang/tile/Suit" "BAMBOO" "Lcom/example/lianzhuang/lianzhuang/tile/Suit;" (.ref aB) := own_staK0 Sta_com_example_lianzhuang_lianzhuang_tile_Suit_BAMBOO_55 K62
      have Sta_com_example_lianzhuang_lianzhuang_tile_Suit_HONOURS_62 : Sta Z T62.heap "com/example/lianzhuang/lianzhuang/tile/Suit" "HONOURS" "Lcom/example/lianzhuang/lianzhuang/tile/Suit;" (.ref aH) := own_staK0 Sta_com_example_lianzhuang_lianzhuang_tile_Suit_HONOURS_55 K62
      have Exa_aC_62 : Exa Z T62.heap aC "com/example/lianzhuang/lianzhuang/tile/Suit" := Exa_aC_55.keep K62
      have Exa_aD_62 : Exa Z T62.heap aD "com/example/lianzhuang/lianzhuang/tile/Suit" := Exa_aD_55.keep K62
      have Exa_aB_62 : Exa Z T62.heap aB "com/example/lianzhuang/lianzhuang/tile/Suit" := Exa_aB_55.keep K62
      have Exa_aH_62 : Exa Z T62.heap aH "com/example/lianzhuang/lianzhuang/tile/Suit" := Exa_aH_55.keep K62
      refine GoW.sg (mkF m 30 (Sh7 q1 q2 109 aD) [(.ref aD)]) (fun t k => st62 t k) ?_
      refine GoW.sg (mkF m 31 (Sh7 q1 q2 109 aD) [(.ref aD), (.ref aD)]) (fun t k => XS.aloadN X62.here hx rfl (hb hby at_30) rfl rfl k) ?_
      refine GoW.sg (mkF m 34 (Sh7 q1 q2 109 aD) []) (fun t k => Jvm.RoadKit.acmp X62 hx rfl (cd := .ne) (x := (.ref aD)) (y := (.ref aD)) rfl rfl (pc0 := 31) (pc' := 34) (same := true) rfl (hb hby at_31) rfl (decide_eq_true rfl) (by decide) (by decide) k) ?_
      refine GoW.sg (mkF m 35 (Sh7 q1 q2 109 aD) [(.int 1)]) (fun t k => XS.iconst X62.here hx rfl (hb hby at_34) k) ?_
      refine GoW.sg (mkF m 39 (Sh7 q1 q2 109 aD) [(.int 1)]) (fun t k => XS.goto X62.here hx rfl (pc0 := 35) (pc' := 39) rfl (hb hby at_35) (by decide) (by decide) k) ?_
      refine GoW.retN X62 hx (t := .boolean) Bd.returns (by simp) (hb hby at_39) Bd.notSynchronized ?_ (by decide) (by decide)
      exact ⟨rfl, N62⟩
    · rw [vv]
      show GoW p e below s (ValQ (.int (1 : Int32)) n0) room_1.cells room_1.slots (T56.setTop (mkF m 19 (Sh6 q1 q2 109) [(.int 2)]))
      obtain ⟨_, _, ⟨T63, L63, k63, n63⟩, -, X63, ⟨Lc63, hQ63, l63, y63, z63⟩, st63⟩ := Jvm.LawKit.callS X56 hx (y := (⟨"com/example/lianzhuang/lianzhuang/tile/SuitWithLetterPinLaw", "pick", "(I)Lcom/example/lianzhuang/lianzhuang/tile/Suit;"⟩ : MethodName)) hown (mvT hZ (ww hw 29 rfl)) (mvT hZ (ww hw 30 rfl)) (mvT hZ (ww hw 27 rfl)) (mvT hZ (ww hw 31 rfl)) (by decide) (backOf (W := 0) (rmK2 l Z a0 hw []  aB T55.heap n0  Sta_com_example_lianzhuang_lianzhuang_tile_Suit_BAMBOO_55   ) hZ (ww hw 31 rfl) (ww hw 27 rfl) (by decide) (by decide)) (g := (mkF m 19 (Sh6 q1 q2 109) [(.int 2)])) rfl (by rw [hml]; rfl) (argsL := [(.int (2 : Int32))]) (rest := []) (lenOf pd_28I29Lcom2fexample2flianzhuang2flianzhuang2ftile2fSuit3b rfl) rfl (by show 2 * 0 + _ ≤ _; exact Nat.le_of_eq rfl) (hb hby at_19) (fun _ _ => ⟨rfl, e56, (by decide : 1 + 0 ≤ _), (by decide : 4 + 0 ≤ _)⟩)
      dsimp only [Pt.U, Pt.locs, Pt.cells, Pt.slots] at X63 l63 y63 z63 st63 hQ63
      subst l63 y63 z63
      obtain ⟨rfl, N63q, e63⟩ := hQ63
      have N63 := Fr.app N56 N63q
      refine GoW.sg (mkF m 22 (Sh6 q1 q2 109) [(.ref aB)]) (fun t k => st63 t k) ?_
      refine GoW.sg (mkF m 23 (Sh7 q1 q2 109 aB) []) (fun t k => XS.astoreN X63.here hx rfl (hb hby at_22) rfl rfl (l' := (Sh7 q1 q2 109 aB)) rfl k) ?_
      refine GoW.sg (mkF m 24 (Sh7 q1 q2 109 aB) [(.ref aB)]) (fun t k => XS.aloadN X63.here hx rfl (hb hby at_23) rfl rfl k) ?_
      obtain ⟨cq64, kq64, q64a, q64b, q64c⟩ := isOf hZ e63 Exa_aB_55
      obtain ⟨_, _, ⟨T64, L64, k64, n64⟩, -, X64, ⟨Lc64, hQ64, l64, y64, z64⟩, st64⟩ := X63.virtualBack hx (y := (⟨"com/example/lianzhuang/lianzhuang/tile/Suit", "letter", "()C"⟩ : MethodName)) (z := (⟨"com/example/lianzhuang/lianzhuang/tile/Suit", "letter", "()C"⟩ : MethodName)) hown (mvT hZ (ww hw 33 rfl)) (mvT hZ (ww hw 34 rfl)) (notFace_of_selects (args := #[]) (mvT hZ (ww hw 36 rfl))) (mvT hZ (ww hw 36 rfl)) (mvT hZ (ww hw 35 rfl)) (by decide) (backOf (W := 0) (rmL115 l Z a0 hw [] aB  T55.heap n0  Fld_aB_letter_55   ) hZ (ww hw 37 rfl) (ww hw 2 rfl) (by decide) (by decide)) q64a q64c (g := (mkF m 24 (Sh7 q1 q2 109 aB) [(.ref aB)])) rfl (by rw [hml]; rfl) (Steps.refl _) (argsL := []) (rest := []) (lenOf pd_2829C rfl) rfl (by show 2 * 0 + _ ≤ _; exact Nat.le_of_eq rfl) (hb hby at_24) (fun _ _ => ⟨rfl, e63, (by decide : 1 + 0 ≤ _), (by decide : 4 + 0 ≤ _)⟩)
      dsimp only [Pt.U, Pt.locs, Pt.cells, Pt.slots] at X64 l64 y64 z64 st64 hQ64
      subst l64 y64 z64
      obtain ⟨rfl, N64q, e64⟩ := hQ64
      have N64 := Fr.app N63 N64q
      refine GoW.sg (mkF m 27 (Sh7 q1 q2 109 aB) [(.int 115)]) (fun t k => st64.trans k) ?_
      obtain ⟨_, _, ⟨T65, L65, k65, n65⟩, -, X65, ⟨Lc65, hQ65, l65, y65, z65⟩, st65⟩ := Jvm.LawKit.callS X64 hx (y := (⟨"com/example/lianzhuang/lianzhuang/tile/Suit", "withLetter", "(C)Lcom/example/lianzhuang/lianzhuang/tile/Suit;"⟩ : MethodName)) hown (mvT hZ (ww hw 0 rfl)) (mvT hZ (ww hw 1 rfl)) (mvT hZ (ww hw 2 rfl)) (mvT hZ (ww hw 3 rfl)) (by decide) (backOf (W := 0) (rmW115 l Z a0 hw []  aV kV aC aD aB aH T55.heap n0 Zs_55 Sta_com_example_lianzhuang_lianzhuang_tile_Suit_VALUES_55 Arv_aV_55 Exa_aV_55 Fld_aC_letter_55 Fld_aD_letter_55 Fld_aB_letter_55 Fld_aH_letter_55   ) hZ (ww hw 3 rfl) (ww hw 2 rfl) (by decide) (by decide)) (g := (mkF m 27 (Sh7 q1 q2 109 aB) [(.int 115)])) rfl (by rw [hml]; rfl) (argsL := [(.int (115 : Int32))]) (rest := []) (lenOf pd_28C29Lcom2fexample2flianzhuang2flianzhuang2ftile2fSuit3b rfl) rfl (by show 2 * 0 + _ ≤ _; exact Nat.le_of_eq rfl) (hb hby at_27) (fun _ _ => ⟨rfl, e64, (by decide : 1 + 1 ≤ _), (by decide : 4 + 4 ≤ _)⟩)
      dsimp only [Pt.U, Pt.locs, Pt.cells, Pt.slots] at X65 l65 y65 z65 st65 hQ65
      subst l65 y65 z65
      obtain ⟨rfl, N65q, K65⟩ := hQ65
      have N65 := Fr.app N64 N65q
      have Zs_65 : n0 ≤ T65.heap.size := Nat.le_trans Zs_55 K65.1
      have Sta_com_example_lianzhuang_lianzhuang_tile_Suit_VALUES_65 : Sta Z T65.heap "com/example/lianzhuang/lianzhuang/tile/Suit" "$VALUES" "[Lcom/example/lianzhuang/lianzhuang/tile/Suit;" (.ref aV) := own_staK0 Sta_com_example_lianzhuang_lianzhuang_tile_Suit_VALUES_55 K65
      have Arv_aV_65 : Arv Z T65.heap aV kV (.object "com/example/lianzhuang/lianzhuang/tile/Suit") (4 : Int32) [(.ref aC), (.ref aD), (.ref aB), (.ref aH)] .null := Arv_aV_55.keep K65 nin0
      have Exa_aV_65 : Exa Z T65.heap aV "[Lcom/example/lianzhuang/lianzhuang/tile/Suit;" := Exa_aV_55.keep K65
      have Fld_aC_letter_65 : Fld Z T65.heap aC "com/example/lianzhuang/lianzhuang/tile/Suit" "letter" "C" (.int (109 : Int32)) := Fld_aC_letter_55.keep K65 nin0
      have Fld_aD_letter_65 : Fld Z T65.heap aD "com/example/lianzhuang/lianzhuang/tile/Suit" "letter" "C" (.int (112 : Int32)) := Fld_aD_letter_55.keep K65 nin0
      have Fld_aB_letter_65 : Fld Z T65.heap aB "com/example/lianzhuang/lianzhuang/tile/Suit" "letter" "C" (.int (115 : Int32)) := Fld_aB_letter_55.keep K65 nin0
      have Fld_aH_letter_65 : Fld Z T65.heap aH "com/example/lianzhuang/lianzhuang/tile/Suit" "letter" "C" (.int (122 : Int32)) := Fld_aH_letter_55.keep K65 nin0
      have Sta_com_example_lianzhuang_lianzhuang_tile_Suit_CHARACTERS_65 : Sta Z T65.heap "com/example/lianzhuang/lianzhuang/tile/Suit" "CHARACTERS" "Lcom/example/lianzhuang/lianzhuang/tile/Suit;" (.ref aC) := own_staK0 Sta_com_example_lianzhuang_lianzhuang_tile_Suit_CHARACTERS_55 K65
      have Sta_com_example_lianzhuang_lianzhuang_tile_Suit_DOTS_65 : Sta Z T65.heap "com/example/lianzhuang/lianzhuang/tile/Suit" "DOTS" "Lcom/example/lianzhuang/lianzhuang/tile/Suit;" (.ref aD) := own_staK0 Sta_com_example_lianzhuang_lianzhuang_tile_Suit_DOTS_55 K65
      have Sta_com_example_lianzhuang_lianzhuang_tile_Suit_BAMBOO_65 : Sta Z T65.heap "com/example/lianzhuang/lianzhuang/tile/Suit" "BAMBOO" "Lcom/example/lianzhuang/lianzhuang/tile/Suit;" (.ref aB) := own_staK0 Sta_com_example_lianzhuang_lianzhuang_tile_Suit_BAMBOO_55 K65
      have Sta_com_example_lianzhuang_lianzhuang_tile_Suit_HONOURS_65 : Sta Z T65.heap "com/example/lianzhuang/lianzhuang/tile/Suit" "HONOURS" "Lcom/example/lianzhuang/lianzhuang/tile/Suit;" (.ref aH) := own_staK0 Sta_com_example_lianzhuang_lianzhuang_tile_Suit_HONOURS_55 K65
      have Exa_aC_65 : Exa Z T65.heap aC "com/example/lianzhuang/lianzhuang/tile/Suit" := Exa_aC_55.keep K65
      have Exa_aD_65 : Exa Z T65.heap aD "com/example/lianzhuang/lianzhuang/tile/Suit" := Exa_aD_55.keep K65
      have Exa_aB_65 : Exa Z T65.heap aB "com/example/lianzhuang/lianzhuang/tile/Suit" := Exa_aB_55.keep K65
      have Exa_aH_65 : Exa Z T65.heap aH "com/example/lianzhuang/lianzhuang/tile/Suit" := Exa_aH_55.keep K65
      refine GoW.sg (mkF m 30 (Sh7 q1 q2 109 aB) [(.ref aB)]) (fun t k => st65 t k) ?_
      refine GoW.sg (mkF m 31 (Sh7 q1 q2 109 aB) [(.ref aB), (.ref aB)]) (fun t k => XS.aloadN X65.here hx rfl (hb hby at_30) rfl rfl k) ?_
      refine GoW.sg (mkF m 34 (Sh7 q1 q2 109 aB) []) (fun t k => Jvm.RoadKit.acmp X65 hx rfl (cd := .ne) (x := (.ref aB)) (y := (.ref aB)) rfl rfl (pc0 := 31) (pc' := 34) (same := true) rfl (hb hby at_31) rfl (decide_eq_true rfl) (by decide) (by decide) k) ?_
      refine GoW.sg (mkF m 35 (Sh7 q1 q2 109 aB) [(.int 1)]) (fun t k => XS.iconst X65.here hx rfl (hb hby at_34) k) ?_
      refine GoW.sg (mkF m 39 (Sh7 q1 q2 109 aB) [(.int 1)]) (fun t k => XS.goto X65.here hx rfl (pc0 := 35) (pc' := 39) rfl (hb hby at_35) (by decide) (by decide) k) ?_
      refine GoW.retN X65 hx (t := .boolean) Bd.returns (by simp) (hb hby at_39) Bd.notSynchronized ?_ (by decide) (by decide)
      exact ⟨rfl, N65⟩
    · rw [vv]
      show GoW p e below s (ValQ (.int (1 : Int32)) n0) room_1.cells room_1.slots (T56.setTop (mkF m 19 (Sh6 q1 q2 109) [(.int 3)]))
      obtain ⟨_, _, ⟨T66, L66, k66, n66⟩, -, X66, ⟨Lc66, hQ66, l66, y66, z66⟩, st66⟩ := Jvm.LawKit.callS X56 hx (y := (⟨"com/example/lianzhuang/lianzhuang/tile/SuitWithLetterPinLaw", "pick", "(I)Lcom/example/lianzhuang/lianzhuang/tile/Suit;"⟩ : MethodName)) hown (mvT hZ (ww hw 29 rfl)) (mvT hZ (ww hw 30 rfl)) (mvT hZ (ww hw 27 rfl)) (mvT hZ (ww hw 31 rfl)) (by decide) (backOf (W := 0) (rmK3 l Z a0 hw []  aH T55.heap n0  Sta_com_example_lianzhuang_lianzhuang_tile_Suit_HONOURS_55   ) hZ (ww hw 31 rfl) (ww hw 27 rfl) (by decide) (by decide)) (g := (mkF m 19 (Sh6 q1 q2 109) [(.int 3)])) rfl (by rw [hml]; rfl) (argsL := [(.int (3 : Int32))]) (rest := []) (lenOf pd_28I29Lcom2fexample2flianzhuang2flianzhuang2ftile2fSuit3b rfl) rfl (by show 2 * 0 + _ ≤ _; exact Nat.le_of_eq rfl) (hb hby at_19) (fun _ _ => ⟨rfl, e56, (by decide : 1 + 0 ≤ _), (by decide : 4 + 0 ≤ _)⟩)
      dsimp only [Pt.U, Pt.locs, Pt.cells, Pt.slots] at X66 l66 y66 z66 st66 hQ66
      subst l66 y66 z66
      obtain ⟨rfl, N66q, e66⟩ := hQ66
      have N66 := Fr.app N56 N66q
      refine GoW.sg (mkF m 22 (Sh6 q1 q2 109) [(.ref aH)]) (fun t k => st66 t k) ?_
      refine GoW.sg (mkF m 23 (Sh7 q1 q2 109 aH) []) (fun t k => XS.astoreN X66.here hx rfl (hb hby at_22) rfl rfl (l' := (Sh7 q1 q2 109 aH)) rfl k) ?_
      refine GoW.sg (mkF m 24 (Sh7 q1 q2 109 aH) [(.ref aH)]) (fun t k => XS.aloadN X66.here hx rfl (hb hby at_23) rfl rfl k) ?_
      obtain ⟨cq67, kq67, q67a, q67b, q67c⟩ := isOf hZ e66 Exa_aH_55
      obtain ⟨_, _, ⟨T67, L67, k67, n67⟩, -, X67, ⟨Lc67, hQ67, l67, y67, z67⟩, st67⟩ := X66.virtualBack hx (y := (⟨"com/example/lianzhuang/lianzhuang/tile/Suit", "letter", "()C"⟩ : MethodName)) (z := (⟨"com/example/lianzhuang/lianzhuang/tile/Suit", "letter", "()C"⟩ : MethodName)) hown (mvT hZ (ww hw 33 rfl)) (mvT hZ (ww hw 34 rfl)) (notFace_of_selects (args := #[]) (mvT hZ (ww hw 36 rfl))) (mvT hZ (ww hw 36 rfl)) (mvT hZ (ww hw 35 rfl)) (by decide) (backOf (W := 0) (rmL122 l Z a0 hw [] aH  T55.heap n0  Fld_aH_letter_55   ) hZ (ww hw 37 rfl) (ww hw 2 rfl) (by decide) (by decide)) q67a q67c (g := (mkF m 24 (Sh7 q1 q2 109 aH) [(.ref aH)])) rfl (by rw [hml]; rfl) (Steps.refl _) (argsL := []) (rest := []) (lenOf pd_2829C rfl) rfl (by show 2 * 0 + _ ≤ _; exact Nat.le_of_eq rfl) (hb hby at_24) (fun _ _ => ⟨rfl, e66, (by decide : 1 + 0 ≤ _), (by decide : 4 + 0 ≤ _)⟩)
      dsimp only [Pt.U, Pt.locs, Pt.cells, Pt.slots] at X67 l67 y67 z67 st67 hQ67
      subst l67 y67 z67
      obtain ⟨rfl, N67q, e67⟩ := hQ67
      have N67 := Fr.app N66 N67q
      refine GoW.sg (mkF m 27 (Sh7 q1 q2 109 aH) [(.int 122)]) (fun t k => st67.trans k) ?_
      obtain ⟨_, _, ⟨T68, L68, k68, n68⟩, -, X68, ⟨Lc68, hQ68, l68, y68, z68⟩, st68⟩ := Jvm.LawKit.callS X67 hx (y := (⟨"com/example/lianzhuang/lianzhuang/tile/Suit", "withLetter", "(C)Lcom/example/lianzhuang/lianzhuang/tile/Suit;"⟩ : MethodName)) hown (mvT hZ (ww hw 0 rfl)) (mvT hZ (ww hw 1 rfl)) (mvT hZ (ww hw 2 rfl)) (mvT hZ (ww hw 3 rfl)) (by decide) (backOf (W := 0) (rmW122 l Z a0 hw []  aV kV aC aD aB aH T55.heap n0 Zs_55 Sta_com_example_lianzhuang_lianzhuang_tile_Suit_VALUES_55 Arv_aV_55 Exa_aV_55 Fld_aC_letter_55 Fld_aD_letter_55 Fld_aB_letter_55 Fld_aH_letter_55   ) hZ (ww hw 3 rfl) (ww hw 2 rfl) (by decide) (by decide)) (g := (mkF m 27 (Sh7 q1 q2 109 aH) [(.int 122)])) rfl (by rw [hml]; rfl) (argsL := [(.int (122 : Int32))]) (rest := []) (lenOf pd_28C29Lcom2fexample2flianzhuang2flianzhuang2ftile2fSuit3b rfl) rfl (by show 2 * 0 + _ ≤ _; exact Nat.le_of_eq rfl) (hb hby at_27) (fun _ _ => ⟨rfl, e67, (by decide : 1 + 1 ≤ _), (by decide : 4 + 4 ≤ _)⟩)
      dsimp only [Pt.U, Pt.locs, Pt.cells, Pt.slots] at X68 l68 y68 z68 st68 hQ68
      subst l68 y68 z68
      obtain ⟨rfl, N68q, K68⟩ := hQ68
      have N68 := Fr.app N67 N68q
      have Zs_68 : n0 ≤ T68.heap.size := Nat.le_trans Zs_55 K68.1
      have Sta_com_example_lianzhuang_lianzhuang_tile_Suit_VALUES_68 : Sta Z T68.heap "com/example/lianzhuang/lianzhuang/tile/Suit" "$VALUES" "[Lcom/example/lianzhuang/lianzhuang/tile/Suit;" (.ref aV) := own_staK0 Sta_com_example_lianzhuang_lianzhuang_tile_Suit_VALUES_55 K68
      have Arv_aV_68 : Arv Z T68.heap aV kV (.object "com/example/lianzhuang/lianzhuang/tile/Suit") (4 : Int32) [(.ref aC), (.ref aD), (.ref aB), (.ref aH)] .null := Arv_aV_55.keep K68 nin0
      have Exa_aV_68 : Exa Z T68.heap aV "[Lcom/example/lianzhuang/lianzhuang/tile/Suit;" := Exa_aV_55.keep K68
      have Fld_aC_letter_68 : Fld Z T68.heap aC "com/example/lianzhuang/lianzhuang/tile/Suit" "letter" "C" (.int (109 : Int32)) := Fld_aC_letter_55.keep K68 nin0
      have Fld_aD_letter_68 : Fld Z T68.heap aD "com/example/lianzhuang/lianzhuang/tile/Suit" "letter" "C" (.int (112 : Int32)) := Fld_aD_letter_55.keep K68 nin0
      have Fld_aB_letter_68 : Fld Z T68.heap aB "com/example/lianzhuang/lianzhuang/tile/Suit" "letter" "C" (.int (115 : Int32)) := Fld_aB_letter_55.keep K68 nin0
      have Fld_aH_letter_68 : Fld Z T68.heap aH "com/example/lianzhuang/lianzhuang/tile/Suit" "letter" "C" (.int (122 : Int32)) := Fld_aH_letter_55.keep K68 nin0
      have Sta_com_example_lianzhuang_lianzhuang_tile_Suit_CHARACTERS_68 : Sta Z T68.heap "com/example/lianzhuang/lianzhuang/tile/Suit" "CHARACTERS" "Lcom/example/lianzhuang/lianzhuang/tile/Suit;" (.ref aC) := own_staK0 Sta_com_example_lianzhuang_lianzhuang_tile_Suit_CHARACTERS_55 K68
      have Sta_com_example_lianzhuang_lianzhuang_tile_Suit_DOTS_68 : Sta Z T68.heap "com/example/lianzhuang/lianzhuang/tile/Suit" "DOTS" "Lcom/example/lianzhuang/lianzhuang/tile/Suit;" (.ref aD) := own_staK0 Sta_com_example_lianzhuang_lianzhuang_tile_Suit_DOTS_55 K68
      have Sta_com_example_lianzhuang_lianzhuang_tile_Suit_BAMBOO_68 : Sta Z T68.heap "com/example/lianzhuang/lianzhuang/tile/Suit" "BAMBOO" "Lcom/example/lianzhuang/lianzhuang/tile/Suit;" (.ref aB) := own_staK0 Sta_com_example_lianzhuang_lianzhuang_tile_Suit_BAMBOO_55 K68
      have Sta_com_example_lianzhuang_lianzhuang_tile_Suit_HONOURS_68 : Sta Z T68.heap "com/example/lianzhuang/lianzhuang/tile/Suit" "HONOURS" "Lcom/example/lianzhuang/lianzhuang/tile/Suit;" (.ref aH) := own_staK0 Sta_com_example_lianzhuang_lianzhuang_tile_Suit_HONOURS_55 K68
      have Exa_aC_68 : Exa Z T68.heap aC "com/example/lianzhuang/lianzhuang/tile/Suit" := Exa_aC_55.keep K68
      have Exa_aD_68 : Exa Z T68.heap aD "com/example/lianzhuang/lianzhuang/tile/Suit" := Exa_aD_55.keep K68
      have Exa_aB_68 : Exa Z T68.heap aB "com/example/lianzhuang/lianzhuang/tile/Suit" := Exa_aB_55.keep K68
      have Exa_aH_68 : Exa Z T68.heap aH "com/example/lianzhuang/lianzhuang/tile/Suit" := Exa_aH_55.keep K68
      refine GoW.sg (mkF m 30 (Sh7 q1 q2 109 aH) [(.ref aH)]) (fun t k => st68 t k) ?_
      refine GoW.sg (mkF m 31 (Sh7 q1 q2 109 aH) [(.ref aH), (.ref aH)]) (fun t k => XS.aloadN X68.here hx rfl (hb hby at_30) rfl rfl k) ?_
      refine GoW.sg (mkF m 34 (Sh7 q1 q2 109 aH) []) (fun t k => Jvm.RoadKit.acmp X68 hx rfl (cd := .ne) (x := (.ref aH)) (y := (.ref aH)) rfl rfl (pc0 := 31) (pc' := 34) (same := true) rfl (hb hby at_31) rfl (decide_eq_true rfl) (by decide) (by decide) k) ?_
      refine GoW.sg (mkF m 35 (Sh7 q1 q2 109 aH) [(.int 1)]) (fun t k => XS.iconst X68.here hx rfl (hb hby at_34) k) ?_
      refine GoW.sg (mkF m 39 (Sh7 q1 q2 109 aH) [(.int 1)]) (fun t k => XS.goto X68.here hx rfl (pc0 := 35) (pc' := 39) rfl (hb hby at_35) (by decide) (by decide) k) ?_
      refine GoW.retN X68 hx (t := .boolean) Bd.returns (by simp) (hb hby at_39) Bd.notSynchronized ?_ (by decide) (by decide)
      exact ⟨rfl, N68⟩
  · by_cases v112 : z54 = (112 : Int32)
    · rw [v112]
      show GoW p e below s (ValQ (.int (1 : Int32)) n0) room_1.cells room_1.slots (s₁.setTop (mkF m 3 (Sh6 q1 q2 112) []))
      refine GoW.sg (mkF m 4 (Sh6 q1 q2 112) [(.int 112)]) (fun t k => XS.iloadN X0.here hx rfl (hb hby at_3) rfl k) ?_
      obtain ⟨_, _, ⟨T69, L69, k69, n69⟩, -, X69, ⟨Lc69, hQ69, l69, y69, z69⟩, st69⟩ := Jvm.LawKit.callS X0 hx (y := (⟨"com/example/lianzhuang/lianzhuang/tile/Suit", "withLetter", "(C)Lcom/example/lianzhuang/lianzhuang/tile/Suit;"⟩ : MethodName)) hown (mvT hZ (ww hw 0 rfl)) (mvT hZ (ww hw 1 rfl)) (mvT hZ (ww hw 2 rfl)) (mvT hZ (ww hw 3 rfl)) (by decide) (backOf (W := 0) (rmW112 l Z a0 hw []  aV kV aC aD aB aH h0 n0 Z0 P0 P1 P2 P3 P4 P5 P6   ) hZ (ww hw 3 rfl) (ww hw 2 rfl) (by decide) (by decide)) (g := (mkF m 4 (Sh6 q1 q2 112) [(.int 112)])) rfl (by rw [hml]; rfl) (argsL := [(.int (112 : Int32))]) (rest := []) (lenOf pd_28C29Lcom2fexample2flianzhuang2flianzhuang2ftile2fSuit3b rfl) rfl (by show 2 * 0 + _ ≤ _; exact Nat.le_of_eq rfl) (hb hby at_4) (fun _ _ => ⟨rfl, e0, (by decide : 0 + 1 ≤ _), (by decide : 0 + 4 ≤ _)⟩)
      dsimp only [Pt.U, Pt.locs, Pt.cells, Pt.slots] at X69 l69 y69 z69 st69 hQ69
      subst l69 y69 z69
      obtain ⟨rfl, N69q, K69⟩ := hQ69
      have N69 := Fr.app N0 N69q
      have Zs_69 : n0 ≤ T69.heap.size := Nat.le_trans Z0 K69.1
      have Sta_com_example_lianzhuang_lianzhuang_tile_Suit_VALUES_69 : Sta Z T69.heap "com/example/lianzhuang/lianzhuang/tile/Suit" "$VALUES" "[Lcom/example/lianzhuang/lianzhuang/tile/Suit;" (.ref aV) := own_staK0 P0 K69
      have Arv_aV_69 : Arv Z T69.heap aV kV (.object "com/example/lianzhuang/lianzhuang/tile/Suit") (4 : Int32) [(.ref aC), (.ref aD), (.ref aB), (.ref aH)] .null := P1.keep K69 nin0
      have Exa_aV_69 : Exa Z T69.heap aV "[Lcom/example/lianzhuang/lianzhuang/tile/Suit;" := P2.keep K69
      have Fld_aC_letter_69 : Fld Z T69.heap aC "com/example/lianzhuang/lianzhuang/tile/Suit" "letter" "C" (.int (109 : Int32)) := P3.keep K69 nin0
      have Fld_aD_letter_69 : Fld Z T69.heap aD "com/example/lianzhuang/lianzhuang/tile/Suit" "letter" "C" (.int (112 : Int32)) := P4.keep K69 nin0
      have Fld_aB_letter_69 : Fld Z T69.heap aB "com/example/lianzhuang/lianzhuang/tile/Suit" "letter" "C" (.int (115 : Int32)) := P5.keep K69 nin0
      have Fld_aH_letter_69 : Fld Z T69.heap aH "com/example/lianzhuang/lianzhuang/tile/Suit" "letter" "C" (.int (122 : Int32)) := P6.keep K69 nin0
      have Sta_com_example_lianzhuang_lianzhuang_tile_Suit_CHARACTERS_69 : Sta Z T69.heap "com/example/lianzhuang/lianzhuang/tile/Suit" "CHARACTERS" "Lcom/example/lianzhuang/lianzhuang/tile/Suit;" (.ref aC) := own_staK0 P7 K69
      have Sta_com_example_lianzhuang_lianzhuang_tile_Suit_DOTS_69 : Sta Z T69.heap "com/example/lianzhuang/lianzhuang/tile/Suit" "DOTS" "Lcom/example/lianzhuang/lianzhuang/tile/Suit;" (.ref aD) := own_staK0 P8 K69
      have Sta_com_example_lianzhuang_lianzhuang_tile_Suit_BAMBOO_69 : Sta Z T69.heap "com/example/lianzhuang/lianzhuang/tile/Suit" "BAMBOO" "Lcom/example/lianzhuang/lianzhuang/tile/Suit;" (.ref aB) := own_staK0 P9 K69
      have Sta_com_example_lianzhuang_lianzhuang_tile_Suit_HONOURS_69 : Sta Z T69.heap "com/example/lianzhuang/lianzhuang/tile/Suit" "HONOURS" "Lcom/example/lianzhuang/lianzhuang/tile/Suit;" (.ref aH) := own_staK0 P10 K69
      have Exa_aC_69 : Exa Z T69.heap aC "com/example/lianzhuang/lianzhuang/tile/Suit" := P11.keep K69
      have Exa_aD_69 : Exa Z T69.heap aD "com/example/lianzhuang/lianzhuang/tile/Suit" := P12.keep K69
      have Exa_aB_69 : Exa Z T69.heap aB "com/example/lianzhuang/lianzhuang/tile/Suit" := P13.keep K69
      have Exa_aH_69 : Exa Z T69.heap aH "com/example/lianzhuang/lianzhuang/tile/Suit" := P14.keep K69
      refine GoW.sg (mkF m 7 (Sh6 q1 q2 112) [(.ref aD)]) (fun t k => st69 t k) ?_
      refine GoW.sg (mkF m 8 (Sh6 q1 q2 112) [(.int 112), (.ref aD)]) (fun t k => XS.iloadN X69.here hx rfl (hb hby at_7) rfl k) ?_
      obtain ⟨_, _, ⟨T70, L70, k70, n70⟩, -, X70, ⟨Lc70, hQ70, l70, y70, z70⟩, st70⟩ := Jvm.LawKit.callS X69 hx (y := (⟨"com/example/lianzhuang/lianzhuang/tile/SuitWithLetterPinLaw", "expectedFor", "(C)Lcom/example/lianzhuang/lianzhuang/tile/Suit;"⟩ : MethodName)) hown (mvT hZ (ww hw 25 rfl)) (mvT hZ (ww hw 26 rfl)) (mvT hZ (ww hw 27 rfl)) (mvT hZ (ww hw 28 rfl)) (by decide) (backOf (W := 1) (rmE112 l Z a0 hw []  aD T69.heap n0  Sta_com_example_lianzhuang_lianzhuang_tile_Suit_DOTS_69   ) hZ (ww hw 28 rfl) (ww hw 27 rfl) (by decide) (by decide)) (g := (mkF m 8 (Sh6 q1 q2 112) [(.int 112), (.ref aD)])) rfl (by rw [hml]; rfl) (argsL := [(.int (112 : Int32))]) (rest := [(.ref aD)]) (lenOf pd_28C29Lcom2fexample2flianzhuang2flianzhuang2ftile2fSuit3b rfl) rfl (by show 2 * 0 + _ ≤ _; exact Nat.le_of_eq rfl) (hb hby at_8) (fun _ _ => ⟨rfl, rfl, (by decide : 1 + 0 ≤ _), (by decide : 4 + 0 ≤ _)⟩)
      dsimp only [Pt.U, Pt.locs, Pt.cells, Pt.slots] at X70 l70 y70 z70 st70 hQ70
      subst l70 y70 z70
      obtain ⟨rfl, N70q, e70⟩ := hQ70
      have N70 := Fr.app N69 N70q
      refine GoW.sg (mkF m 11 (Sh6 q1 q2 112) [(.ref aD), (.ref aD)]) (fun t k => st70 t k) ?_
      refine GoW.sg (mkF m 16 (Sh6 q1 q2 112) []) (fun t k => Jvm.RoadKit.acmp X70 hx rfl (cd := .eq) (x := (.ref aD)) (y := (.ref aD)) rfl rfl (pc0 := 11) (pc' := 16) (same := true) rfl (hb hby at_11) rfl (decide_eq_true rfl) (by decide) (by decide) k) ?_
      refine GoW.sg (mkF m 17 (Sh6 q1 q2 112) [(.int q2)]) (fun t k => XS.iloadN X70.here hx rfl (hb hby at_16) rfl k) ?_
      refine GoW.sg (mkF m 18 (Sh6 q1 q2 112) [(.int 3), (.int q2)]) (fun t k => XS.iconst X70.here hx rfl (hb hby at_17) k) ?_
      refine GoW.sg (mkF m 19 (Sh6 q1 q2 112) [(.int (q2 &&& (3 : Int32)))]) (fun t k => XS.iand X70.here hx rfl (hb hby at_18) rfl k) ?_
      rcases own_and3 q2 with vv | vv | vv | vv
      · rw [vv]
        show GoW p e below s (ValQ (.int (1 : Int32)) n0) room_1.cells room_1.slots (T70.setTop (mkF m 19 (Sh6 q1 q2 112) [(.int 0)]))
        obtain ⟨_, _, ⟨T71, L71, k71, n71⟩, -, X71, ⟨Lc71, hQ71, l71, y71, z71⟩, st71⟩ := Jvm.LawKit.callS X70 hx (y := (⟨"com/example/lianzhuang/lianzhuang/tile/SuitWithLetterPinLaw", "pick", "(I)Lcom/example/lianzhuang/lianzhuang/tile/Suit;"⟩ : MethodName)) hown (mvT hZ (ww hw 29 rfl)) (mvT hZ (ww hw 30 rfl)) (mvT hZ (ww hw 27 rfl)) (mvT hZ (ww hw 31 rfl)) (by decide) (backOf (W := 0) (rmK0 l Z a0 hw []  aC T69.heap n0  Sta_com_example_lianzhuang_lianzhuang_tile_Suit_CHARACTERS_69   ) hZ (ww hw 31 rfl) (ww hw 27 rfl) (by decide) (by decide)) (g := (mkF m 19 (Sh6 q1 q2 112) [(.int 0)])) rfl (by rw [hml]; rfl) (argsL := [(.int (0 : Int32))]) (rest := []) (lenOf pd_28I29Lcom2fexample2flianzhuang2flianzhuang2ftile2fSuit3b rfl) rfl (by show 2 * 0 + _ ≤ _; exact Nat.le_of_eq rfl) (hb hby at_19) (fun _ _ => ⟨rfl, e70, (by decide : 1 + 0 ≤ _), (by decide : 4 + 0 ≤ _)⟩)
        dsimp only [Pt.U, Pt.locs, Pt.cells, Pt.slots] at X71 l71 y71 z71 st71 hQ71
        subst l71 y71 z71
        obtain ⟨rfl, N71q, e71⟩ := hQ71
        have N71 := Fr.app N70 N71q
        refine GoW.sg (mkF m 22 (Sh6 q1 q2 112) [(.ref aC)]) (fun t k => st71 t k) ?_
        refine GoW.sg (mkF m 23 (Sh7 q1 q2 112 aC) []) (fun t k => XS.astoreN X71.here hx rfl (hb hby at_22) rfl rfl (l' := (Sh7 q1 q2 112 aC)) rfl k) ?_
        refine GoW.sg (mkF m 24 (Sh7 q1 q2 112 aC) [(.ref aC)]) (fun t k => XS.aloadN X71.here hx rfl (hb hby at_23) rfl rfl k) ?_
        obtain ⟨cq72, kq72, q72a, q72b, q72c⟩ := isOf hZ e71 Exa_aC_69
        obtain ⟨_, _, ⟨T72, L72, k72, n72⟩, -, X72, ⟨Lc72, hQ72, l72, y72, z72⟩, st72⟩ := X71.virtualBack hx (y := (⟨"com/example/lianzhuang/lianzhuang/tile/Suit", "letter", "()C"⟩ : MethodName)) (z := (⟨"com/example/lianzhuang/lianzhuang/tile/Suit", "letter", "()C"⟩ : MethodName)) hown (mvT hZ (ww hw 33 rfl)) (mvT hZ (ww hw 34 rfl)) (notFace_of_selects (args := #[]) (mvT hZ (ww hw 36 rfl))) (mvT hZ (ww hw 36 rfl)) (mvT hZ (ww hw 35 rfl)) (by decide) (backOf (W := 0) (rmL109 l Z a0 hw [] aC  T69.heap n0  Fld_aC_letter_69   ) hZ (ww hw 37 rfl) (ww hw 2 rfl) (by decide) (by decide)) q72a q72c (g := (mkF m 24 (Sh7 q1 q2 112 aC) [(.ref aC)])) rfl (by rw [hml]; rfl) (Steps.refl _) (argsL := []) (rest := []) (lenOf pd_2829C rfl) rfl (by show 2 * 0 + _ ≤ _; exact Nat.le_of_eq rfl) (hb hby at_24) (fun _ _ => ⟨rfl, e71, (by decide : 1 + 0 ≤ _), (by decide : 4 + 0 ≤ _)⟩)
        dsimp only [Pt.U, Pt.locs, Pt.cells, Pt.slots] at X72 l72 y72 z72 st72 hQ72
        subst l72 y72 z72
        obtain ⟨rfl, N72q, e72⟩ := hQ72
        have N72 := Fr.app N71 N72q
        refine GoW.sg (mkF m 27 (Sh7 q1 q2 112 aC) [(.int 109)]) (fun t k => st72.trans k) ?_
        obtain ⟨_, _, ⟨T73, L73, k73, n73⟩, -, X73, ⟨Lc73, hQ73, l73, y73, z73⟩, st73⟩ := Jvm.LawKit.callS X72 hx (y := (⟨"com/example/lianzhuang/lianzhuang/tile/Suit", "withLetter", "(C)Lcom/example/lianzhuang/lianzhuang/tile/Suit;"⟩ : MethodName)) hown (mvT hZ (ww hw 0 rfl)) (mvT hZ (ww hw 1 rfl)) (mvT hZ (ww hw 2 rfl)) (mvT hZ (ww hw 3 rfl)) (by decide) (backOf (W := 0) (rmW109 l Z a0 hw []  aV kV aC aD aB aH T69.heap n0 Zs_69 Sta_com_example_lianzhuang_lianzhuang_tile_Suit_VALUES_69 Arv_aV_69 Exa_aV_69 Fld_aC_letter_69 Fld_aD_letter_69 Fld_aB_letter_69 Fld_aH_letter_69   ) hZ (ww hw 3 rfl) (ww hw 2 rfl) (by decide) (by decide)) (g := (mkF m 27 (Sh7 q1 q2 112 aC) [(.int 109)])) rfl (by rw [hml]; rfl) (argsL := [(.int (109 : Int32))]) (rest := []) (lenOf pd_28C29Lcom2fexample2flianzhuang2flianzhuang2ftile2fSuit3b rfl) rfl (by show 2 * 0 + _ ≤ _; exact Nat.le_of_eq rfl) (hb hby at_27) (fun _ _ => ⟨rfl, e72, (by decide : 1 + 1 ≤ _), (by decide : 4 + 4 ≤ _)⟩)
        dsimp only [Pt.U, Pt.locs, Pt.cells, Pt.slots] at X73 l73 y73 z73 st73 hQ73
        subst l73 y73 z73
        obtain ⟨rfl, N73q, K73⟩ := hQ73
        have N73 := Fr.app N72 N73q
        have Zs_73 : n0 ≤ T73.heap.size := Nat.le_trans Zs_69 K73.1
        have Sta_com_example_lianzhuang_lianzhuang_tile_Suit_VALUES_73 : Sta Z T73.heap "com/example/lianzhuang/lianzhuang/tile/Suit" "$VALUES" "[Lcom/example/lianzhuang/lianzhuang/tile/Suit;" (.ref aV) := own_staK0 Sta_com_example_lianzhuang_lianzhuang_tile_Suit_VALUES_69 K73
        have Arv_aV_73 : Arv Z T73.heap aV kV (.object "com/example/lianzhuang/lianzhuang/tile/Suit") (4 : Int32) [(.ref aC), (.ref aD), (.ref aB), (.ref aH)] .null := Arv_aV_69.keep K73 nin0
        have Exa_aV_73 : Exa Z T73.heap aV "[Lcom/example/lianzhuang/lianzhuang/tile/Suit;" := Exa_aV_69.keep K73
        have Fld_aC_letter_73 : Fld Z T73.heap aC "com/example/lianzhuang/lianzhuang/tile/Suit" "letter" "C" (.int (109 : Int32)) := Fld_aC_letter_69.keep K73 nin0
        have Fld_aD_letter_73 : Fld Z T73.heap aD "com/example/lianzhuang/lianzhuang/tile/Suit" "letter" "C" (.int (112 : Int32)) := Fld_aD_letter_69.keep K73 nin0
        have Fld_aB_letter_73 : Fld Z T73.heap aB "com/example/lianzhuang/lianzhuang/tile/Suit" "letter" "C" (.int (115 : Int32)) := Fld_aB_letter_69.keep K73 nin0
        have Fld_aH_letter_73 : Fld Z T73.heap aH "com/example/lianzhuang/lianzhuang/tile/Suit" "letter" "C" (.int (122 : Int32)) := Fld_aH_letter_69.keep K73 nin0
        have Sta_com_example_lianzhuang_lianzhuang_tile_Suit_CHARACTERS_73 : Sta Z T73.heap "com/example/lianzhuang/lianzhuang/tile/Suit" "CHARACTERS" "Lcom/example/lianzhuang/lianzhuang/tile/Suit;" (.ref aC) := own_staK0 Sta_com_example_lianzhuang_lianzhuang_tile_Suit_CHARACTERS_69 K73
        have Sta_com_example_lianzhuang_lianzhuang_tile_Suit_DOTS_73 : Sta Z T73.heap "com/example/lianzhuang/lianzhuang/tile/Suit" "DOTS" "Lcom/example/lianzhuang/lianzhuang/tile/Suit;" (.ref aD) := own_staK0 Sta_com_example_lianzhuang_lianzhuang_tile_Suit_DOTS_69 K73
        have Sta_com_example_lianzhuang_lianzhuang_tile_Suit_BAMBOO_73 : Sta Z T73.heap "com/example/lianzhuang/lianzhuang/tile/Suit" "BAMBOO" "Lcom/example/lianzhuang/lianzhuang/tile/Suit;" (.ref aB) := own_staK0 Sta_com_example_lianzhuang_lianzhuang_tile_Suit_BAMBOO_69 K73
        have Sta_com_example_lianzhuang_lianzhuang_tile_Suit_HONOURS_73 : Sta Z T73.heap "com/example/lianzhuang/lianzhuang/tile/Suit" "HONOURS" "Lcom/example/lianzhuang/lianzhuang/tile/Suit;" (.ref aH) := own_staK0 Sta_com_example_lianzhuang_lianzhuang_tile_Suit_HONOURS_69 K73
        have Exa_aC_73 : Exa Z T73.heap aC "com/example/lianzhuang/lianzhuang/tile/Suit" := Exa_aC_69.keep K73
        have Exa_aD_73 : Exa Z T73.heap aD "com/example/lianzhuang/lianzhuang/tile/Suit" := Exa_aD_69.keep K73
        have Exa_aB_73 : Exa Z T73.heap aB "com/example/lianzhuang/lianzhuang/tile/Suit" := Exa_aB_69.keep K73
        have Exa_aH_73 : Exa Z T73.heap aH "com/example/lianzhuang/lianzhuang/tile/Suit" := Exa_aH_69.keep K73
        refine GoW.sg (mkF m 30 (Sh7 q1 q2 112 aC) [(.ref aC)]) (fun t k => st73 t k) ?_
        refine GoW.sg (mkF m 31 (Sh7 q1 q2 112 aC) [(.ref aC), (.ref aC)]) (fun t k => XS.aloadN X73.here hx rfl (hb hby at_30) rfl rfl k) ?_
        refine GoW.sg (mkF m 34 (Sh7 q1 q2 112 aC) []) (fun t k => Jvm.RoadKit.acmp X73 hx rfl (cd := .ne) (x := (.ref aC)) (y := (.ref aC)) rfl rfl (pc0 := 31) (pc' := 34) (same := true) rfl (hb hby at_31) rfl (decide_eq_true rfl) (by decide) (by decide) k) ?_
        refine GoW.sg (mkF m 35 (Sh7 q1 q2 112 aC) [(.int 1)]) (fun t k => XS.iconst X73.here hx rfl (hb hby at_34) k) ?_
        refine GoW.sg (mkF m 39 (Sh7 q1 q2 112 aC) [(.int 1)]) (fun t k => XS.goto X73.here hx rfl (pc0 := 35) (pc' := 39) rfl (hb hby at_35) (by decide) (by decide) k) ?_
        refine GoW.retN X73 hx (t := .boolean) Bd.returns (by simp) (hb hby at_39) Bd.notSynchronized ?_ (by decide) (by decide)
        exact ⟨rfl, N73⟩
      · rw [vv]
        show GoW p e below s (ValQ (.int (1 : Int32)) n0) room_1.cells room_1.slots (T70.setTop (mkF m 19 (Sh6 q1 q2 112) [(.int 1)]))
        obtain ⟨_, _, ⟨T74, L74, k74, n74⟩, -, X74, ⟨Lc74, hQ74, l74, y74, z74⟩, st74⟩ := Jvm.LawKit.callS X70 hx (y := (⟨"com/example/lianzhuang/lianzhuang/tile/SuitWithLetterPinLaw", "pick", "(I)Lcom/example/lianzhuang/lianzhuang/tile/Suit;"⟩ : MethodName)) hown (mvT hZ (ww hw 29 rfl)) (mvT hZ (ww hw 30 rfl)) (mvT hZ (ww hw 27 rfl)) (mvT hZ (ww hw 31 rfl)) (by decide) (backOf (W := 0) (rmK1 l Z a0 hw []  aD T69.heap n0  Sta_com_example_lianzhuang_lianzhuang_tile_Suit_DOTS_69   ) hZ (ww hw 31 rfl) (ww hw 27 rfl) (by decide) (by decide)) (g := (mkF m 19 (Sh6 q1 q2 112) [(.int 1)])) rfl (by rw [hml]; rfl) (argsL := [(.int (1 : Int32))]) (rest := []) (lenOf pd_28I29Lcom2fexample2flianzhuang2flianzhuang2ftile2fSuit3b rfl) rfl (by show 2 * 0 + _ ≤ _; exact Nat.le_of_eq rfl) (hb hby at_19) (fun _ _ => ⟨rfl, e70, (by decide : 1 + 0 ≤ _), (by decide : 4 + 0 ≤ _)⟩)
        dsimp only [Pt.U, Pt.locs, Pt.cells, Pt.slots] at X74 l74 y74 z74 st74 hQ74
        subst l74 y74 z74
        obtain ⟨rfl, N74q, e74⟩ := hQ74
        have N74 := Fr.app N70 N74q
        refine GoW.sg (mkF m 22 (Sh6 q1 q2 112) [(.ref aD)]) (fun t k => st74 t k) ?_
        refine GoW.sg (mkF m 23 (Sh7 q1 q2 112 aD) []) (fun t k => XS.astoreN X74.here hx rfl (hb hby at_22) rfl rfl (l' := (Sh7 q1 q2 112 aD)) rfl k) ?_
        refine GoW.sg (mkF m 24 (Sh7 q1 q2 112 aD) [(.ref aD)]) (fun t k => XS.aloadN X74.here hx rfl (hb hby at_23) rfl rfl k) ?_
        obtain ⟨cq75, kq75, q75a, q75b, q75c⟩ := isOf hZ e74 Exa_aD_69
        obtain ⟨_, _, ⟨T75, L75, k75, n75⟩, -, X75, ⟨Lc75, hQ75, l75, y75, z75⟩, st75⟩ := X74.virtualBack hx (y := (⟨"com/example/lianzhuang/lianzhuang/tile/Suit", "letter", "()C"⟩ : MethodName)) (z := (⟨"com/example/lianzhuang/lianzhuang/tile/Suit", "letter", "()C"⟩ : MethodName)) hown (mvT hZ (ww hw 33 rfl)) (mvT hZ (ww hw 34 rfl)) (notFace_of_selects (args := #[]) (mvT hZ (ww hw 36 rfl))) (mvT hZ (ww hw 36 rfl)) (mvT hZ (ww hw 35 rfl)) (by decide) (backOf (W := 0) (rmL112 l Z a0 hw [] aD  T69.heap n0  Fld_aD_letter_69   ) hZ (ww hw 37 rfl) (ww hw 2 rfl) (by decide) (by decide)) q75a q75c (g := (mkF m 24 (Sh7 q1 q2 112 aD) [(.ref aD)])) rfl (by rw [hml]; rfl) (Steps.refl _) (argsL := []) (rest := []) (lenOf pd_2829C rfl) rfl (by show 2 * 0 + _ ≤ _; exact Nat.le_of_eq rfl) (hb hby at_24) (fun _ _ => ⟨rfl, e74, (by decide : 1 + 0 ≤ _), (by decide : 4 + 0 ≤ _)⟩)
        dsimp only [Pt.U, Pt.locs, Pt.cells, Pt.slots] at X75 l75 y75 z75 st75 hQ75
        subst l75 y75 z75
        obtain ⟨rfl, N75q, e75⟩ := hQ75
        have N75 := Fr.app N74 N75q
        refine GoW.sg (mkF m 27 (Sh7 q1 q2 112 aD) [(.int 112)]) (fun t k => st75.trans k) ?_
        obtain ⟨_, _, ⟨T76, L76, k76, n76⟩, -, X76, ⟨Lc76, hQ76, l76, y76, z76⟩, st76⟩ := Jvm.LawKit.callS X75 hx (y := (⟨"com/example/lianzhuang/lianzhuang/tile/Suit", "withLetter", "(C)Lcom/example/lianzhuang/lianzhuang/tile/Suit;"⟩ : MethodName)) hown (mvT hZ (ww hw 0 rfl)) (mvT hZ (ww hw 1 rfl)) (mvT hZ (ww hw 2 rfl)) (mvT hZ (ww hw 3 rfl)) (by decide) (backOf (W := 0) (rmW112 l Z a0 hw []  aV kV aC aD aB aH T69.heap n0 Zs_69 Sta_com_example_lianzhuang_lianzhuang_tile_Suit_VALUES_69 Arv_aV_69 Exa_aV_69 Fld_aC_letter_69 Fld_aD_letter_69 Fld_aB_letter_69 Fld_aH_letter_69   ) hZ (ww hw 3 rfl) (ww hw 2 rfl) (by decide) (by decide)) (g := (mkF m 27 (Sh7 q1 q2 112 aD) [(.int 112)])) rfl (by rw [hml]; rfl) (argsL := [(.int (112 : Int32))]) (rest := []) (lenOf pd_28C29Lcom2fexample2flianzhuang2flianzhuang2ftile2fSuit3b rfl) rfl (by show 2 * 0 + _ ≤ _; exact Nat.le_of_eq rfl) (hb hby at_27) (fun _ _ => ⟨rfl, e75, (by decide : 1 + 1 ≤ _), (by decide : 4 + 4 ≤ _)⟩)
        dsimp only [Pt.U, Pt.locs, Pt.cells, Pt.slots] at X76 l76 y76 z76 st76 hQ76
        subst l76 y76 z76
        obtain ⟨rfl, N76q, K76⟩ := hQ76
        have N76 := Fr.app N75 N76q
        have Zs_76 : n0 ≤ T76.heap.size := Nat.le_trans Zs_69 K76.1
        have Sta_com_example_lianzhuang_lianzhuang_tile_Suit_VALUES_76 : Sta Z T76.heap "com/example/lianzhuang/lianzhuang/tile/Suit" "$VALUES" "[Lcom/example/lianzhuang/lianzhuang/tile/Suit;" (.ref aV) := own_staK0 Sta_com_example_lianzhuang_lianzhuang_tile_Suit_VALUES_69 K76
        have Arv_aV_76 : Arv Z T76.heap aV kV (.object "com/example/lianzhuang/lianzhuang/tile/Suit") (4 : Int32) [(.ref aC), (.ref aD), (.ref aB), (.ref aH)] .null := Arv_aV_69.keep K76 nin0
        have Exa_aV_76 : Exa Z T76.heap aV "[Lcom/example/lianzhuang/lianzhuang/tile/Suit;" := Exa_aV_69.keep K76
        have Fld_aC_letter_76 : Fld Z T76.heap aC "com/example/lianzhuang/lianzhuang/tile/Suit" "letter" "C" (.int (109 : Int32)) := Fld_aC_letter_69.keep K76 nin0
        have Fld_aD_letter_76 : Fld Z T76.heap aD "com/example/lianzhuang/lianzhuang/tile/Suit" "letter" "C" (.int (112 : Int32)) := Fld_aD_letter_69.keep K76 nin0
        have Fld_aB_letter_76 : Fld Z T76.heap aB "com/example/lianzhuang/lianzhuang/tile/Suit" "letter" "C" (.int (115 : Int32)) := Fld_aB_letter_69.keep K76 nin0
        have Fld_aH_letter_76 : Fld Z T76.heap aH "com/example/lianzhuang/lianzhuang/tile/Suit" "letter" "C" (.int (122 : Int32)) := Fld_aH_letter_69.keep K76 nin0
        have Sta_com_example_lianzhuang_lianzhuang_tile_Suit_CHARACTERS_76 : Sta Z T76.heap "com/example/lianzhuang/lianzhuang/tile/Suit" "CHARACTERS" "Lcom/example/lianzhuang/lianzhuang/tile/Suit;" (.ref aC) := own_staK0 Sta_com_example_lianzhuang_lianzhuang_tile_Suit_CHARACTERS_69 K76
        have Sta_com_example_lianzhuang_lianzhuang_tile_Suit_DOTS_76 : Sta Z T76.heap "com/example/lianzhuang/lianzhuang/tile/Suit" "DOTS" "Lcom/example/lianzhuang/lianzhuang/tile/Suit;" (.ref aD) := own_staK0 Sta_com_example_lianzhuang_lianzhuang_tile_Suit_DOTS_69 K76
        have Sta_com_example_lianzhuang_lianzhuang_tile_Suit_BAMBOO_76 : Sta Z T76.heap "com/example/lianzhuang/lianzhuang/tile/Suit" "BAMBOO" "Lcom/example/lianzhuang/lianzhuang/tile/Suit;" (.ref aB) := own_staK0 Sta_com_example_lianzhuang_lianzhuang_tile_Suit_BAMBOO_69 K76
        have Sta_com_example_lianzhuang_lianzhuang_tile_Suit_HONOURS_76 : Sta Z T76.heap "com/example/lianzhuang/lianzhuang/tile/Suit" "HONOURS" "Lcom/example/lianzhuang/lianzhuang/tile/Suit;" (.ref aH) := own_staK0 Sta_com_example_lianzhuang_lianzhuang_tile_Suit_HONOURS_69 K76
        have Exa_aC_76 : Exa Z T76.heap aC "com/example/lianzhuang/lianzhuang/tile/Suit" := Exa_aC_69.keep K76
        have Exa_aD_76 : Exa Z T76.heap aD "com/example/lianzhuang/lianzhuang/tile/Suit" := Exa_aD_69.keep K76
        have Exa_aB_76 : Exa Z T76.heap aB "com/example/lianzhuang/lianzhuang/tile/Suit" := Exa_aB_69.keep K76
        have Exa_aH_76 : Exa Z T76.heap aH "com/example/lianzhuang/lianzhuang/tile/Suit" := Exa_aH_69.keep K76
        refine GoW.sg (mkF m 30 (Sh7 q1 q2 112 aD) [(.ref aD)]) (fun t k => st76 t k) ?_
        refine GoW.sg (mkF m 31 (Sh7 q1 q2 112 aD) [(.ref aD), (.ref aD)]) (fun t k => XS.aloadN X76.here hx rfl (hb hby at_30) rfl rfl k) ?_
        refine GoW.sg (mkF m 34 (Sh7 q1 q2 112 aD) []) (fun t k => Jvm.RoadKit.acmp X76 hx rfl (cd := .ne) (x := (.ref aD)) (y := (.ref aD)) rfl rfl (pc0 := 31) (pc' := 34) (same := true) rfl (hb hby at_31) rfl (decide_eq_true rfl) (by decide) (by decide) k) ?_
        refine GoW.sg (mkF m 35 (Sh7 q1 q2 112 aD) [(.int 1)]) (fun t k => XS.iconst X76.here hx rfl (hb hby at_34) k) ?_
        refine GoW.sg (mkF m 39 (Sh7 q1 q2 112 aD) [(.int 1)]) (fun t k => XS.goto X76.here hx rfl (pc0 := 35) (pc' := 39) rfl (hb hby at_35) (by decide) (by decide) k) ?_
        refine GoW.retN X76 hx (t := .boolean) Bd.returns (by simp) (hb hby at_39) Bd.notSynchronized ?_ (by decide) (by decide)
        exact ⟨rfl, N76⟩
      · rw [vv]
        show GoW p e below s (ValQ (.int (1 : Int32)) n0) room_1.cells room_1.slots (T70.setTop (mkF m 19 (Sh6 q1 q2 112) [(.int 2)]))
        obtain ⟨_, _, ⟨T77, L77, k77, n77⟩, -, X77, ⟨Lc77, hQ77, l77, y77, z77⟩, st77⟩ := Jvm.LawKit.callS X70 hx (y := (⟨"com/example/lianzhuang/lianzhuang/tile/SuitWithLetterPinLaw", "pick", "(I)Lcom/example/lianzhuang/lianzhuang/tile/Suit;"⟩ : MethodName)) hown (mvT hZ (ww hw 29 rfl)) (mvT hZ (ww hw 30 rfl)) (mvT hZ (ww hw 27 rfl)) (mvT hZ (ww hw 31 rfl)) (by decide) (backOf (W := 0) (rmK2 l Z a0 hw []  aB T69.heap n0  Sta_com_example_lianzhuang_lianzhuang_tile_Suit_BAMBOO_69   ) hZ (ww hw 31 rfl) (ww hw 27 rfl) (by decide) (by decide)) (g := (mkF m 19 (Sh6 q1 q2 112) [(.int 2)])) rfl (by rw [hml]; rfl) (argsL := [(.int (2 : Int32))]) (rest := []) (lenOf pd_28I29Lcom2fexample2flianzhuang2flianzhuang2ftile2fSuit3b rfl) rfl (by show 2 * 0 + _ ≤ _; exact Nat.le_of_eq rfl) (hb hby at_19) (fun _ _ => ⟨rfl, e70, (by decide : 1 + 0 ≤ _), (by decide : 4 + 0 ≤ _)⟩)
        dsimp only [Pt.U, Pt.locs, Pt.cells, Pt.slots] at X77 l77 y77 z77 st77 hQ77
        subst l77 y77 z77
        obtain ⟨rfl, N77q, e77⟩ := hQ77
        have N77 := Fr.app N70 N77q
        refine GoW.sg (mkF m 22 (Sh6 q1 q2 112) [(.ref aB)]) (fun t k => st77 t k) ?_
        refine GoW.sg (mkF m 23 (Sh7 q1 q2 112 aB) []) (fun t k => XS.astoreN X77.here hx rfl (hb hby at_22) rfl rfl (l' := (Sh7 q1 q2 112 aB)) rfl k) ?_
        refine GoW.sg (mkF m 24 (Sh7 q1 q2 112 aB) [(.ref aB)]) (fun t k => XS.aloadN X77.here hx rfl (hb hby at_23) rfl rfl k) ?_
        obtain ⟨cq78, kq78, q78a, q78b, q78c⟩ := isOf hZ e77 Exa_aB_69
        obtain ⟨_, _, ⟨T78, L78, k78, n78⟩, -, X78, ⟨Lc78, hQ78, l78, y78, z78⟩, st78⟩ := X77.virtualBack hx (y := (⟨"com/example/lianzhuang/lianzhuang/tile/Suit", "letter", "()C"⟩ : MethodName)) (z := (⟨"com/example/lianzhuang/lianzhuang/tile/Suit", "letter", "()C"⟩ : MethodName)) hown (mvT hZ (ww hw 33 rfl)) (mvT hZ (ww hw 34 rfl)) (notFace_of_selects (args := #[]) (mvT hZ (ww hw 36 rfl))) (mvT hZ (ww hw 36 rfl)) (mvT hZ (ww hw 35 rfl)) (by decide) (backOf (W := 0) (rmL115 l Z a0 hw [] aB  T69.heap n0  Fld_aB_letter_69   ) hZ (ww hw 37 rfl) (ww hw 2 rfl) (by decide) (by decide)) q78a q78c (g := (mkF m 24 (Sh7 q1 q2 112 aB) [(.ref aB)])) rfl (by rw [hml]; rfl) (Steps.refl _) (argsL := []) (rest := []) (lenOf pd_2829C rfl) rfl (by show 2 * 0 + _ ≤ _; exact Nat.le_of_eq rfl) (hb hby at_24) (fun _ _ => ⟨rfl, e77, (by decide : 1 + 0 ≤ _), (by decide : 4 + 0 ≤ _)⟩)
        dsimp only [Pt.U, Pt.locs, Pt.cells, Pt.slots] at X78 l78 y78 z78 st78 hQ78
        subst l78 y78 z78
        obtain ⟨rfl, N78q, e78⟩ := hQ78
        have N78 := Fr.app N77 N78q
        refine GoW.sg (mkF m 27 (Sh7 q1 q2 112 aB) [(.int 115)]) (fun t k => st78.trans k) ?_
        obtain ⟨_, _, ⟨T79, L79, k79, n79⟩, -, X79, ⟨Lc79, hQ79, l79, y79, z79⟩, st79⟩ := Jvm.LawKit.callS X78 hx (y := (⟨"com/example/lianzhuang/lianzhuang/tile/Suit", "withLetter", "(C)Lcom/example/lianzhuang/lianzhuang/tile/Suit;"⟩ : MethodName)) hown (mvT hZ (ww hw 0 rfl)) (mvT hZ (ww hw 1 rfl)) (mvT hZ (ww hw 2 rfl)) (mvT hZ (ww hw 3 rfl)) (by decide) (backOf (W := 0) (rmW115 l Z a0 hw []  aV kV aC aD aB aH T69.heap n0 Zs_69 Sta_com_example_lianzhuang_lianzhuang_tile_Suit_VALUES_69 Arv_aV_69 Exa_aV_69 Fld_aC_letter_69 Fld_aD_letter_69 Fld_aB_letter_69 Fld_aH_letter_69   ) hZ (ww hw 3 rfl) (ww hw 2 rfl) (by decide) (by decide)) (g := (mkF m 27 (Sh7 q1 q2 112 aB) [(.int 115)])) rfl (by rw [hml]; rfl) (argsL := [(.int (115 : Int32))]) (rest := []) (lenOf pd_28C29Lcom2fexample2flianzhuang2flianzhuang2ftile2fSuit3b rfl) rfl (by show 2 * 0 + _ ≤ _; exact Nat.le_of_eq rfl) (hb hby at_27) (fun _ _ => ⟨rfl, e78, (by decide : 1 + 1 ≤ _), (by decide : 4 + 4 ≤ _)⟩)
        dsimp only [Pt.U, Pt.locs, Pt.cells, Pt.slots] at X79 l79 y79 z79 st79 hQ79
        subst l79 y79 z79
        obtain ⟨rfl, N79q, K79⟩ := hQ79
        have N79 := Fr.app N78 N79q
        have Zs_79 : n0 ≤ T79.heap.size := Nat.le_trans Zs_69 K79.1
        have Sta_com_example_lianzhuang_lianzhuang_tile_Suit_VALUES_79 : Sta Z T79.heap "com/example/lianzhuang/lianzhuang/tile/Suit" "$VALUES" "[Lcom/example/lianzhuang/lianzhuang/tile/Suit;" (.ref aV) := own_staK0 Sta_com_example_lianzhuang_lianzhuang_tile_Suit_VALUES_69 K79
        have Arv_aV_79 : Arv Z T79.heap aV kV (.object "com/example/lianzhuang/lianzhuang/tile/Suit") (4 : Int32) [(.ref aC), (.ref aD), (.ref aB), (.ref aH)] .null := Arv_aV_69.keep K79 nin0
        have Exa_aV_79 : Exa Z T79.heap aV "[Lcom/example/lianzhuang/lianzhuang/tile/Suit;" := Exa_aV_69.keep K79
        have Fld_aC_letter_79 : Fld Z T79.heap aC "com/example/lianzhuang/lianzhuang/tile/Suit" "letter" "C" (.int (109 : Int32)) := Fld_aC_letter_69.keep K79 nin0
        have Fld_aD_letter_79 : Fld Z T79.heap aD "com/example/lianzhuang/lianzhuang/tile/Suit" "letter" "C" (.int (112 : Int32)) := Fld_aD_letter_69.keep K79 nin0
        have Fld_aB_letter_79 : Fld Z T79.heap aB "com/example/lianzhuang/lianzhuang/tile/Suit" "letter" "C" (.int (115 : Int32)) := Fld_aB_letter_69.keep K79 nin0
        have Fld_aH_letter_79 : Fld Z T79.heap aH "com/example/lianzhuang/lianzhuang/tile/Suit" "letter" "C" (.int (122 : Int32)) := Fld_aH_letter_69.keep K79 nin0
        have Sta_com_example_lianzhuang_lianzhuang_tile_Suit_CHARACTERS_79 : Sta Z T79.heap "com/example/lianzhuang/lianzhuang/tile/Suit" "CHARACTERS" "Lcom/example/lianzhuang/lianzhuang/tile/Suit;" (.ref aC) := own_staK0 Sta_com_example_lianzhuang_lianzhuang_tile_Suit_CHARACTERS_69 K79
        have Sta_com_example_lianzhuang_lianzhuang_tile_Suit_DOTS_79 : Sta Z T79.heap "com/example/lianzhuang/lianzhuang/tile/Suit" "DOTS" "Lcom/example/lianzhuang/lianzhuang/tile/Suit;" (.ref aD) := own_staK0 Sta_com_example_lianzhuang_lianzhuang_tile_Suit_DOTS_69 K79
        have Sta_com_example_lianzhuang_lianzhuang_tile_Suit_BAMBOO_79 : Sta Z T79.heap "com/example/lianzhuang/lianzhuang/tile/Suit" "BAMBOO" "Lcom/example/lianzhuang/lianzhuang/tile/Suit;" (.ref aB) := own_staK0 Sta_com_example_lianzhuang_lianzhuang_tile_Suit_BAMBOO_69 K79
        have Sta_com_example_lianzhuang_lianzhuang_tile_Suit_HONOURS_79 : Sta Z T79.heap "com/example/lianzhuang/lianzhuang/tile/Suit" "HONOURS" "Lcom/example/lianzhuang/lianzhuang/tile/Suit;" (.ref aH) := own_staK0 Sta_com_example_lianzhuang_lianzhuang_tile_Suit_HONOURS_69 K79
        have Exa_aC_79 : Exa Z T79.heap aC "com/example/lianzhuang/lianzhuang/tile/Suit" := Exa_aC_69.keep K79
        have Exa_aD_79 : Exa Z T79.heap aD "com/example/lianzhuang/lianzhuang/tile/Suit" := Exa_aD_69.keep K79
        have Exa_aB_79 : Exa Z T79.heap aB "com/example/lianzhuang/lianzhuang/tile/Suit" := Exa_aB_69.keep K79
        have Exa_aH_79 : Exa Z T79.heap aH "com/example/lianzhuang/lianzhuang/tile/Suit" := Exa_aH_69.keep K79
        refine GoW.sg (mkF m 30 (Sh7 q1 q2 112 aB) [(.ref aB)]) (fun t k => st79 t k) ?_
        refine GoW.sg (mkF m 31 (Sh7 q1 q2 112 aB) [(.ref aB), (.ref aB)]) (fun t k => XS.aloadN X79.here hx rfl (hb hby at_30) rfl rfl k) ?_
        refine GoW.sg (mkF m 34 (Sh7 q1 q2 112 aB) []) (fun t k => Jvm.RoadKit.acmp X79 hx rfl (cd := .ne) (x := (.ref aB)) (y := (.ref aB)) rfl rfl (pc0 := 31) (pc' := 34) (same := true) rfl (hb hby at_31) rfl (decide_eq_true rfl) (by decide) (by decide) k) ?_
        refine GoW.sg (mkF m 35 (Sh7 q1 q2 112 aB) [(.int 1)]) (fun t k => XS.iconst X79.here hx rfl (hb hby at_34) k) ?_
        refine GoW.sg (mkF m 39 (Sh7 q1 q2 112 aB) [(.int 1)]) (fun t k => XS.goto X79.here hx rfl (pc0 := 35) (pc' := 39) rfl (hb hby at_35) (by decide) (by decide) k) ?_
        refine GoW.retN X79 hx (t := .boolean) Bd.returns (by simp) (hb hby at_39) Bd.notSynchronized ?_ (by decide) (by decide)
        exact ⟨rfl, N79⟩
      · rw [vv]
        show GoW p e below s (ValQ (.int (1 : Int32)) n0) room_1.cells room_1.slots (T70.setTop (mkF m 19 (Sh6 q1 q2 112) [(.int 3)]))
        obtain ⟨_, _, ⟨T80, L80, k80, n80⟩, -, X80, ⟨Lc80, hQ80, l80, y80, z80⟩, st80⟩ := Jvm.LawKit.callS X70 hx (y := (⟨"com/example/lianzhuang/lianzhuang/tile/SuitWithLetterPinLaw", "pick", "(I)Lcom/example/lianzhuang/lianzhuang/tile/Suit;"⟩ : MethodName)) hown (mvT hZ (ww hw 29 rfl)) (mvT hZ (ww hw 30 rfl)) (mvT hZ (ww hw 27 rfl)) (mvT hZ (ww hw 31 rfl)) (by decide) (backOf (W := 0) (rmK3 l Z a0 hw []  aH T69.heap n0  Sta_com_example_lianzhuang_lianzhuang_tile_Suit_HONOURS_69   ) hZ (ww hw 31 rfl) (ww hw 27 rfl) (by decide) (by decide)) (g := (mkF m 19 (Sh6 q1 q2 112) [(.int 3)])) rfl (by rw [hml]; rfl) (argsL := [(.int (3 : Int32))]) (rest := []) (lenOf pd_28I29Lcom2fexample2flianzhuang2flianzhuang2ftile2fSuit3b rfl) rfl (by show 2 * 0 + _ ≤ _; exact Nat.le_of_eq rfl) (hb hby at_19) (fun _ _ => ⟨rfl, e70, (by decide : 1 + 0 ≤ _), (by decide : 4 + 0 ≤ _)⟩)
        dsimp only [Pt.U, Pt.locs, Pt.cells, Pt.slots] at X80 l80 y80 z80 st80 hQ80
        subst l80 y80 z80
        obtain ⟨rfl, N80q, e80⟩ := hQ80
        have N80 := Fr.app N70 N80q
        refine GoW.sg (mkF m 22 (Sh6 q1 q2 112) [(.ref aH)]) (fun t k => st80 t k) ?_
        refine GoW.sg (mkF m 23 (Sh7 q1 q2 112 aH) []) (fun t k => XS.astoreN X80.here hx rfl (hb hby at_22) rfl rfl (l' := (Sh7 q1 q2 112 aH)) rfl k) ?_
        refine GoW.sg (mkF m 24 (Sh7 q1 q2 112 aH) [(.ref aH)]) (fun t k => XS.aloadN X80.here hx rfl (hb hby at_23) rfl rfl k) ?_
        obtain ⟨cq81, kq81, q81a, q81b, q81c⟩ := isOf hZ e80 Exa_aH_69
        obtain ⟨_, _, ⟨T81, L81, k81, n81⟩, -, X81, ⟨Lc81, hQ81, l81, y81, z81⟩, st81⟩ := X80.virtualBack hx (y := (⟨"com/example/lianzhuang/lianzhuang/tile/Suit", "letter", "()C"⟩ : MethodName)) (z := (⟨"com/example/lianzhuang/lianzhuang/tile/Suit", "letter", "()C"⟩ : MethodName)) hown (mvT hZ (ww hw 33 rfl)) (mvT hZ (ww hw 34 rfl)) (notFace_of_selects (args := #[]) (mvT hZ (ww hw 36 rfl))) (mvT hZ (ww hw 36 rfl)) (mvT hZ (ww hw 35 rfl)) (by decide) (backOf (W := 0) (rmL122 l Z a0 hw [] aH  T69.heap n0  Fld_aH_letter_69   ) hZ (ww hw 37 rfl) (ww hw 2 rfl) (by decide) (by decide)) q81a q81c (g := (mkF m 24 (Sh7 q1 q2 112 aH) [(.ref aH)])) rfl (by rw [hml]; rfl) (Steps.refl _) (argsL := []) (rest := []) (lenOf pd_2829C rfl) rfl (by show 2 * 0 + _ ≤ _; exact Nat.le_of_eq rfl) (hb hby at_24) (fun _ _ => ⟨rfl, e80, (by decide : 1 + 0 ≤ _), (by decide : 4 + 0 ≤ _)⟩)
        dsimp only [Pt.U, Pt.locs, Pt.cells, Pt.slots] at X81 l81 y81 z81 st81 hQ81
        subst l81 y81 z81
        obtain ⟨rfl, N81q, e81⟩ := hQ81
        have N81 := Fr.app N80 N81q
        refine GoW.sg (mkF m 27 (Sh7 q1 q2 112 aH) [(.int 122)]) (fun t k => st81.trans k) ?_
        obtain ⟨_, _, ⟨T82, L82, k82, n82⟩, -, X82, ⟨Lc82, hQ82, l82, y82, z82⟩, st82⟩ := Jvm.LawKit.callS X81 hx (y := (⟨"com/example/lianzhuang/lianzhuang/tile/Suit", "withLetter", "(C)Lcom/example/lianzhuang/lianzhuang/tile/Suit;"⟩ : MethodName)) hown (mvT hZ (ww hw 0 rfl)) (mvT hZ (ww hw 1 rfl)) (mvT hZ (ww hw 2 rfl)) (mvT hZ (ww hw 3 rfl)) (by decide) (backOf (W := 0) (rmW122 l Z a0 hw []  aV kV aC aD aB aH T69.heap n0 Zs_69 Sta_com_example_lianzhuang_lianzhuang_tile_Suit_VALUES_69 Arv_aV_69 Exa_aV_69 Fld_aC_letter_69 Fld_aD_letter_69 Fld_aB_letter_69 Fld_aH_letter_69   ) hZ (ww hw 3 rfl) (ww hw 2 rfl) (by decide) (by decide)) (g := (mkF m 27 (Sh7 q1 q2 112 aH) [(.int 122)])) rfl (by rw [hml]; rfl) (argsL := [(.int (122 : Int32))]) (rest := []) (lenOf pd_28C29Lcom2fexample2flianzhuang2flianzhuang2ftile2fSuit3b rfl) rfl (by show 2 * 0 + _ ≤ _; exact Nat.le_of_eq rfl) (hb hby at_27) (fun _ _ => ⟨rfl, e81, (by decide : 1 + 1 ≤ _), (by decide : 4 + 4 ≤ _)⟩)
        dsimp only [Pt.U, Pt.locs, Pt.cells, Pt.slots] at X82 l82 y82 z82 st82 hQ82
        subst l82 y82 z82
        obtain ⟨rfl, N82q, K82⟩ := hQ82
        have N82 := Fr.app N81 N82q
        have Zs_82 : n0 ≤ T82.heap.size := Nat.le_trans Zs_69 K82.1
        have Sta_com_example_lianzhuang_lianzhuang_tile_Suit_VALUES_82 : Sta Z T82.heap "com/example/lianzhuang/lianzhuang/tile/Suit" "$VALUES" "[Lcom/example/lianzhuang/lianzhuang/tile/Suit;" (.ref aV) := own_staK0 Sta_com_example_lianzhuang_lianzhuang_tile_Suit_VALUES_69 K82
        have Arv_aV_82 : Arv Z T82.heap aV kV (.object "com/example/lianzhuang/lianzhuang/tile/Suit") (4 : Int32) [(.ref aC), (.ref aD), (.ref aB), (.ref aH)] .null := Arv_aV_69.keep K82 nin0
        have Exa_aV_82 : Exa Z T82.heap aV "[Lcom/example/lianzhuang/lianzhuang/tile/Suit;" := Exa_aV_69.keep K82
        have Fld_aC_letter_82 : Fld Z T82.heap aC "com/example/lianzhuang/lianzhuang/tile/Suit" "letter" "C" (.int (109 : Int32)) := Fld_aC_letter_69.keep K82 nin0
        have Fld_aD_letter_82 : Fld Z T82.heap aD "com/example/lianzhuang/lianzhuang/tile/Suit" "letter" "C" (.int (112 : Int32)) := Fld_aD_letter_69.keep K82 nin0
        have Fld_aB_letter_82 : Fld Z T82.heap aB "com/example/lianzhuang/lianzhuang/tile/Suit" "letter" "C" (.int (115 : Int32)) := Fld_aB_letter_69.keep K82 nin0
        have Fld_aH_letter_82 : Fld Z T82.heap aH "com/example/lianzhuang/lianzhuang/tile/Suit" "letter" "C" (.int (122 : Int32)) := Fld_aH_letter_69.keep K82 nin0
        have Sta_com_example_lianzhuang_lianzhuang_tile_Suit_CHARACTERS_82 : Sta Z T82.heap "com/example/lianzhuang/lianzhuang/tile/Suit" "CHARACTERS" "Lcom/example/lianzhuang/lianzhuang/tile/Suit;" (.ref aC) := own_staK0 Sta_com_example_lianzhuang_lianzhuang_tile_Suit_CHARACTERS_69 K82
        have Sta_com_example_lianzhuang_lianzhuang_tile_Suit_DOTS_82 : Sta Z T82.heap "com/example/lianzhuang/lianzhuang/tile/Suit" "DOTS" "Lcom/example/lianzhuang/lianzhuang/tile/Suit;" (.ref aD) := own_staK0 Sta_com_example_lianzhuang_lianzhuang_tile_Suit_DOTS_69 K82
        have Sta_com_example_lianzhuang_lianzhuang_tile_Suit_BAMBOO_82 : Sta Z T82.heap "com/example/lianzhuang/lianzhuang/tile/Suit" "BAMBOO" "Lcom/example/lianzhuang/lianzhuang/tile/Suit;" (.ref aB) := own_staK0 Sta_com_example_lianzhuang_lianzhuang_tile_Suit_BAMBOO_69 K82
        have Sta_com_example_lianzhuang_lianzhuang_tile_Suit_HONOURS_82 : Sta Z T82.heap "com/example/lianzhuang/lianzhuang/tile/Suit" "HONOURS" "Lcom/example/lianzhuang/lianzhuang/tile/Suit;" (.ref aH) := own_staK0 Sta_com_example_lianzhuang_lianzhuang_tile_Suit_HONOURS_69 K82
        have Exa_aC_82 : Exa Z T82.heap aC "com/example/lianzhuang/lianzhuang/tile/Suit" := Exa_aC_69.keep K82
        have Exa_aD_82 : Exa Z T82.heap aD "com/example/lianzhuang/lianzhuang/tile/Suit" := Exa_aD_69.keep K82
        have Exa_aB_82 : Exa Z T82.heap aB "com/example/lianzhuang/lianzhuang/tile/Suit" := Exa_aB_69.keep K82
        have Exa_aH_82 : Exa Z T82.heap aH "com/example/lianzhuang/lianzhuang/tile/Suit" := Exa_aH_69.keep K82
        refine GoW.sg (mkF m 30 (Sh7 q1 q2 112 aH) [(.ref aH)]) (fun t k => st82 t k) ?_
        refine GoW.sg (mkF m 31 (Sh7 q1 q2 112 aH) [(.ref aH), (.ref aH)]) (fun t k => XS.aloadN X82.here hx rfl (hb hby at_30) rfl rfl k) ?_
        refine GoW.sg (mkF m 34 (Sh7 q1 q2 112 aH) []) (fun t k => Jvm.RoadKit.acmp X82 hx rfl (cd := .ne) (x := (.ref aH)) (y := (.ref aH)) rfl rfl (pc0 := 31) (pc' := 34) (same := true) rfl (hb hby at_31) rfl (decide_eq_true rfl) (by decide) (by decide) k) ?_
        refine GoW.sg (mkF m 35 (Sh7 q1 q2 112 aH) [(.int 1)]) (fun t k => XS.iconst X82.here hx rfl (hb hby at_34) k) ?_
        refine GoW.sg (mkF m 39 (Sh7 q1 q2 112 aH) [(.int 1)]) (fun t k => XS.goto X82.here hx rfl (pc0 := 35) (pc' := 39) rfl (hb hby at_35) (by decide) (by decide) k) ?_
        refine GoW.retN X82 hx (t := .boolean) Bd.returns (by simp) (hb hby at_39) Bd.notSynchronized ?_ (by decide) (by decide)
        exact ⟨rfl, N82⟩
    · by_cases v115 : z54 = (115 : Int32)
      · rw [v115]
        show GoW p e below s (ValQ (.int (1 : Int32)) n0) room_1.cells room_1.slots (s₁.setTop (mkF m 3 (Sh6 q1 q2 115) []))
        refine GoW.sg (mkF m 4 (Sh6 q1 q2 115) [(.int 115)]) (fun t k => XS.iloadN X0.here hx rfl (hb hby at_3) rfl k) ?_
        obtain ⟨_, _, ⟨T83, L83, k83, n83⟩, -, X83, ⟨Lc83, hQ83, l83, y83, z83⟩, st83⟩ := Jvm.LawKit.callS X0 hx (y := (⟨"com/example/lianzhuang/lianzhuang/tile/Suit", "withLetter", "(C)Lcom/example/lianzhuang/lianzhuang/tile/Suit;"⟩ : MethodName)) hown (mvT hZ (ww hw 0 rfl)) (mvT hZ (ww hw 1 rfl)) (mvT hZ (ww hw 2 rfl)) (mvT hZ (ww hw 3 rfl)) (by decide) (backOf (W := 0) (rmW115 l Z a0 hw []  aV kV aC aD aB aH h0 n0 Z0 P0 P1 P2 P3 P4 P5 P6   ) hZ (ww hw 3 rfl) (ww hw 2 rfl) (by decide) (by decide)) (g := (mkF m 4 (Sh6 q1 q2 115) [(.int 115)])) rfl (by rw [hml]; rfl) (argsL := [(.int (115 : Int32))]) (rest := []) (lenOf pd_28C29Lcom2fexample2flianzhuang2flianzhuang2ftile2fSuit3b rfl) rfl (by show 2 * 0 + _ ≤ _; exact Nat.le_of_eq rfl) (hb hby at_4) (fun _ _ => ⟨rfl, e0, (by decide : 0 + 1 ≤ _), (by decide : 0 + 4 ≤ _)⟩)
        dsimp only [Pt.U, Pt.locs, Pt.cells, Pt.slots] at X83 l83 y83 z83 st83 hQ83
        subst l83 y83 z83
        obtain ⟨rfl, N83q, K83⟩ := hQ83
        have N83 := Fr.app N0 N83q
        have Zs_83 : n0 ≤ T83.heap.size := Nat.le_trans Z0 K83.1
        have Sta_com_example_lianzhuang_lianzhuang_tile_Suit_VALUES_83 : Sta Z T83.heap "com/example/lianzhuang/lianzhuang/tile/Suit" "$VALUES" "[Lcom/example/lianzhuang/lianzhuang/tile/Suit;" (.ref aV) := own_staK0 P0 K83
        have Arv_aV_83 : Arv Z T83.heap aV kV (.object "com/example/lianzhuang/lianzhuang/tile/Suit") (4 : Int32) [(.ref aC), (.ref aD), (.ref aB), (.ref aH)] .null := P1.keep K83 nin0
        have Exa_aV_83 : Exa Z T83.heap aV "[Lcom/example/lianzhuang/lianzhuang/tile/Suit;" := P2.keep K83
        have Fld_aC_letter_83 : Fld Z T83.heap aC "com/example/lianzhuang/lianzhuang/tile/Suit" "letter" "C" (.int (109 : Int32)) := P3.keep K83 nin0
        have Fld_aD_letter_83 : Fld Z T83.heap aD "com/example/lianzhuang/lianzhuang/tile/Suit" "letter" "C" (.int (112 : Int32)) := P4.keep K83 nin0
        have Fld_aB_letter_83 : Fld Z T83.heap aB "com/example/lianzhuang/lianzhuang/tile/Suit" "letter" "C" (.int (115 : Int32)) := P5.keep K83 nin0
        have Fld_aH_letter_83 : Fld Z T83.heap aH "com/example/lianzhuang/lianzhuang/tile/Suit" "letter" "C" (.int (122 : Int32)) := P6.keep K83 nin0
        have Sta_com_example_lianzhuang_lianzhuang_tile_Suit_CHARACTERS_83 : Sta Z T83.heap "com/example/lianzhuang/lianzhuang/tile/Suit" "CHARACTERS" "Lcom/example/lianzhuang/lianzhuang/tile/Suit;" (.ref aC) := own_staK0 P7 K83
        have Sta_com_example_lianzhuang_lianzhuang_tile_Suit_DOTS_83 : Sta Z T83.heap "com/example/lianzhuang/lianzhuang/tile/Suit" "DOTS" "Lcom/example/lianzhuang/lianzhuang/tile/Suit;" (.ref aD) := own_staK0 P8 K83
        have Sta_com_example_lianzhuang_lianzhuang_tile_Suit_BAMBOO_83 : Sta Z T83.heap "com/example/lianzhuang/lianzhuang/tile/Suit" "BAMBOO" "Lcom/example/lianzhuang/lianzhuang/tile/Suit;" (.ref aB) := own_staK0 P9 K83
        have Sta_com_example_lianzhuang_lianzhuang_tile_Suit_HONOURS_83 : Sta Z T83.heap "com/example/lianzhuang/lianzhuang/tile/Suit" "HONOURS" "Lcom/example/lianzhuang/lianzhuang/tile/Suit;" (.ref aH) := own_staK0 P10 K83
        have Exa_aC_83 : Exa Z T83.heap aC "com/example/lianzhuang/lianzhuang/tile/Suit" := P11.keep K83
        have Exa_aD_83 : Exa Z T83.heap aD "com/example/lianzhuang/lianzhuang/tile/Suit" := P12.keep K83
        have Exa_aB_83 : Exa Z T83.heap aB "com/example/lianzhuang/lianzhuang/tile/Suit" := P13.keep K83
        have Exa_aH_83 : Exa Z T83.heap aH "com/example/lianzhuang/lianzhuang/tile/Suit" := P14.keep K83
        refine GoW.sg (mkF m 7 (Sh6 q1 q2 115) [(.ref aB)]) (fun t k => st83 t k) ?_
        refine GoW.sg (mkF m 8 (Sh6 q1 q2 115) [(.int 115), (.ref aB)]) (fun t k => XS.iloadN X83.here hx rfl (hb hby at_7) rfl k) ?_
        obtain ⟨_, _, ⟨T84, L84, k84, n84⟩, -, X84, ⟨Lc84, hQ84, l84, y84, z84⟩, st84⟩ := Jvm.LawKit.callS X83 hx (y := (⟨"com/example/lianzhuang/lianzhuang/tile/SuitWithLetterPinLaw", "expectedFor", "(C)Lcom/example/lianzhuang/lianzhuang/tile/Suit;"⟩ : MethodName)) hown (mvT hZ (ww hw 25 rfl)) (mvT hZ (ww hw 26 rfl)) (mvT hZ (ww hw 27 rfl)) (mvT hZ (ww hw 28 rfl)) (by decide) (backOf (W := 1) (rmE115 l Z a0 hw []  aB T83.heap n0  Sta_com_example_lianzhuang_lianzhuang_tile_Suit_BAMBOO_83   ) hZ (ww hw 28 rfl) (ww hw 27 rfl) (by decide) (by decide)) (g := (mkF m 8 (Sh6 q1 q2 115) [(.int 115), (.ref aB)])) rfl (by rw [hml]; rfl) (argsL := [(.int (115 : Int32))]) (rest := [(.ref aB)]) (lenOf pd_28C29Lcom2fexample2flianzhuang2flianzhuang2ftile2fSuit3b rfl) rfl (by show 2 * 0 + _ ≤ _; exact Nat.le_of_eq rfl) (hb hby at_8) (fun _ _ => ⟨rfl, rfl, (by decide : 1 + 0 ≤ _), (by decide : 4 + 0 ≤ _)⟩)
        dsimp only [Pt.U, Pt.locs, Pt.cells, Pt.slots] at X84 l84 y84 z84 st84 hQ84
        subst l84 y84 z84
        obtain ⟨rfl, N84q, e84⟩ := hQ84
        have N84 := Fr.app N83 N84q
        refine GoW.sg (mkF m 11 (Sh6 q1 q2 115) [(.ref aB), (.ref aB)]) (fun t k => st84 t k) ?_
        refine GoW.sg (mkF m 16 (Sh6 q1 q2 115) []) (fun t k => Jvm.RoadKit.acmp X84 hx rfl (cd := .eq) (x := (.ref aB)) (y := (.ref aB)) rfl rfl (pc0 := 11) (pc' := 16) (same := true) rfl (hb hby at_11) rfl (decide_eq_true rfl) (by decide) (by decide) k) ?_
        refine GoW.sg (mkF m 17 (Sh6 q1 q2 115) [(.int q2)]) (fun t k => XS.iloadN X84.here hx rfl (hb hby at_16) rfl k) ?_
        refine GoW.sg (mkF m 18 (Sh6 q1 q2 115) [(.int 3), (.int q2)]) (fun t k => XS.iconst X84.here hx rfl (hb hby at_17) k) ?_
        refine GoW.sg (mkF m 19 (Sh6 q1 q2 115) [(.int (q2 &&& (3 : Int32)))]) (fun t k => XS.iand X84.here hx rfl (hb hby at_18) rfl k) ?_
        rcases own_and3 q2 with vv | vv | vv | vv
        · rw [vv]
          show GoW p e below s (ValQ (.int (1 : Int32)) n0) room_1.cells room_1.slots (T84.setTop (mkF m 19 (Sh6 q1 q2 115) [(.int 0)]))
          obtain ⟨_, _, ⟨T85, L85, k85, n85⟩, -, X85, ⟨Lc85, hQ85, l85, y85, z85⟩, st85⟩ := Jvm.LawKit.callS X84 hx (y := (⟨"com/example/lianzhuang/lianzhuang/tile/SuitWithLetterPinLaw", "pick", "(I)Lcom/example/lianzhuang/lianzhuang/tile/Suit;"⟩ : MethodName)) hown (mvT hZ (ww hw 29 rfl)) (mvT hZ (ww hw 30 rfl)) (mvT hZ (ww hw 27 rfl)) (mvT hZ (ww hw 31 rfl)) (by decide) (backOf (W := 0) (rmK0 l Z a0 hw []  aC T83.heap n0  Sta_com_example_lianzhuang_lianzhuang_tile_Suit_CHARACTERS_83   ) hZ (ww hw 31 rfl) (ww hw 27 rfl) (by decide) (by decide)) (g := (mkF m 19 (Sh6 q1 q2 115) [(.int 0)])) rfl (by rw [hml]; rfl) (argsL := [(.int (0 : Int32))]) (rest := []) (lenOf pd_28I29Lcom2fexample2flianzhuang2flianzhuang2ftile2fSuit3b rfl) rfl (by show 2 * 0 + _ ≤ _; exact Nat.le_of_eq rfl) (hb hby at_19) (fun _ _ => ⟨rfl, e84, (by decide : 1 + 0 ≤ _), (by decide : 4 + 0 ≤ _)⟩)
          dsimp only [Pt.U, Pt.locs, Pt.cells, Pt.slots] at X85 l85 y85 z85 st85 hQ85
          subst l85 y85 z85
          obtain ⟨rfl, N85q, e85⟩ := hQ85
          have N85 := Fr.app N84 N85q
          refine GoW.sg (mkF m 22 (Sh6 q1 q2 115) [(.ref aC)]) (fun t k => st85 t k) ?_
          refine GoW.sg (mkF m 23 (Sh7 q1 q2 115 aC) []) (fun t k => XS.astoreN X85.here hx rfl (hb hby at_22) rfl rfl (l' := (Sh7 q1 q2 115 aC)) rfl k) ?_
          refine GoW.sg (mkF m 24 (Sh7 q1 q2 115 aC) [(.ref aC)]) (fun t k => XS.aloadN X85.here hx rfl (hb hby at_23) rfl rfl k) ?_
          obtain ⟨cq86, kq86, q86a, q86b, q86c⟩ := isOf hZ e85 Exa_aC_83
          obtain ⟨_, _, ⟨T86, L86, k86, n86⟩, -, X86, ⟨Lc86, hQ86, l86, y86, z86⟩, st86⟩ := X85.virtualBack hx (y := (⟨"com/example/lianzhuang/lianzhuang/tile/Suit", "letter", "()C"⟩ : MethodName)) (z := (⟨"com/example/lianzhuang/lianzhuang/tile/Suit", "letter", "()C"⟩ : MethodName)) hown (mvT hZ (ww hw 33 rfl)) (mvT hZ (ww hw 34 rfl)) (notFace_of_selects (args := #[]) (mvT hZ (ww hw 36 rfl))) (mvT hZ (ww hw 36 rfl)) (mvT hZ (ww hw 35 rfl)) (by decide) (backOf (W := 0) (rmL109 l Z a0 hw [] aC  T83.heap n0  Fld_aC_letter_83   ) hZ (ww hw 37 rfl) (ww hw 2 rfl) (by decide) (by decide)) q86a q86c (g := (mkF m 24 (Sh7 q1 q2 115 aC) [(.ref aC)])) rfl (by rw [hml]; rfl) (Steps.refl _) (argsL := []) (rest := []) (lenOf pd_2829C rfl) rfl (by show 2 * 0 + _ ≤ _; exact Nat.le_of_eq rfl) (hb hby at_24) (fun _ _ => ⟨rfl, e85, (by decide : 1 + 0 ≤ _), (by decide : 4 + 0 ≤ _)⟩)
          dsimp only [Pt.U, Pt.locs, Pt.cells, Pt.slots] at X86 l86 y86 z86 st86 hQ86
          subst l86 y86 z86
          obtain ⟨rfl, N86q, e86⟩ := hQ86
          have N86 := Fr.app N85 N86q
          refine GoW.sg (mkF m 27 (Sh7 q1 q2 115 aC) [(.int 109)]) (fun t k => st86.trans k) ?_
          obtain ⟨_, _, ⟨T87, L87, k87, n87⟩, -, X87, ⟨Lc87, hQ87, l87, y87, z87⟩, st87⟩ := Jvm.LawKit.callS X86 hx (y := (⟨"com/example/lianzhuang/lianzhuang/tile/Suit", "withLetter", "(C)Lcom/example/lianzhuang/lianzhuang/tile/Suit;"⟩ : MethodName)) hown (mvT hZ (ww hw 0 rfl)) (mvT hZ (ww hw 1 rfl)) (mvT hZ (ww hw 2 rfl)) (mvT hZ (ww hw 3 rfl)) (by decide) (backOf (W := 0) (rmW109 l Z a0 hw []  aV kV aC aD aB aH T83.heap n0 Zs_83 Sta_com_example_lianzhuang_lianzhuang_tile_Suit_VALUES_83 Arv_aV_83 Exa_aV_83 Fld_aC_letter_83 Fld_aD_letter_83 Fld_aB_letter_83 Fld_aH_letter_83   ) hZ (ww hw 3 rfl) (ww hw 2 rfl) (by decide) (by decide)) (g := (mkF m 27 (Sh7 q1 q2 115 aC) [(.int 109)])) rfl (by rw [hml]; rfl) (argsL := [(.int (109 : Int32))]) (rest := []) (lenOf pd_28C29Lcom2fexample2flianzhuang2flianzhuang2ftile2fSuit3b rfl) rfl (by show 2 * 0 + _ ≤ _; exact Nat.le_of_eq rfl) (hb hby at_27) (fun _ _ => ⟨rfl, e86, (by decide : 1 + 1 ≤ _), (by decide : 4 + 4 ≤ _)⟩)
          dsimp only [Pt.U, Pt.locs, Pt.cells, Pt.slots] at X87 l87 y87 z87 st87 hQ87
          subst l87 y87 z87
          obtain ⟨rfl, N87q, K87⟩ := hQ87
          have N87 := Fr.app N86 N87q
          have Zs_87 : n0 ≤ T87.heap.size := Nat.le_trans Zs_83 K87.1
          have Sta_com_example_lianzhuang_lianzhuang_tile_Suit_VALUES_87 : Sta Z T87.heap "com/example/lianzhuang/lianzhuang/tile/Suit" "$VALUES" "[Lcom/example/lianzhuang/lianzhuang/tile/Suit;" (.ref aV) := own_staK0 Sta_com_example_lianzhuang_lianzhuang_tile_Suit_VALUES_83 K87
          have Arv_aV_87 : Arv Z T87.heap aV kV (.object "com/example/lianzhuang/lianzhuang/tile/Suit") (4 : Int32) [(.ref aC), (.ref aD), (.ref aB), (.ref aH)] .null := Arv_aV_83.keep K87 nin0
          have Exa_aV_87 : Exa Z T87.heap aV "[Lcom/example/lianzhuang/lianzhuang/tile/Suit;" := Exa_aV_83.keep K87
          have Fld_aC_letter_87 : Fld Z T87.heap aC "com/example/lianzhuang/lianzhuang/tile/Suit" "letter" "C" (.int (109 : Int32)) := Fld_aC_letter_83.keep K87 nin0
          have Fld_aD_letter_87 : Fld Z T87.heap aD "com/example/lianzhuang/lianzhuang/tile/Suit" "letter" "C" (.int (112 : Int32)) := Fld_aD_letter_83.keep K87 nin0
          have Fld_aB_letter_87 : Fld Z T87.heap aB "com/example/lianzhuang/lianzhuang/tile/Suit" "letter" "C" (.int (115 : Int32)) := Fld_aB_letter_83.keep K87 nin0
          have Fld_aH_letter_87 : Fld Z T87.heap aH "com/example/lianzhuang/lianzhuang/tile/Suit" "letter" "C" (.int (122 : Int32)) := Fld_aH_letter_83.keep K87 nin0
          have Sta_com_example_lianzhuang_lianzhuang_tile_Suit_CHARACTERS_87 : Sta Z T87.heap "com/example/lianzhuang/lianzhuang/tile/Suit" "CHARACTERS" "Lcom/example/lianzhuang/lianzhuang/tile/Suit;" (.ref aC) := own_staK0 Sta_com_example_lianzhuang_lianzhuang_tile_Suit_CHARACTERS_83 K87
          have Sta_com_example_lianzhuang_lianzhuang_tile_Suit_DOTS_87 : Sta Z T87.heap "com/example/lianzhuang/lianzhuang/tile/Suit" "DOTS" "Lcom/example/lianzhuang/lianzhuang/tile/Suit;" (.ref aD) := own_staK0 Sta_com_example_lianzhuang_lianzhuang_tile_Suit_DOTS_83 K87
          have Sta_com_example_lianzhuang_lianzhuang_tile_Suit_BAMBOO_87 : Sta Z T87.heap "com/example/lianzhuang/lianzhuang/tile/Suit" "BAMBOO" "Lcom/example/lianzhuang/lianzhuang/tile/Suit;" (.ref aB) := own_staK0 Sta_com_example_lianzhuang_lianzhuang_tile_Suit_BAMBOO_83 K87
          have Sta_com_example_lianzhuang_lianzhuang_tile_Suit_HONOURS_87 : Sta Z T87.heap "com/example/lianzhuang/lianzhuang/tile/Suit" "HONOURS" "Lcom/example/lianzhuang/lianzhuang/tile/Suit;" (.ref aH) := own_staK0 Sta_com_example_lianzhuang_lianzhuang_tile_Suit_HONOURS_83 K87
          have Exa_aC_87 : Exa Z T87.heap aC "com/example/lianzhuang/lianzhuang/tile/Suit" := Exa_aC_83.keep K87
          have Exa_aD_87 : Exa Z T87.heap aD "com/example/lianzhuang/lianzhuang/tile/Suit" := Exa_aD_83.keep K87
          have Exa_aB_87 : Exa Z T87.heap aB "com/example/lianzhuang/lianzhuang/tile/Suit" := Exa_aB_83.keep K87
          have Exa_aH_87 : Exa Z T87.heap aH "com/example/lianzhuang/lianzhuang/tile/Suit" := Exa_aH_83.keep K87
          refine GoW.sg (mkF m 30 (Sh7 q1 q2 115 aC) [(.ref aC)]) (fun t k => st87 t k) ?_
          refine GoW.sg (mkF m 31 (Sh7 q1 q2 115 aC) [(.ref aC), (.ref aC)]) (fun t k => XS.aloadN X87.here hx rfl (hb hby at_30) rfl rfl k) ?_
          refine GoW.sg (mkF m 34 (Sh7 q1 q2 115 aC) []) (fun t k => Jvm.RoadKit.acmp X87 hx rfl (cd := .ne) (x := (.ref aC)) (y := (.ref aC)) rfl rfl (pc0 := 31) (pc' := 34) (same := true) rfl (hb hby at_31) rfl (decide_eq_true rfl) (by decide) (by decide) k) ?_
          refine GoW.sg (mkF m 35 (Sh7 q1 q2 115 aC) [(.int 1)]) (fun t k => XS.iconst X87.here hx rfl (hb hby at_34) k) ?_
          refine GoW.sg (mkF m 39 (Sh7 q1 q2 115 aC) [(.int 1)]) (fun t k => XS.goto X87.here hx rfl (pc0 := 35) (pc' := 39) rfl (hb hby at_35) (by decide) (by decide) k) ?_
          refine GoW.retN X87 hx (t := .boolean) Bd.returns (by simp) (hb hby at_39) Bd.notSynchronized ?_ (by decide) (by decide)
          exact ⟨rfl, N87⟩
        · rw [vv]
          show GoW p e below s (ValQ (.int (1 : Int32)) n0) room_1.cells room_1.slots (T84.setTop (mkF m 19 (Sh6 q1 q2 115) [(.int 1)]))
          obtain ⟨_, _, ⟨T88, L88, k88, n88⟩, -, X88, ⟨Lc88, hQ88, l88, y88, z88⟩, st88⟩ := Jvm.LawKit.callS X84 hx (y := (⟨"com/example/lianzhuang/lianzhuang/tile/SuitWithLetterPinLaw", "pick", "(I)Lcom/example/lianzhuang/lianzhuang/tile/Suit;"⟩ : MethodName)) hown (mvT hZ (ww hw 29 rfl)) (mvT hZ (ww hw 30 rfl)) (mvT hZ (ww hw 27 rfl)) (mvT hZ (ww hw 31 rfl)) (by decide) (backOf (W := 0) (rmK1 l Z a0 hw []  aD T83.heap n0  Sta_com_example_lianzhuang_lianzhuang_tile_Suit_DOTS_83   ) hZ (ww hw 31 rfl) (ww hw 27 rfl) (by decide) (by decide)) (g := (mkF m 19 (Sh6 q1 q2 115) [(.int 1)])) rfl (by rw [hml]; rfl) (argsL := [(.int (1 : Int32))]) (rest := []) (lenOf pd_28I29Lcom2fexample2flianzhuang2flianzhuang2ftile2fSuit3b rfl) rfl (by show 2 * 0 + _ ≤ _; exact Nat.le_of_eq rfl) (hb hby at_19) (fun _ _ => ⟨rfl, e84, (by decide : 1 + 0 ≤ _), (by decide : 4 + 0 ≤ _)⟩)
          dsimp only [Pt.U, Pt.locs, Pt.cells, Pt.slots] at X88 l88 y88 z88 st88 hQ88
          subst l88 y88 z88
          obtain ⟨rfl, N88q, e88⟩ := hQ88
          have N88 := Fr.app N84 N88q
          refine GoW.sg (mkF m 22 (Sh6 q1 q2 115) [(.ref aD)]) (fun t k => st88 t k) ?_
          refine GoW.sg (mkF m 23 (Sh7 q1 q2 115 aD) []) (fun t k => XS.astoreN X88.here hx rfl (hb hby at_22) rfl rfl (l' := (Sh7 q1 q2 115 aD)) rfl k) ?_
          refine GoW.sg (mkF m 24 (Sh7 q1 q2 115 aD) [(.ref aD)]) (fun t k => XS.aloadN X88.here hx rfl (hb hby at_23) rfl rfl k) ?_
          obtain ⟨cq89, kq89, q89a, q89b, q89c⟩ := isOf hZ e88 Exa_aD_83
          obtain ⟨_, _, ⟨T89, L89, k89, n89⟩, -, X89, ⟨Lc89, hQ89, l89, y89, z89⟩, st89⟩ := X88.virtualBack hx (y := (⟨"com/example/lianzhuang/lianzhuang/tile/Suit", "letter", "()C"⟩ : MethodName)) (z := (⟨"com/example/lianzhuang/lianzhuang/tile/Suit", "letter", "()C"⟩ : MethodName)) hown (mvT hZ (ww hw 33 rfl)) (mvT hZ (ww hw 34 rfl)) (notFace_of_selects (args := #[]) (mvT hZ (ww hw 36 rfl))) (mvT hZ (ww hw 36 rfl)) (mvT hZ (ww hw 35 rfl)) (by decide) (backOf (W := 0) (rmL112 l Z a0 hw [] aD  T83.heap n0  Fld_aD_letter_83   ) hZ (ww hw 37 rfl) (ww hw 2 rfl) (by decide) (by decide)) q89a q89c (g := (mkF m 24 (Sh7 q1 q2 115 aD) [(.ref aD)])) rfl (by rw [hml]; rfl) (Steps.refl _) (argsL := []) (rest := []) (lenOf pd_2829C rfl) rfl (by show 2 * 0 + _ ≤ _; exact Nat.le_of_eq rfl) (hb hby at_24) (fun _ _ => ⟨rfl, e88, (by decide : 1 + 0 ≤ _), (by decide : 4 + 0 ≤ _)⟩)
          dsimp only [Pt.U, Pt.locs, Pt.cells, Pt.slots] at X89 l89 y89 z89 st89 hQ89
          subst l89 y89 z89
          obtain ⟨rfl, N89q, e89⟩ := hQ89
          have N89 := Fr.app N88 N89q
          refine GoW.sg (mkF m 27 (Sh7 q1 q2 115 aD) [(.int 112)]) (fun t k => st89.trans k) ?_
          obtain ⟨_, _, ⟨T90, L90, k90, n90⟩, -, X90, ⟨Lc90, hQ90, l90, y90, z90⟩, st90⟩ := Jvm.LawKit.callS X89 hx (y := (⟨"com/example/lianzhuang/lianzhuang/tile/Suit", "withLetter", "(C)Lcom/example/lianzhuang/lianzhuang/tile/Suit;"⟩ : MethodName)) hown (mvT hZ (ww hw 0 rfl)) (mvT hZ (ww hw 1 rfl)) (mvT hZ (ww hw 2 rfl)) (mvT hZ (ww hw 3 rfl)) (by decide) (backOf (W := 0) (rmW112 l Z a0 hw []  aV kV aC aD aB aH T83.heap n0 Zs_83 Sta_com_example_lianzhuang_lianzhuang_tile_Suit_VALUES_83 Arv_aV_83 Exa_aV_83 Fld_aC_letter_83 Fld_aD_letter_83 Fld_aB_letter_83 Fld_aH_letter_83   ) hZ (ww hw 3 rfl) (ww hw 2 rfl) (by decide) (by decide)) (g := (mkF m 27 (Sh7 q1 q2 115 aD) [(.int 112)])) rfl (by rw [hml]; rfl) (argsL := [(.int (112 : Int32))]) (rest := []) (lenOf pd_28C29Lcom2fexample2flianzhuang2flianzhuang2ftile2fSuit3b rfl) rfl (by show 2 * 0 + _ ≤ _; exact Nat.le_of_eq rfl) (hb hby at_27) (fun _ _ => ⟨rfl, e89, (by decide : 1 + 1 ≤ _), (by decide : 4 + 4 ≤ _)⟩)
          dsimp only [Pt.U, Pt.locs, Pt.cells, Pt.slots] at X90 l90 y90 z90 st90 hQ90
          subst l90 y90 z90
          obtain ⟨rfl, N90q, K90⟩ := hQ90
          have N90 := Fr.app N89 N90q
          have Zs_90 : n0 ≤ T90.heap.size := Nat.le_trans Zs_83 K90.1
          have Sta_com_example_lianzhuang_lianzhuang_tile_Suit_VALUES_90 : Sta Z T90.heap "com/example/lianzhuang/lianzhuang/tile/Suit" "$VALUES" "[Lcom/example/lianzhuang/lianzhuang/tile/Suit;" (.ref aV) := own_staK0 Sta_com_example_lianzhuang_lianzhuang_tile_Suit_VALUES_83 K90
          have Arv_aV_90 : Arv Z T90.heap aV kV (.object "com/example/lianzhuang/lianzhuang/tile/Suit") (4 : Int32) [(.ref aC), (.ref aD), (.ref aB), (.ref aH)] .null := Arv_aV_83.keep K90 nin0
          have Exa_aV_90 : Exa Z T90.heap aV "[Lcom/example/lianzhuang/lianzhuang/tile/Suit;" := Exa_aV_83.keep K90
          have Fld_aC_letter_90 : Fld Z T90.heap aC "com/example/lianzhuang/lianzhuang/tile/Suit" "letter" "C" (.int (109 : Int32)) := Fld_aC_letter_83.keep K90 nin0
          have Fld_aD_letter_90 : Fld Z T90.heap aD "com/example/lianzhuang/lianzhuang/tile/Suit" "letter" "C" (.int (112 : Int32)) := Fld_aD_letter_83.keep K90 nin0
          have Fld_aB_letter_90 : Fld Z T90.heap aB "com/example/lianzhuang/lianzhuang/tile/Suit" "letter" "C" (.int (115 : Int32)) := Fld_aB_letter_83.keep K90 nin0
          have Fld_aH_letter_90 : Fld Z T90.heap aH "com/example/lianzhuang/lianzhuang/tile/Suit" "letter" "C" (.int (122 : Int32)) := Fld_aH_letter_83.keep K90 nin0
          have Sta_com_example_lianzhuang_lianzhuang_tile_Suit_CHARACTERS_90 : Sta Z T90.heap "com/example/lianzhuang/lianzhuang/tile/Suit" "CHARACTERS" "Lcom/example/lianzhuang/lianzhuang/tile/Suit;" (.ref aC) := own_staK0 Sta_com_example_lianzhuang_lianzhuang_tile_Suit_CHARACTERS_83 K90
          have Sta_com_example_lianzhuang_lianzhuang_tile_Suit_DOTS_90 : Sta Z T90.heap "com/example/lianzhuang/lianzhuang/tile/Suit" "DOTS" "Lcom/example/lianzhuang/lianzhuang/tile/Suit;" (.ref aD) := own_staK0 Sta_com_example_lianzhuang_lianzhuang_tile_Suit_DOTS_83 K90
          have Sta_com_example_lianzhuang_lianzhuang_tile_Suit_BAMBOO_90 : Sta Z T90.heap "com/example/lianzhuang/lianzhuang/tile/Suit" "BAMBOO" "Lcom/example/lianzhuang/lianzhuang/tile/Suit;" (.ref aB) := own_staK0 Sta_com_example_lianzhuang_lianzhuang_tile_Suit_BAMBOO_83 K90
          have Sta_com_example_lianzhuang_lianzhuang_tile_Suit_HONOURS_90 : Sta Z T90.heap "com/example/lianzhuang/lianzhuang/tile/Suit" "HONOURS" "Lcom/example/lianzhuang/lianzhuang/tile/Suit;" (.ref aH) := own_staK0 Sta_com_example_lianzhuang_lianzhuang_tile_Suit_HONOURS_83 K90
          have Exa_aC_90 : Exa Z T90.heap aC "com/example/lianzhuang/lianzhuang/tile/Suit" := Exa_aC_83.keep K90
          have Exa_aD_90 : Exa Z T90.heap aD "com/example/lianzhuang/lianzhuang/tile/Suit" := Exa_aD_83.keep K90
          have Exa_aB_90 : Exa Z T90.heap aB "com/example/lianzhuang/lianzhuang/tile/Suit" := Exa_aB_83.keep K90
          have Exa_aH_90 : Exa Z T90.heap aH "com/example/lianzhuang/lianzhuang/tile/Suit" := Exa_aH_83.keep K90
          refine GoW.sg (mkF m 30 (Sh7 q1 q2 115 aD) [(.ref aD)]) (fun t k => st90 t k) ?_
          refine GoW.sg (mkF m 31 (Sh7 q1 q2 115 aD) [(.ref aD), (.ref aD)]) (fun t k => XS.aloadN X90.here hx rfl (hb hby at_30) rfl rfl k) ?_
          refine GoW.sg (mkF m 34 (Sh7 q1 q2 115 aD) []) (fun t k => Jvm.RoadKit.acmp X90 hx rfl (cd := .ne) (x := (.ref aD)) (y := (.ref aD)) rfl rfl (pc0 := 31) (pc' := 34) (same := true) rfl (hb hby at_31) rfl (decide_eq_true rfl) (by decide) (by decide) k) ?_
          refine GoW.sg (mkF m 35 (Sh7 q1 q2 115 aD) [(.int 1)]) (fun t k => XS.iconst X90.here hx rfl (hb hby at_34) k) ?_
          refine GoW.sg (mkF m 39 (Sh7 q1 q2 115 aD) [(.int 1)]) (fun t k => XS.goto X90.here hx rfl (pc0 := 35) (pc' := 39) rfl (hb hby at_35) (by decide) (by decide) k) ?_
          refine GoW.retN X90 hx (t := .boolean) Bd.returns (by simp) (hb hby at_39) Bd.notSynchronized ?_ (by decide) (by decide)
          exact ⟨rfl, N90⟩
        · rw [vv]
          show GoW p e below s (ValQ (.int (1 : Int32)) n0) room_1.cells room_1.slots (T84.setTop (mkF m 19 (Sh6 q1 q2 115) [(.int 2)]))
          obtain ⟨_, _, ⟨T91, L91, k91, n91⟩, -, X91, ⟨Lc91, hQ91, l91, y91, z91⟩, st91⟩ := Jvm.LawKit.callS X84 hx (y := (⟨"com/example/lianzhuang/lianzhuang/tile/SuitWithLetterPinLaw", "pick", "(I)Lcom/example/lianzhuang/lianzhuang/tile/Suit;"⟩ : MethodName)) hown (mvT hZ (ww hw 29 rfl)) (mvT hZ (ww hw 30 rfl)) (mvT hZ (ww hw 27 rfl)) (mvT hZ (ww hw 31 rfl)) (by decide) (backOf (W := 0) (rmK2 l Z a0 hw []  aB T83.heap n0  Sta_com_example_lianzhuang_lianzhuang_tile_Suit_BAMBOO_83   ) hZ (ww hw 31 rfl) (ww hw 27 rfl) (by decide) (by decide)) (g := (mkF m 19 (Sh6 q1 q2 115) [(.int 2)])) rfl (by rw [hml]; rfl) (argsL := [(.int (2 : Int32))]) (rest := []) (lenOf pd_28I29Lcom2fexample2flianzhuang2flianzhuang2ftile2fSuit3b rfl) rfl (by show 2 * 0 + _ ≤ _; exact Nat.le_of_eq rfl) (hb hby at_19) (fun _ _ => ⟨rfl, e84, (by decide : 1 + 0 ≤ _), (by decide : 4 + 0 ≤ _)⟩)
          dsimp only [Pt.U, Pt.locs, Pt.cells, Pt.slots] at X91 l91 y91 z91 st91 hQ91
          subst l91 y91 z91
          obtain ⟨rfl, N91q, e91⟩ := hQ91
          have N91 := Fr.app N84 N91q
          refine GoW.sg (mkF m 22 (Sh6 q1 q2 115) [(.ref aB)]) (fun t k => st91 t k) ?_
          refine GoW.sg (mkF m 23 (Sh7 q1 q2 115 aB) []) (fun t k => XS.astoreN X91.here hx rfl (hb hby at_22) rfl rfl (l' := (Sh7 q1 q2 115 aB)) rfl k) ?_
          refine GoW.sg (mkF m 24 (Sh7 q1 q2 115 aB) [(.ref aB)]) (fun t k => XS.aloadN X91.here hx rfl (hb hby at_23) rfl rfl k) ?_
          obtain ⟨cq92, kq92, q92a, q92b, q92c⟩ := isOf hZ e91 Exa_aB_83
          obtain ⟨_, _, ⟨T92, L92, k92, n92⟩, -, X92, ⟨Lc92, hQ92, l92, y92, z92⟩, st92⟩ := X91.virtualBack hx (y := (⟨"com/example/lianzhuang/lianzhuang/tile/Suit", "letter", "()C"⟩ : MethodName)) (z := (⟨"com/example/lianzhuang/lianzhuang/tile/Suit", "letter", "()C"⟩ : MethodName)) hown (mvT hZ (ww hw 33 rfl)) (mvT hZ (ww hw 34 rfl)) (notFace_of_selects (args := #[]) (mvT hZ (ww hw 36 rfl))) (mvT hZ (ww hw 36 rfl)) (mvT hZ (ww hw 35 rfl)) (by decide) (backOf (W := 0) (rmL115 l Z a0 hw [] aB  T83.heap n0  Fld_aB_letter_83   ) hZ (ww hw 37 rfl) (ww hw 2 rfl) (by decide) (by decide)) q92a q92c (g := (mkF m 24 (Sh7 q1 q2 115 aB) [(.ref aB)])) rfl (by rw [hml]; rfl) (Steps.refl _) (argsL := []) (rest := []) (lenOf pd_2829C rfl) rfl (by show 2 * 0 + _ ≤ _; exact Nat.le_of_eq rfl) (hb hby at_24) (fun _ _ => ⟨rfl, e91, (by decide : 1 + 0 ≤ _), (by decide : 4 + 0 ≤ _)⟩)
          dsimp only [Pt.U, Pt.locs, Pt.cells, Pt.slots] at X92 l92 y92 z92 st92 hQ92
          subst l92 y92 z92
          obtain ⟨rfl, N92q, e92⟩ := hQ92
          have N92 := Fr.app N91 N92q
          refine GoW.sg (mkF m 27 (Sh7 q1 q2 115 aB) [(.int 115)]) (fun t k => st92.trans k) ?_
          obtain ⟨_, _, ⟨T93, L93, k93, n93⟩, -, X93, ⟨Lc93, hQ93, l93, y93, z93⟩, st93⟩ := Jvm.LawKit.callS X92 hx (y := (⟨"com/example/lianzhuang/lianzhuang/tile/Suit", "withLetter", "(C)Lcom/example/lianzhuang/lianzhuang/tile/Suit;"⟩ : MethodName)) hown (mvT hZ (ww hw 0 rfl)) (mvT hZ (ww hw 1 rfl)) (mvT hZ (ww hw 2 rfl)) (mvT hZ (ww hw 3 rfl)) (by decide) (backOf (W := 0) (rmW115 l Z a0 hw []  aV kV aC aD aB aH T83.heap n0 Zs_83 Sta_com_example_lianzhuang_lianzhuang_tile_Suit_VALUES_83 Arv_aV_83 Exa_aV_83 Fld_aC_letter_83 Fld_aD_letter_83 Fld_aB_letter_83 Fld_aH_letter_83   ) hZ (ww hw 3 rfl) (ww hw 2 rfl) (by decide) (by decide)) (g := (mkF m 27 (Sh7 q1 q2 115 aB) [(.int 115)])) rfl (by rw [hml]; rfl) (argsL := [(.int (115 : Int32))]) (rest := []) (lenOf pd_28C29Lcom2fexample2flianzhuang2flianzhuang2ftile2fSuit3b rfl) rfl (by show 2 * 0 + _ ≤ _; exact Nat.le_of_eq rfl) (hb hby at_27) (fun _ _ => ⟨rfl, e92, (by decide : 1 + 1 ≤ _), (by decide : 4 + 4 ≤ _)⟩)
          dsimp only [Pt.U, Pt.locs, Pt.cells, Pt.slots] at X93 l93 y93 z93 st93 hQ93
          subst l93 y93 z93
          obtain ⟨rfl, N93q, K93⟩ := hQ93
          have N93 := Fr.app N92 N93q
          have Zs_93 : n0 ≤ T93.heap.size := Nat.le_trans Zs_83 K93.1
          have Sta_com_example_lianzhuang_lianzhuang_tile_Suit_VALUES_93 : Sta Z T93.heap "com/example/lianzhuang/lianzhuang/tile/Suit" "$VALUES" "[Lcom/example/lianzhuang/lianzhuang/tile/Suit;" (.ref aV) := own_staK0 Sta_com_example_lianzhuang_lianzhuang_tile_Suit_VALUES_83 K93
          have Arv_aV_93 : Arv Z T93.heap aV kV (.object "com/example/lianzhuang/lianzhuang/tile/Suit") (4 : Int32) [(.ref aC), (.ref aD), (.ref aB), (.ref aH)] .null := Arv_aV_83.keep K93 nin0
          have Exa_aV_93 : Exa Z T93.heap aV "[Lcom/example/lianzhuang/lianzhuang/tile/Suit;" := Exa_aV_83.keep K93
          have Fld_aC_letter_93 : Fld Z T93.heap aC "com/example/lianzhuang/lianzhuang/tile/Suit" "letter" "C" (.int (109 : Int32)) := Fld_aC_letter_83.keep K93 nin0
          have Fld_aD_letter_93 : Fld Z T93.heap aD "com/example/lianzhuang/lianzhuang/tile/Suit" "letter" "C" (.int (112 : Int32)) := Fld_aD_letter_83.keep K93 nin0
          have Fld_aB_letter_93 : Fld Z T93.heap aB "com/example/lianzhuang/lianzhuang/tile/Suit" "letter" "C" (.int (115 : Int32)) := Fld_aB_letter_83.keep K93 nin0
          have Fld_aH_letter_93 : Fld Z T93.heap aH "com/example/lianzhuang/lianzhuang/tile/Suit" "letter" "C" (.int (122 : Int32)) := Fld_aH_letter_83.keep K93 nin0
          have Sta_com_example_lianzhuang_lianzhuang_tile_Suit_CHARACTERS_93 : Sta Z T93.heap "com/example/lianzhuang/lianzhuang/tile/Suit" "CHARACTERS" "Lcom/example/lianzhuang/lianzhuang/tile/Suit;" (.ref aC) := own_staK0 Sta_com_example_lianzhuang_lianzhuang_tile_Suit_CHARACTERS_83 K93
          have Sta_com_example_lianzhuang_lianzhuang_tile_Suit_DOTS_93 : Sta Z T93.heap "com/example/lianzhuang/lianzhuang/tile/Suit" "DOTS" "Lcom/example/lianzhuang/lianzhuang/tile/Suit;" (.ref aD) := own_staK0 Sta_com_example_lianzhuang_lianzhuang_tile_Suit_DOTS_83 K93
          have Sta_com_example_lianzhuang_lianzhuang_tile_Suit_BAMBOO_93 : Sta Z T93.heap "com/example/lianzhuang/lianzhuang/tile/Suit" "BAMBOO" "Lcom/example/lianzhuang/lianzhuang/tile/Suit;" (.ref aB) := own_staK0 Sta_com_example_lianzhuang_lianzhuang_tile_Suit_BAMBOO_83 K93
          have Sta_com_example_lianzhuang_lianzhuang_tile_Suit_HONOURS_93 : Sta Z T93.heap "com/example/lianzhuang/lianzhuang/tile/Suit" "HONOURS" "Lcom/example/lianzhuang/lianzhuang/tile/Suit;" (.ref aH) := own_staK0 Sta_com_example_lianzhuang_lianzhuang_tile_Suit_HONOURS_83 K93
          have Exa_aC_93 : Exa Z T93.heap aC "com/example/lianzhuang/lianzhuang/tile/Suit" := Exa_aC_83.keep K93
          have Exa_aD_93 : Exa Z T93.heap aD "com/example/lianzhuang/lianzhuang/tile/Suit" := Exa_aD_83.keep K93
          have Exa_aB_93 : Exa Z T93.heap aB "com/example/lianzhuang/lianzhuang/tile/Suit" := Exa_aB_83.keep K93
          have Exa_aH_93 : Exa Z T93.heap aH "com/example/lianzhuang/lianzhuang/tile/Suit" := Exa_aH_83.keep K93
          refine GoW.sg (mkF m 30 (Sh7 q1 q2 115 aB) [(.ref aB)]) (fun t k => st93 t k) ?_
          refine GoW.sg (mkF m 31 (Sh7 q1 q2 115 aB) [(.ref aB), (.ref aB)]) (fun t k => XS.aloadN X93.here hx rfl (hb hby at_30) rfl rfl k) ?_
          refine GoW.sg (mkF m 34 (Sh7 q1 q2 115 aB) []) (fun t k => Jvm.RoadKit.acmp X93 hx rfl (cd := .ne) (x := (.ref aB)) (y := (.ref aB)) rfl rfl (pc0 := 31) (pc' := 34) (same := true) rfl (hb hby at_31) rfl (decide_eq_true rfl) (by decide) (by decide) k) ?_
          refine GoW.sg (mkF m 35 (Sh7 q1 q2 115 aB) [(.int 1)]) (fun t k => XS.iconst X93.here hx rfl (hb hby at_34) k) ?_
          refine GoW.sg (mkF m 39 (Sh7 q1 q2 115 aB) [(.int 1)]) (fun t k => XS.goto X93.here hx rfl (pc0 := 35) (pc' := 39) rfl (hb hby at_35) (by decide) (by decide) k) ?_
          refine GoW.retN X93 hx (t := .boolean) Bd.returns (by simp) (hb hby at_39) Bd.notSynchronized ?_ (by decide) (by decide)
          exact ⟨rfl, N93⟩
        · rw [vv]
          show GoW p e below s (ValQ (.int (1 : Int32)) n0) room_1.cells room_1.slots (T84.setTop (mkF m 19 (Sh6 q1 q2 115) [(.int 3)]))
          obtain ⟨_, _, ⟨T94, L94, k94, n94⟩, -, X94, ⟨Lc94, hQ94, l94, y94, z94⟩, st94⟩ := Jvm.LawKit.callS X84 hx (y := (⟨"com/example/lianzhuang/lianzhuang/tile/SuitWithLetterPinLaw", "pick", "(I)Lcom/example/lianzhuang/lianzhuang/tile/Suit;"⟩ : MethodName)) hown (mvT hZ (ww hw 29 rfl)) (mvT hZ (ww hw 30 rfl)) (mvT hZ (ww hw 27 rfl)) (mvT hZ (ww hw 31 rfl)) (by decide) (backOf (W := 0) (rmK3 l Z a0 hw []  aH T83.heap n0  Sta_com_example_lianzhuang_lianzhuang_tile_Suit_HONOURS_83   ) hZ (ww hw 31 rfl) (ww hw 27 rfl) (by decide) (by decide)) (g := (mkF m 19 (Sh6 q1 q2 115) [(.int 3)])) rfl (by rw [hml]; rfl) (argsL := [(.int (3 : Int32))]) (rest := []) (lenOf pd_28I29Lcom2fexample2flianzhuang2flianzhuang2ftile2fSuit3b rfl) rfl (by show 2 * 0 + _ ≤ _; exact Nat.le_of_eq rfl) (hb hby at_19) (fun _ _ => ⟨rfl, e84, (by decide : 1 + 0 ≤ _), (by decide : 4 + 0 ≤ _)⟩)
          dsimp only [Pt.U, Pt.locs, Pt.cells, Pt.slots] at X94 l94 y94 z94 st94 hQ94
          subst l94 y94 z94
          obtain ⟨rfl, N94q, e94⟩ := hQ94
          have N94 := Fr.app N84 N94q
          refine GoW.sg (mkF m 22 (Sh6 q1 q2 115) [(.ref aH)]) (fun t k => st94 t k) ?_
          refine GoW.sg (mkF m 23 (Sh7 q1 q2 115 aH) []) (fun t k => XS.astoreN X94.here hx rfl (hb hby at_22) rfl rfl (l' := (Sh7 q1 q2 115 aH)) rfl k) ?_
          refine GoW.sg (mkF m 24 (Sh7 q1 q2 115 aH) [(.ref aH)]) (fun t k => XS.aloadN X94.here hx rfl (hb hby at_23) rfl rfl k) ?_
          obtain ⟨cq95, kq95, q95a, q95b, q95c⟩ := isOf hZ e94 Exa_aH_83
          obtain ⟨_, _, ⟨T95, L95, k95, n95⟩, -, X95, ⟨Lc95, hQ95, l95, y95, z95⟩, st95⟩ := X94.virtualBack hx (y := (⟨"com/example/lianzhuang/lianzhuang/tile/Suit", "letter", "()C"⟩ : MethodName)) (z := (⟨"com/example/lianzhuang/lianzhuang/tile/Suit", "letter", "()C"⟩ : MethodName)) hown (mvT hZ (ww hw 33 rfl)) (mvT hZ (ww hw 34 rfl)) (notFace_of_selects (args := #[]) (mvT hZ (ww hw 36 rfl))) (mvT hZ (ww hw 36 rfl)) (mvT hZ (ww hw 35 rfl)) (by decide) (backOf (W := 0) (rmL122 l Z a0 hw [] aH  T83.heap n0  Fld_aH_letter_83   ) hZ (ww hw 37 rfl) (ww hw 2 rfl) (by decide) (by decide)) q95a q95c (g := (mkF m 24 (Sh7 q1 q2 115 aH) [(.ref aH)])) rfl (by rw [hml]; rfl) (Steps.refl _) (argsL := []) (rest := []) (lenOf pd_2829C rfl) rfl (by show 2 * 0 + _ ≤ _; exact Nat.le_of_eq rfl) (hb hby at_24) (fun _ _ => ⟨rfl, e94, (by decide : 1 + 0 ≤ _), (by decide : 4 + 0 ≤ _)⟩)
          dsimp only [Pt.U, Pt.locs, Pt.cells, Pt.slots] at X95 l95 y95 z95 st95 hQ95
          subst l95 y95 z95
          obtain ⟨rfl, N95q, e95⟩ := hQ95
          have N95 := Fr.app N94 N95q
          refine GoW.sg (mkF m 27 (Sh7 q1 q2 115 aH) [(.int 122)]) (fun t k => st95.trans k) ?_
          obtain ⟨_, _, ⟨T96, L96, k96, n96⟩, -, X96, ⟨Lc96, hQ96, l96, y96, z96⟩, st96⟩ := Jvm.LawKit.callS X95 hx (y := (⟨"com/example/lianzhuang/lianzhuang/tile/Suit", "withLetter", "(C)Lcom/example/lianzhuang/lianzhuang/tile/Suit;"⟩ : MethodName)) hown (mvT hZ (ww hw 0 rfl)) (mvT hZ (ww hw 1 rfl)) (mvT hZ (ww hw 2 rfl)) (mvT hZ (ww hw 3 rfl)) (by decide) (backOf (W := 0) (rmW122 l Z a0 hw []  aV kV aC aD aB aH T83.heap n0 Zs_83 Sta_com_example_lianzhuang_lianzhuang_tile_Suit_VALUES_83 Arv_aV_83 Exa_aV_83 Fld_aC_letter_83 Fld_aD_letter_83 Fld_aB_letter_83 Fld_aH_letter_83   ) hZ (ww hw 3 rfl) (ww hw 2 rfl) (by decide) (by decide)) (g := (mkF m 27 (Sh7 q1 q2 115 aH) [(.int 122)])) rfl (by rw [hml]; rfl) (argsL := [(.int (122 : Int32))]) (rest := []) (lenOf pd_28C29Lcom2fexample2flianzhuang2flianzhuang2ftile2fSuit3b rfl) rfl (by show 2 * 0 + _ ≤ _; exact Nat.le_of_eq rfl) (hb hby at_27) (fun _ _ => ⟨rfl, e95, (by decide : 1 + 1 ≤ _), (by decide : 4 + 4 ≤ _)⟩)
          dsimp only [Pt.U, Pt.locs, Pt.cells, Pt.slots] at X96 l96 y96 z96 st96 hQ96
          subst l96 y96 z96
          obtain ⟨rfl, N96q, K96⟩ := hQ96
          have N96 := Fr.app N95 N96q
          have Zs_96 : n0 ≤ T96.heap.size := Nat.le_trans Zs_83 K96.1
          have Sta_com_example_lianzhuang_lianzhuang_tile_Suit_VALUES_96 : Sta Z T96.heap "com/example/lianzhuang/lianzhuang/tile/Suit" "$VALUES" "[Lcom/example/lianzhuang/lianzhuang/tile/Suit;" (.ref aV) := own_staK0 Sta_com_example_lianzhuang_lianzhuang_tile_Suit_VALUES_83 K96
          have Arv_aV_96 : Arv Z T96.heap aV kV (.object "com/example/lianzhuang/lianzhuang/tile/Suit") (4 : Int32) [(.ref aC), (.ref aD), (.ref aB), (.ref aH)] .null := Arv_aV_83.keep K96 nin0
          have Exa_aV_96 : Exa Z T96.heap aV "[Lcom/example/lianzhuang/lianzhuang/tile/Suit;" := Exa_aV_83.keep K96
          have Fld_aC_letter_96 : Fld Z T96.heap aC "com/example/lianzhuang/lianzhuang/tile/Suit" "letter" "C" (.int (109 : Int32)) := Fld_aC_letter_83.keep K96 nin0
          have Fld_aD_letter_96 : Fld Z T96.heap aD "com/example/lianzhuang/lianzhuang/tile/Suit" "letter" "C" (.int (112 : Int32)) := Fld_aD_letter_83.keep K96 nin0
          have Fld_aB_letter_96 : Fld Z T96.heap aB "com/example/lianzhuang/lianzhuang/tile/Suit" "letter" "C" (.int (115 : Int32)) := Fld_aB_letter_83.keep K96 nin0
          have Fld_aH_letter_96 : Fld Z T96.heap aH "com/example/lianzhuang/lianzhuang/tile/Suit" "letter" "C" (.int (122 : Int32)) := Fld_aH_letter_83.keep K96 nin0
          have Sta_com_example_lianzhuang_lianzhuang_tile_Suit_CHARACTERS_96 : Sta Z T96.heap "com/example/lianzhuang/lianzhuang/tile/Suit" "CHARACTERS" "Lcom/example/lianzhuang/lianzhuang/tile/Suit;" (.ref aC) := own_staK0 Sta_com_example_lianzhuang_lianzhuang_tile_Suit_CHARACTERS_83 K96
          have Sta_com_example_lianzhuang_lianzhuang_tile_Suit_DOTS_96 : Sta Z T96.heap "com/example/lianzhuang/lianzhuang/tile/Suit" "DOTS" "Lcom/example/lianzhuang/lianzhuang/tile/Suit;" (.ref aD) := own_staK0 Sta_com_example_lianzhuang_lianzhuang_tile_Suit_DOTS_83 K96
          have Sta_com_example_lianzhuang_lianzhuang_tile_Suit_BAMBOO_96 : Sta Z T96.heap "com/example/lianzhuang/lianzhuang/tile/Suit" "BAMBOO" "Lcom/example/lianzhuang/lianzhuang/tile/Suit;" (.ref aB) := own_staK0 Sta_com_example_lianzhuang_lianzhuang_tile_Suit_BAMBOO_83 K96
          have Sta_com_example_lianzhuang_lianzhuang_tile_Suit_HONOURS_96 : Sta Z T96.heap "com/example/lianzhuang/lianzhuang/tile/Suit" "HONOURS" "Lcom/example/lianzhuang/lianzhuang/tile/Suit;" (.ref aH) := own_staK0 Sta_com_example_lianzhuang_lianzhuang_tile_Suit_HONOURS_83 K96
          have Exa_aC_96 : Exa Z T96.heap aC "com/example/lianzhuang/lianzhuang/tile/Suit" := Exa_aC_83.keep K96
          have Exa_aD_96 : Exa Z T96.heap aD "com/example/lianzhuang/lianzhuang/tile/Suit" := Exa_aD_83.keep K96
          have Exa_aB_96 : Exa Z T96.heap aB "com/example/lianzhuang/lianzhuang/tile/Suit" := Exa_aB_83.keep K96
          have Exa_aH_96 : Exa Z T96.heap aH "com/example/lianzhuang/lianzhuang/tile/Suit" := Exa_aH_83.keep K96
          refine GoW.sg (mkF m 30 (Sh7 q1 q2 115 aH) [(.ref aH)]) (fun t k => st96 t k) ?_
          refine GoW.sg (mkF m 31 (Sh7 q1 q2 115 aH) [(.ref aH), (.ref aH)]) (fun t k => XS.aloadN X96.here hx rfl (hb hby at_30) rfl rfl k) ?_
          refine GoW.sg (mkF m 34 (Sh7 q1 q2 115 aH) []) (fun t k => Jvm.RoadKit.acmp X96 hx rfl (cd := .ne) (x := (.ref aH)) (y := (.ref aH)) rfl rfl (pc0 := 31) (pc' := 34) (same := true) rfl (hb hby at_31) rfl (decide_eq_true rfl) (by decide) (by decide) k) ?_
          refine GoW.sg (mkF m 35 (Sh7 q1 q2 115 aH) [(.int 1)]) (fun t k => XS.iconst X96.here hx rfl (hb hby at_34) k) ?_
          refine GoW.sg (mkF m 39 (Sh7 q1 q2 115 aH) [(.int 1)]) (fun t k => XS.goto X96.here hx rfl (pc0 := 35) (pc' := 39) rfl (hb hby at_35) (by decide) (by decide) k) ?_
          refine GoW.retN X96 hx (t := .boolean) Bd.returns (by simp) (hb hby at_39) Bd.notSynchronized ?_ (by decide) (by decide)
          exact ⟨rfl, N96⟩
      · by_cases v122 : z54 = (122 : Int32)
        · rw [v122]
          show GoW p e below s (ValQ (.int (1 : Int32)) n0) room_1.cells room_1.slots (s₁.setTop (mkF m 3 (Sh6 q1 q2 122) []))
          refine GoW.sg (mkF m 4 (Sh6 q1 q2 122) [(.int 122)]) (fun t k => XS.iloadN X0.here hx rfl (hb hby at_3) rfl k) ?_
          obtain ⟨_, _, ⟨T97, L97, k97, n97⟩, -, X97, ⟨Lc97, hQ97, l97, y97, z97⟩, st97⟩ := Jvm.LawKit.callS X0 hx (y := (⟨"com/example/lianzhuang/lianzhuang/tile/Suit", "withLetter", "(C)Lcom/example/lianzhuang/lianzhuang/tile/Suit;"⟩ : MethodName)) hown (mvT hZ (ww hw 0 rfl)) (mvT hZ (ww hw 1 rfl)) (mvT hZ (ww hw 2 rfl)) (mvT hZ (ww hw 3 rfl)) (by decide) (backOf (W := 0) (rmW122 l Z a0 hw []  aV kV aC aD aB aH h0 n0 Z0 P0 P1 P2 P3 P4 P5 P6   ) hZ (ww hw 3 rfl) (ww hw 2 rfl) (by decide) (by decide)) (g := (mkF m 4 (Sh6 q1 q2 122) [(.int 122)])) rfl (by rw [hml]; rfl) (argsL := [(.int (122 : Int32))]) (rest := []) (lenOf pd_28C29Lcom2fexample2flianzhuang2flianzhuang2ftile2fSuit3b rfl) rfl (by show 2 * 0 + _ ≤ _; exact Nat.le_of_eq rfl) (hb hby at_4) (fun _ _ => ⟨rfl, e0, (by decide : 0 + 1 ≤ _), (by decide : 0 + 4 ≤ _)⟩)
          dsimp only [Pt.U, Pt.locs, Pt.cells, Pt.slots] at X97 l97 y97 z97 st97 hQ97
          subst l97 y97 z97
          obtain ⟨rfl, N97q, K97⟩ := hQ97
          have N97 := Fr.app N0 N97q
          have Zs_97 : n0 ≤ T97.heap.size := Nat.le_trans Z0 K97.1
          have Sta_com_example_lianzhuang_lianzhuang_tile_Suit_VALUES_97 : Sta Z T97.heap "com/example/lianzhuang/lianzhuang/tile/Suit" "$VALUES" "[Lcom/example/lianzhuang/lianzhuang/tile/Suit;" (.ref aV) := own_staK0 P0 K97
          have Arv_aV_97 : Arv Z T97.heap aV kV (.object "com/example/lianzhuang/lianzhuang/tile/Suit") (4 : Int32) [(.ref aC), (.ref aD), (.ref aB), (.ref aH)] .null := P1.keep K97 nin0
          have Exa_aV_97 : Exa Z T97.heap aV "[Lcom/example/lianzhuang/lianzhuang/tile/Suit;" := P2.keep K97
          have Fld_aC_letter_97 : Fld Z T97.heap aC "com/example/lianzhuang/lianzhuang/tile/Suit" "letter" "C" (.int (109 : Int32)) := P3.keep K97 nin0
          have Fld_aD_letter_97 : Fld Z T97.heap aD "com/example/lianzhuang/lianzhuang/tile/Suit" "letter" "C" (.int (112 : Int32)) := P4.keep K97 nin0
          have Fld_aB_letter_97 : Fld Z T97.heap aB "com/example/lianzhuang/lianzhuang/tile/Suit" "letter" "C" (.int (115 : Int32)) := P5.keep K97 nin0
          have Fld_aH_letter_97 : Fld Z T97.heap aH "com/example/lianzhuang/lianzhuang/tile/Suit" "letter" "C" (.int (122 : Int32)) := P6.keep K97 nin0
          have Sta_com_example_lianzhuang_lianzhuang_tile_Suit_CHARACTERS_97 : Sta Z T97.heap "com/example/lianzhuang/lianzhuang/tile/Suit" "CHARACTERS" "Lcom/example/lianzhuang/lianzhuang/tile/Suit;" (.ref aC) := own_staK0 P7 K97
          have Sta_com_example_lianzhuang_lianzhuang_tile_Suit_DOTS_97 : Sta Z T97.heap "com/example/lianzhuang/lianzhuang/tile/Suit" "DOTS" "Lcom/example/lianzhuang/lianzhuang/tile/Suit;" (.ref aD) := own_staK0 P8 K97
          have Sta_com_example_lianzhuang_lianzhuang_tile_Suit_BAMBOO_97 : Sta Z T97.heap "com/example/lianzhuang/lianzhuang/tile/Suit" "BAMBOO" "Lcom/example/lianzhuang/lianzhuang/tile/Suit;" (.ref aB) := own_staK0 P9 K97
          have Sta_com_example_lianzhuang_lianzhuang_tile_Suit_HONOURS_97 : Sta Z T97.heap "com/example/lianzhuang/lianzhuang/tile/Suit" "HONOURS" "Lcom/example/lianzhuang/lianzhuang/tile/Suit;" (.ref aH) := own_staK0 P10 K97
          have Exa_aC_97 : Exa Z T97.heap aC "com/example/lianzhuang/lianzhuang/tile/Suit" := P11.keep K97
          have Exa_aD_97 : Exa Z T97.heap aD "com/example/lianzhuang/lianzhuang/tile/Suit" := P12.keep K97
          have Exa_aB_97 : Exa Z T97.heap aB "com/example/lianzhuang/lianzhuang/tile/Suit" := P13.keep K97
          have Exa_aH_97 : Exa Z T97.heap aH "com/example/lianzhuang/lianzhuang/tile/Suit" := P14.keep K97
          refine GoW.sg (mkF m 7 (Sh6 q1 q2 122) [(.ref aH)]) (fun t k => st97 t k) ?_
          refine GoW.sg (mkF m 8 (Sh6 q1 q2 122) [(.int 122), (.ref aH)]) (fun t k => XS.iloadN X97.here hx rfl (hb hby at_7) rfl k) ?_
          obtain ⟨_, _, ⟨T98, L98, k98, n98⟩, -, X98, ⟨Lc98, hQ98, l98, y98, z98⟩, st98⟩ := Jvm.LawKit.callS X97 hx (y := (⟨"com/example/lianzhuang/lianzhuang/tile/SuitWithLetterPinLaw", "expectedFor", "(C)Lcom/example/lianzhuang/lianzhuang/tile/Suit;"⟩ : MethodName)) hown (mvT hZ (ww hw 25 rfl)) (mvT hZ (ww hw 26 rfl)) (mvT hZ (ww hw 27 rfl)) (mvT hZ (ww hw 28 rfl)) (by decide) (backOf (W := 1) (rmE122 l Z a0 hw []  aH T97.heap n0  Sta_com_example_lianzhuang_lianzhuang_tile_Suit_HONOURS_97   ) hZ (ww hw 28 rfl) (ww hw 27 rfl) (by decide) (by decide)) (g := (mkF m 8 (Sh6 q1 q2 122) [(.int 122), (.ref aH)])) rfl (by rw [hml]; rfl) (argsL := [(.int (122 : Int32))]) (rest := [(.ref aH)]) (lenOf pd_28C29Lcom2fexample2flianzhuang2flianzhuang2ftile2fSuit3b rfl) rfl (by show 2 * 0 + _ ≤ _; exact Nat.le_of_eq rfl) (hb hby at_8) (fun _ _ => ⟨rfl, rfl, (by decide : 1 + 0 ≤ _), (by decide : 4 + 0 ≤ _)⟩)
          dsimp only [Pt.U, Pt.locs, Pt.cells, Pt.slots] at X98 l98 y98 z98 st98 hQ98
          subst l98 y98 z98
          obtain ⟨rfl, N98q, e98⟩ := hQ98
          have N98 := Fr.app N97 N98q
          refine GoW.sg (mkF m 11 (Sh6 q1 q2 122) [(.ref aH), (.ref aH)]) (fun t k => st98 t k) ?_
          refine GoW.sg (mkF m 16 (Sh6 q1 q2 122) []) (fun t k => Jvm.RoadKit.acmp X98 hx rfl (cd := .eq) (x := (.ref aH)) (y := (.ref aH)) rfl rfl (pc0 := 11) (pc' := 16) (same := true) rfl (hb hby at_11) rfl (decide_eq_true rfl) (by decide) (by decide) k) ?_
          refine GoW.sg (mkF m 17 (Sh6 q1 q2 122) [(.int q2)]) (fun t k => XS.iloadN X98.here hx rfl (hb hby at_16) rfl k) ?_
          refine GoW.sg (mkF m 18 (Sh6 q1 q2 122) [(.int 3), (.int q2)]) (fun t k => XS.iconst X98.here hx rfl (hb hby at_17) k) ?_
          refine GoW.sg (mkF m 19 (Sh6 q1 q2 122) [(.int (q2 &&& (3 : Int32)))]) (fun t k => XS.iand X98.here hx rfl (hb hby at_18) rfl k) ?_
          rcases own_and3 q2 with vv | vv | vv | vv
          · rw [vv]
            show GoW p e below s (ValQ (.int (1 : Int32)) n0) room_1.cells room_1.slots (T98.setTop (mkF m 19 (Sh6 q1 q2 122) [(.int 0)]))
            obtain ⟨_, _, ⟨T99, L99, k99, n99⟩, -, X99, ⟨Lc99, hQ99, l99, y99, z99⟩, st99⟩ := Jvm.LawKit.callS X98 hx (y := (⟨"com/example/lianzhuang/lianzhuang/tile/SuitWithLetterPinLaw", "pick", "(I)Lcom/example/lianzhuang/lianzhuang/tile/Suit;"⟩ : MethodName)) hown (mvT hZ (ww hw 29 rfl)) (mvT hZ (ww hw 30 rfl)) (mvT hZ (ww hw 27 rfl)) (mvT hZ (ww hw 31 rfl)) (by decide) (backOf (W := 0) (rmK0 l Z a0 hw []  aC T97.heap n0  Sta_com_example_lianzhuang_lianzhuang_tile_Suit_CHARACTERS_97   ) hZ (ww hw 31 rfl) (ww hw 27 rfl) (by decide) (by decide)) (g := (mkF m 19 (Sh6 q1 q2 122) [(.int 0)])) rfl (by rw [hml]; rfl) (argsL := [(.int (0 : Int32))]) (rest := []) (lenOf pd_28I29Lcom2fexample2flianzhuang2flianzhuang2ftile2fSuit3b rfl) rfl (by show 2 * 0 + _ ≤ _; exact Nat.le_of_eq rfl) (hb hby at_19) (fun _ _ => ⟨rfl, e98, (by decide : 1 + 0 ≤ _), (by decide : 4 + 0 ≤ _)⟩)
            dsimp only [Pt.U, Pt.locs, Pt.cells, Pt.slots] at X99 l99 y99 z99 st99 hQ99
            subst l99 y99 z99
            obtain ⟨rfl, N99q, e99⟩ := hQ99
            have N99 := Fr.app N98 N99q
            refine GoW.sg (mkF m 22 (Sh6 q1 q2 122) [(.ref aC)]) (fun t k => st99 t k) ?_
            refine GoW.sg (mkF m 23 (Sh7 q1 q2 122 aC) []) (fun t k => XS.astoreN X99.here hx rfl (hb hby at_22) rfl rfl (l' := (Sh7 q1 q2 122 aC)) rfl k) ?_
            refine GoW.sg (mkF m 24 (Sh7 q1 q2 122 aC) [(.ref aC)]) (fun t k => XS.aloadN X99.here hx rfl (hb hby at_23) rfl rfl k) ?_
            obtain ⟨cq100, kq100, q100a, q100b, q100c⟩ := isOf hZ e99 Exa_aC_97
            obtain ⟨_, _, ⟨T100, L100, k100, n100⟩, -, X100, ⟨Lc100, hQ100, l100, y100, z100⟩, st100⟩ := X99.virtualBack hx (y := (⟨"com/example/lianzhuang/lianzhuang/tile/Suit", "letter", "()C"⟩ : MethodName)) (z := (⟨"com/example/lianzhuang/lianzhuang/tile/Suit", "letter", "()C"⟩ : MethodName)) hown (mvT hZ (ww hw 33 rfl)) (mvT hZ (ww hw 34 rfl)) (notFace_of_selects (args := #[]) (mvT hZ (ww hw 36 rfl))) (mvT hZ (ww hw 36 rfl)) (mvT hZ (ww hw 35 rfl)) (by decide) (backOf (W := 0) (rmL109 l Z a0 hw [] aC  T97.heap n0  Fld_aC_letter_97   ) hZ (ww hw 37 rfl) (ww hw 2 rfl) (by decide) (by decide)) q100a q100c (g := (mkF m 24 (Sh7 q1 q2 122 aC) [(.ref aC)])) rfl (by rw [hml]; rfl) (Steps.refl _) (argsL := []) (rest := []) (lenOf pd_2829C rfl) rfl (by show 2 * 0 + _ ≤ _; exact Nat.le_of_eq rfl) (hb hby at_24) (fun _ _ => ⟨rfl, e99, (by decide : 1 + 0 ≤ _), (by decide : 4 + 0 ≤ _)⟩)
            dsimp only [Pt.U, Pt.locs, Pt.cells, Pt.slots] at X100 l100 y100 z100 st100 hQ100
            subst l100 y100 z100
            obtain ⟨rfl, N100q, e100⟩ := hQ100
            have N100 := Fr.app N99 N100q
            refine GoW.sg (mkF m 27 (Sh7 q1 q2 122 aC) [(.int 109)]) (fun t k => st100.trans k) ?_
            obtain ⟨_, _, ⟨T101, L101, k101, n101⟩, -, X101, ⟨Lc101, hQ101, l101, y101, z101⟩, st101⟩ := Jvm.LawKit.callS X100 hx (y := (⟨"com/example/lianzhuang/lianzhuang/tile/Suit", "withLetter", "(C)Lcom/example/lianzhuang/lianzhuang/tile/Suit;"⟩ : MethodName)) hown (mvT hZ (ww hw 0 rfl)) (mvT hZ (ww hw 1 rfl)) (mvT hZ (ww hw 2 rfl)) (mvT hZ (ww hw 3 rfl)) (by decide) (backOf (W := 0) (rmW109 l Z a0 hw []  aV kV aC aD aB aH T97.heap n0 Zs_97 Sta_com_example_lianzhuang_lianzhuang_tile_Suit_VALUES_97 Arv_aV_97 Exa_aV_97 Fld_aC_letter_97 Fld_aD_letter_97 Fld_aB_letter_97 Fld_aH_letter_97   ) hZ (ww hw 3 rfl) (ww hw 2 rfl) (by decide) (by decide)) (g := (mkF m 27 (Sh7 q1 q2 122 aC) [(.int 109)])) rfl (by rw [hml]; rfl) (argsL := [(.int (109 : Int32))]) (rest := []) (lenOf pd_28C29Lcom2fexample2flianzhuang2flianzhuang2ftile2fSuit3b rfl) rfl (by show 2 * 0 + _ ≤ _; exact Nat.le_of_eq rfl) (hb hby at_27) (fun _ _ => ⟨rfl, e100, (by decide : 1 + 1 ≤ _), (by decide : 4 + 4 ≤ _)⟩)
            dsimp only [Pt.U, Pt.locs, Pt.cells, Pt.slots] at X101 l101 y101 z101 st101 hQ101
            subst l101 y101 z101
            obtain ⟨rfl, N101q, K101⟩ := hQ101
            have N101 := Fr.app N100 N101q
            have Zs_101 : n0 ≤ T101.heap.size := Nat.le_trans Zs_97 K101.1
            have Sta_com_example_lianzhuang_lianzhuang_tile_Suit_VALUES_101 : Sta Z T101.heap "com/example/lianzhuang/lianzhuang/tile/Suit" "$VALUES" "[Lcom/example/lianzhuang/lianzhuang/tile/Suit;" (.ref aV) := own_staK0 Sta_com_example_lianzhuang_lianzhuang_tile_Suit_VALUES_97 K101
            have Arv_aV_101 : Arv Z T101.heap aV kV (.object "com/example/lianzhuang/lianzhuang/tile/Suit") (4 : Int32) [(.ref aC), (.ref aD), (.ref aB), (.ref aH)] .null := Arv_aV_97.keep K101 nin0
            have Exa_aV_101 : Exa Z T101.heap aV "[Lcom/example/lianzhuang/lianzhuang/tile/Suit;" := Exa_aV_97.keep K101
            have Fld_aC_letter_101 : Fld Z T101.heap aC "com/example/lianzhuang/lianzhuang/tile/Suit" "letter" "C" (.int (109 : Int32)) := Fld_aC_letter_97.keep K101 nin0
            have Fld_aD_letter_101 : Fld Z T101.heap aD "com/example/lianzhuang/lianzhuang/tile/Suit" "letter" "C" (.int (112 : Int32)) := Fld_aD_letter_97.keep K101 nin0
            have Fld_aB_letter_101 : Fld Z T101.heap aB "com/example/lianzhuang/lianzhuang/tile/Suit" "letter" "C" (.int (115 : Int32)) := Fld_aB_letter_97.keep K101 nin0
            have Fld_aH_letter_101 : Fld Z T101.heap aH "com/example/lianzhuang/lianzhuang/tile/Suit" "letter" "C" (.int (122 : Int32)) := Fld_aH_letter_97.keep K101 nin0
            have Sta_com_example_lianzhuang_lianzhuang_tile_Suit_CHARACTERS_101 : Sta Z T101.heap "com/example/lianzhuang/lianzhuang/tile/Suit" "CHARACTERS" "Lcom/example/lianzhuang/lianzhuang/tile/Suit;" (.ref aC) := own_staK0 Sta_com_example_lianzhuang_lianzhuang_tile_Suit_CHARACTERS_97 K101
            have Sta_com_example_lianzhuang_lianzhuang_tile_Suit_DOTS_101 : Sta Z T101.heap "com/example/lianzhuang/lianzhuang/tile/Suit" "DOTS" "Lcom/example/lianzhuang/lianzhuang/tile/Suit;" (.ref aD) := own_staK0 Sta_com_example_lianzhuang_lianzhuang_tile_Suit_DOTS_97 K101
            have Sta_com_example_lianzhuang_lianzhuang_tile_Suit_BAMBOO_101 : Sta Z T101.heap "com/example/lianzhuang/lianzhuang/tile/Suit" "BAMBOO" "Lcom/example/lianzhuang/lianzhuang/tile/Suit;" (.ref aB) := own_staK0 Sta_com_example_lianzhuang_lianzhuang_tile_Suit_BAMBOO_97 K101
            have Sta_com_example_lianzhuang_lianzhuang_tile_Suit_HONOURS_101 : Sta Z T101.heap "com/example/lianzhuang/lianzhuang/tile/Suit" "HONOURS" "Lcom/example/lianzhuang/lianzhuang/tile/Suit;" (.ref aH) := own_staK0 Sta_com_example_lianzhuang_lianzhuang_tile_Suit_HONOURS_97 K101
            have Exa_aC_101 : Exa Z T101.heap aC "com/example/lianzhuang/lianzhuang/tile/Suit" := Exa_aC_97.keep K101
            have Exa_aD_101 : Exa Z T101.heap aD "com/example/lianzhuang/lianzhuang/tile/Suit" := Exa_aD_97.keep K101
            have Exa_aB_101 : Exa Z T101.heap aB "com/example/lianzhuang/lianzhuang/tile/Suit" := Exa_aB_97.keep K101
            have Exa_aH_101 : Exa Z T101.heap aH "com/example/lianzhuang/lianzhuang/tile/Suit" := Exa_aH_97.keep K101
            refine GoW.sg (mkF m 30 (Sh7 q1 q2 122 aC) [(.ref aC)]) (fun t k => st101 t k) ?_
            refine GoW.sg (mkF m 31 (Sh7 q1 q2 122 aC) [(.ref aC), (.ref aC)]) (fun t k => XS.aloadN X101.here hx rfl (hb hby at_30) rfl rfl k) ?_
            refine GoW.sg (mkF m 34 (Sh7 q1 q2 122 aC) []) (fun t k => Jvm.RoadKit.acmp X101 hx rfl (cd := .ne) (x := (.ref aC)) (y := (.ref aC)) rfl rfl (pc0 := 31) (pc' := 34) (same := true) rfl (hb hby at_31) rfl (decide_eq_true rfl) (by decide) (by decide) k) ?_
            refine GoW.sg (mkF m 35 (Sh7 q1 q2 122 aC) [(.int 1)]) (fun t k => XS.iconst X101.here hx rfl (hb hby at_34) k) ?_
            refine GoW.sg (mkF m 39 (Sh7 q1 q2 122 aC) [(.int 1)]) (fun t k => XS.goto X101.here hx rfl (pc0 := 35) (pc' := 39) rfl (hb hby at_35) (by decide) (by decide) k) ?_
            refine GoW.retN X101 hx (t := .boolean) Bd.returns (by simp) (hb hby at_39) Bd.notSynchronized ?_ (by decide) (by decide)
            exact ⟨rfl, N101⟩
          · rw [vv]
            show GoW p e below s (ValQ (.int (1 : Int32)) n0) room_1.cells room_1.slots (T98.setTop (mkF m 19 (Sh6 q1 q2 122) [(.int 1)]))
            obtain ⟨_, _, ⟨T102, L102, k102, n102⟩, -, X102, ⟨Lc102, hQ102, l102, y102, z102⟩, st102⟩ := Jvm.LawKit.callS X98 hx (y := (⟨"com/example/lianzhuang/lianzhuang/tile/SuitWithLetterPinLaw", "pick", "(I)Lcom/example/lianzhuang/lianzhuang/tile/Suit;"⟩ : MethodName)) hown (mvT hZ (ww hw 29 rfl)) (mvT hZ (ww hw 30 rfl)) (mvT hZ (ww hw 27 rfl)) (mvT hZ (ww hw 31 rfl)) (by decide) (backOf (W := 0) (rmK1 l Z a0 hw []  aD T97.heap n0  Sta_com_example_lianzhuang_lianzhuang_tile_Suit_DOTS_97   ) hZ (ww hw 31 rfl) (ww hw 27 rfl) (by decide) (by decide)) (g := (mkF m 19 (Sh6 q1 q2 122) [(.int 1)])) rfl (by rw [hml]; rfl) (argsL := [(.int (1 : Int32))]) (rest := []) (lenOf pd_28I29Lcom2fexample2flianzhuang2flianzhuang2ftile2fSuit3b rfl) rfl (by show 2 * 0 + _ ≤ _; exact Nat.le_of_eq rfl) (hb hby at_19) (fun _ _ => ⟨rfl, e98, (by decide : 1 + 0 ≤ _), (by decide : 4 + 0 ≤ _)⟩)
            dsimp only [Pt.U, Pt.locs, Pt.cells, Pt.slots] at X102 l102 y102 z102 st102 hQ102
            subst l102 y102 z102
            obtain ⟨rfl, N102q, e102⟩ := hQ102
            have N102 := Fr.app N98 N102q
            refine GoW.sg (mkF m 22 (Sh6 q1 q2 122) [(.ref aD)]) (fun t k => st102 t k) ?_
            refine GoW.sg (mkF m 23 (Sh7 q1 q2 122 aD) []) (fun t k => XS.astoreN X102.here hx rfl (hb hby at_22) rfl rfl (l' := (Sh7 q1 q2 122 aD)) rfl k) ?_
            refine GoW.sg (mkF m 24 (Sh7 q1 q2 122 aD) [(.ref aD)]) (fun t k => XS.aloadN X102.here hx rfl (hb hby at_23) rfl rfl k) ?_
            obtain ⟨cq103, kq103, q103a, q103b, q103c⟩ := isOf hZ e102 Exa_aD_97
            obtain ⟨_, _, ⟨T103, L103, k103, n103⟩, -, X103, ⟨Lc103, hQ103, l103, y103, z103⟩, st103⟩ := X102.virtualBack hx (y := (⟨"com/example/lianzhuang/lianzhuang/tile/Suit", "letter", "()C"⟩ : MethodName)) (z := (⟨"com/example/lianzhuang/lianzhuang/tile/Suit", "letter", "()C"⟩ : MethodName)) hown (mvT hZ (ww hw 33 rfl)) (mvT hZ (ww hw 34 rfl)) (notFace_of_selects (args := #[]) (mvT hZ (ww hw 36 rfl))) (mvT hZ (ww hw 36 rfl)) (mvT hZ (ww hw 35 rfl)) (by decide) (backOf (W := 0) (rmL112 l Z a0 hw [] aD  T97.heap n0  Fld_aD_letter_97   ) hZ (ww hw 37 rfl) (ww hw 2 rfl) (by decide) (by decide)) q103a q103c (g := (mkF m 24 (Sh7 q1 q2 122 aD) [(.ref aD)])) rfl (by rw [hml]; rfl) (Steps.refl _) (argsL := []) (rest := []) (lenOf pd_2829C rfl) rfl (by show 2 * 0 + _ ≤ _; exact Nat.le_of_eq rfl) (hb hby at_24) (fun _ _ => ⟨rfl, e102, (by decide : 1 + 0 ≤ _), (by decide : 4 + 0 ≤ _)⟩)
            dsimp only [Pt.U, Pt.locs, Pt.cells, Pt.slots] at X103 l103 y103 z103 st103 hQ103
            subst l103 y103 z103
            obtain ⟨rfl, N103q, e103⟩ := hQ103
            have N103 := Fr.app N102 N103q
            refine GoW.sg (mkF m 27 (Sh7 q1 q2 122 aD) [(.int 112)]) (fun t k => st103.trans k) ?_
            obtain ⟨_, _, ⟨T104, L104, k104, n104⟩, -, X104, ⟨Lc104, hQ104, l104, y104, z104⟩, st104⟩ := Jvm.LawKit.callS X103 hx (y := (⟨"com/example/lianzhuang/lianzhuang/tile/Suit", "withLetter", "(C)Lcom/example/lianzhuang/lianzhuang/tile/Suit;"⟩ : MethodName)) hown (mvT hZ (ww hw 0 rfl)) (mvT hZ (ww hw 1 rfl)) (mvT hZ (ww hw 2 rfl)) (mvT hZ (ww hw 3 rfl)) (by decide) (backOf (W := 0) (rmW112 l Z a0 hw []  aV kV aC aD aB aH T97.heap n0 Zs_97 Sta_com_example_lianzhuang_lianzhuang_tile_Suit_VALUES_97 Arv_aV_97 Exa_aV_97 Fld_aC_letter_97 Fld_aD_letter_97 Fld_aB_letter_97 Fld_aH_letter_97   ) hZ (ww hw 3 rfl) (ww hw 2 rfl) (by decide) (by decide)) (g := (mkF m 27 (Sh7 q1 q2 122 aD) [(.int 112)])) rfl (by rw [hml]; rfl) (argsL := [(.int (112 : Int32))]) (rest := []) (lenOf pd_28C29Lcom2fexample2flianzhuang2flianzhuang2ftile2fSuit3b rfl) rfl (by show 2 * 0 + _ ≤ _; exact Nat.le_of_eq rfl) (hb hby at_27) (fun _ _ => ⟨rfl, e103, (by decide : 1 + 1 ≤ _), (by decide : 4 + 4 ≤ _)⟩)
            dsimp only [Pt.U, Pt.locs, Pt.cells, Pt.slots] at X104 l104 y104 z104 st104 hQ104
            subst l104 y104 z104
            obtain ⟨rfl, N104q, K104⟩ := hQ104
            have N104 := Fr.app N103 N104q
            have Zs_104 : n0 ≤ T104.heap.size := Nat.le_trans Zs_97 K104.1
            have Sta_com_example_lianzhuang_lianzhuang_tile_Suit_VALUES_104 : Sta Z T104.heap "com/example/lianzhuang/lianzhuang/tile/Suit" "$VALUES" "[Lcom/example/lianzhuang/lianzhuang/tile/Suit;" (.ref aV) := own_staK0 Sta_com_example_lianzhuang_lianzhuang_tile_Suit_VALUES_97 K104
            have Arv_aV_104 : Arv Z T104.heap aV kV (.object "com/example/lianzhuang/lianzhuang/tile/Suit") (4 : Int32) [(.ref aC), (.ref aD), (.ref aB), (.ref aH)] .null := Arv_aV_97.keep K104 nin0
            have Exa_aV_104 : Exa Z T104.heap aV "[Lcom/example/lianzhuang/lianzhuang/tile/Suit;" := Exa_aV_97.keep K104
            have Fld_aC_letter_104 : Fld Z T104.heap aC "com/example/lianzhuang/lianzhuang/tile/Suit" "letter" "C" (.int (109 : Int32)) := Fld_aC_letter_97.keep K104 nin0
            have Fld_aD_letter_104 : Fld Z T104.heap aD "com/example/lianzhuang/lianzhuang/tile/Suit" "letter" "C" (.int (112 : Int32)) := Fld_aD_letter_97.keep K104 nin0
            have Fld_aB_letter_104 : Fld Z T104.heap aB "com/example/lianzhuang/lianzhuang/tile/Suit" "letter" "C" (.int (115 : Int32)) := Fld_aB_letter_97.keep K104 nin0
            have Fld_aH_letter_104 : Fld Z T104.heap aH "com/example/lianzhuang/lianzhuang/tile/Suit" "letter" "C" (.int (122 : Int32)) := Fld_aH_letter_97.keep K104 nin0
            have Sta_com_example_lianzhuang_lianzhuang_tile_Suit_CHARACTERS_104 : Sta Z T104.heap "com/example/lianzhuang/lianzhuang/tile/Suit" "CHARACTERS" "Lcom/example/lianzhuang/lianzhuang/tile/Suit;" (.ref aC) := own_staK0 Sta_com_example_lianzhuang_lianzhuang_tile_Suit_CHARACTERS_97 K104
            have Sta_com_example_lianzhuang_lianzhuang_tile_Suit_DOTS_104 : Sta Z T104.heap "com/example/lianzhuang/lianzhuang/tile/Suit" "DOTS" "Lcom/example/lianzhuang/lianzhuang/tile/Suit;" (.ref aD) := own_staK0 Sta_com_example_lianzhuang_lianzhuang_tile_Suit_DOTS_97 K104
            have Sta_com_example_lianzhuang_lianzhuang_tile_Suit_BAMBOO_104 : Sta Z T104.heap "com/example/lianzhuang/lianzhuang/tile/Suit" "BAMBOO" "Lcom/example/lianzhuang/lianzhuang/tile/Suit;" (.ref aB) := own_staK0 Sta_com_example_lianzhuang_lianzhuang_tile_Suit_BAMBOO_97 K104
            have Sta_com_example_lianzhuang_lianzhuang_tile_Suit_HONOURS_104 : Sta Z T104.heap "com/example/lianzhuang/lianzhuang/tile/Suit" "HONOURS" "Lcom/example/lianzhuang/lianzhuang/tile/Suit;" (.ref aH) := own_staK0 Sta_com_example_lianzhuang_lianzhuang_tile_Suit_HONOURS_97 K104
            have Exa_aC_104 : Exa Z T104.heap aC "com/example/lianzhuang/lianzhuang/tile/Suit" := Exa_aC_97.keep K104
            have Exa_aD_104 : Exa Z T104.heap aD "com/example/lianzhuang/lianzhuang/tile/Suit" := Exa_aD_97.keep K104
            have Exa_aB_104 : Exa Z T104.heap aB "com/example/lianzhuang/lianzhuang/tile/Suit" := Exa_aB_97.keep K104
            have Exa_aH_104 : Exa Z T104.heap aH "com/example/lianzhuang/lianzhuang/tile/Suit" := Exa_aH_97.keep K104
            refine GoW.sg (mkF m 30 (Sh7 q1 q2 122 aD) [(.ref aD)]) (fun t k => st104 t k) ?_
            refine GoW.sg (mkF m 31 (Sh7 q1 q2 122 aD) [(.ref aD), (.ref aD)]) (fun t k => XS.aloadN X104.here hx rfl (hb hby at_30) rfl rfl k) ?_
            refine GoW.sg (mkF m 34 (Sh7 q1 q2 122 aD) []) (fun t k => Jvm.RoadKit.acmp X104 hx rfl (cd := .ne) (x := (.ref aD)) (y := (.ref aD)) rfl rfl (pc0 := 31) (pc' := 34) (same := true) rfl (hb hby at_31) rfl (decide_eq_true rfl) (by decide) (by decide) k) ?_
            refine GoW.sg (mkF m 35 (Sh7 q1 q2 122 aD) [(.int 1)]) (fun t k => XS.iconst X104.here hx rfl (hb hby at_34) k) ?_
            refine GoW.sg (mkF m 39 (Sh7 q1 q2 122 aD) [(.int 1)]) (fun t k => XS.goto X104.here hx rfl (pc0 := 35) (pc' := 39) rfl (hb hby at_35) (by decide) (by decide) k) ?_
            refine GoW.retN X104 hx (t := .boolean) Bd.returns (by simp) (hb hby at_39) Bd.notSynchronized ?_ (by decide) (by decide)
            exact ⟨rfl, N104⟩
          · rw [vv]
            show GoW p e below s (ValQ (.int (1 : Int32)) n0) room_1.cells room_1.slots (T98.setTop (mkF m 19 (Sh6 q1 q2 122) [(.int 2)]))
            obtain ⟨_, _, ⟨T105, L105, k105, n105⟩, -, X105, ⟨Lc105, hQ105, l105, y105, z105⟩, st105⟩ := Jvm.LawKit.callS X98 hx (y := (⟨"com/example/lianzhuang/lianzhuang/tile/SuitWithLetterPinLaw", "pick", "(I)Lcom/example/lianzhuang/lianzhuang/tile/Suit;"⟩ : MethodName)) hown (mvT hZ (ww hw 29 rfl)) (mvT hZ (ww hw 30 rfl)) (mvT hZ (ww hw 27 rfl)) (mvT hZ (ww hw 31 rfl)) (by decide) (backOf (W := 0) (rmK2 l Z a0 hw []  aB T97.heap n0  Sta_com_example_lianzhuang_lianzhuang_tile_Suit_BAMBOO_97   ) hZ (ww hw 31 rfl) (ww hw 27 rfl) (by decide) (by decide)) (g := (mkF m 19 (Sh6 q1 q2 122) [(.int 2)])) rfl (by rw [hml]; rfl) (argsL := [(.int (2 : Int32))]) (rest := []) (lenOf pd_28I29Lcom2fexample2flianzhuang2flianzhuang2ftile2fSuit3b rfl) rfl (by show 2 * 0 + _ ≤ _; exact Nat.le_of_eq rfl) (hb hby at_19) (fun _ _ => ⟨rfl, e98, (by decide : 1 + 0 ≤ _), (by decide : 4 + 0 ≤ _)⟩)
            dsimp only [Pt.U, Pt.locs, Pt.cells, Pt.slots] at X105 l105 y105 z105 st105 hQ105
            subst l105 y105 z105
            obtain ⟨rfl, N105q, e105⟩ := hQ105
            have N105 := Fr.app N98 N105q
            refine GoW.sg (mkF m 22 (Sh6 q1 q2 122) [(.ref aB)]) (fun t k => st105 t k) ?_
            refine GoW.sg (mkF m 23 (Sh7 q1 q2 122 aB) []) (fun t k => XS.astoreN X105.here hx rfl (hb hby at_22) rfl rfl (l' := (Sh7 q1 q2 122 aB)) rfl k) ?_
            refine GoW.sg (mkF m 24 (Sh7 q1 q2 122 aB) [(.ref aB)]) (fun t k => XS.aloadN X105.here hx rfl (hb hby at_23) rfl rfl k) ?_
            obtain ⟨cq106, kq106, q106a, q106b, q106c⟩ := isOf hZ e105 Exa_aB_97
            obtain ⟨_, _, ⟨T106, L106, k106, n106⟩, -, X106, ⟨Lc106, hQ106, l106, y106, z106⟩, st106⟩ := X105.virtualBack hx (y := (⟨"com/example/lianzhuang/lianzhuang/tile/Suit", "letter", "()C"⟩ : MethodName)) (z := (⟨"com/example/lianzhuang/lianzhuang/tile/Suit", "letter", "()C"⟩ : MethodName)) hown (mvT hZ (ww hw 33 rfl)) (mvT hZ (ww hw 34 rfl)) (notFace_of_selects (args := #[]) (mvT hZ (ww hw 36 rfl))) (mvT hZ (ww hw 36 rfl)) (mvT hZ (ww hw 35 rfl)) (by decide) (backOf (W := 0) (rmL115 l Z a0 hw [] aB  T97.heap n0  Fld_aB_letter_97   ) hZ (ww hw 37 rfl) (ww hw 2 rfl) (by decide) (by decide)) q106a q106c (g := (mkF m 24 (Sh7 q1 q2 122 aB) [(.ref aB)])) rfl (by rw [hml]; rfl) (Steps.refl _) (argsL := []) (rest := []) (lenOf pd_2829C rfl) rfl (by show 2 * 0 + _ ≤ _; exact Nat.le_of_eq rfl) (hb hby at_24) (fun _ _ => ⟨rfl, e105, (by decide : 1 + 0 ≤ _), (by decide : 4 + 0 ≤ _)⟩)
            dsimp only [Pt.U, Pt.locs, Pt.cells, Pt.slots] at X106 l106 y106 z106 st106 hQ106
            subst l106 y106 z106
            obtain ⟨rfl, N106q, e106⟩ := hQ106
            have N106 := Fr.app N105 N106q
            refine GoW.sg (mkF m 27 (Sh7 q1 q2 122 aB) [(.int 115)]) (fun t k => st106.trans k) ?_
            obtain ⟨_, _, ⟨T107, L107, k107, n107⟩, -, X107, ⟨Lc107, hQ107, l107, y107, z107⟩, st107⟩ := Jvm.LawKit.callS X106 hx (y := (⟨"com/example/lianzhuang/lianzhuang/tile/Suit", "withLetter", "(C)Lcom/example/lianzhuang/lianzhuang/tile/Suit;"⟩ : MethodName)) hown (mvT hZ (ww hw 0 rfl)) (mvT hZ (ww hw 1 rfl)) (mvT hZ (ww hw 2 rfl)) (mvT hZ (ww hw 3 rfl)) (by decide) (backOf (W := 0) (rmW115 l Z a0 hw []  aV kV aC aD aB aH T97.heap n0 Zs_97 Sta_com_example_lianzhuang_lianzhuang_tile_Suit_VALUES_97 Arv_aV_97 Exa_aV_97 Fld_aC_letter_97 Fld_aD_letter_97 Fld_aB_letter_97 Fld_aH_letter_97   ) hZ (ww hw 3 rfl) (ww hw 2 rfl) (by decide) (by decide)) (g := (mkF m 27 (Sh7 q1 q2 122 aB) [(.int 115)])) rfl (by rw [hml]; rfl) (argsL := [(.int (115 : Int32))]) (rest := []) (lenOf pd_28C29Lcom2fexample2flianzhuang2flianzhuang2ftile2fSuit3b rfl) rfl (by show 2 * 0 + _ ≤ _; exact Nat.le_of_eq rfl) (hb hby at_27) (fun _ _ => ⟨rfl, e106, (by decide : 1 + 1 ≤ _), (by decide : 4 + 4 ≤ _)⟩)
            dsimp only [Pt.U, Pt.locs, Pt.cells, Pt.slots] at X107 l107 y107 z107 st107 hQ107
            subst l107 y107 z107
            obtain ⟨rfl, N107q, K107⟩ := hQ107
            have N107 := Fr.app N106 N107q
            have Zs_107 : n0 ≤ T107.heap.size := Nat.le_trans Zs_97 K107.1
            have Sta_com_example_lianzhuang_lianzhuang_tile_Suit_VALUES_107 : Sta Z T107.heap "com/example/lianzhuang/lianzhuang/tile/Suit" "$VALUES" "[Lcom/example/lianzhuang/lianzhuang/tile/Suit;" (.ref aV) := own_staK0 Sta_com_example_lianzhuang_lianzhuang_tile_Suit_VALUES_97 K107
            have Arv_aV_107 : Arv Z T107.heap aV kV (.object "com/example/lianzhuang/lianzhuang/tile/Suit") (4 : Int32) [(.ref aC), (.ref aD), (.ref aB), (.ref aH)] .null := Arv_aV_97.keep K107 nin0
            have Exa_aV_107 : Exa Z T107.heap aV "[Lcom/example/lianzhuang/lianzhuang/tile/Suit;" := Exa_aV_97.keep K107
            have Fld_aC_letter_107 : Fld Z T107.heap aC "com/example/lianzhuang/lianzhuang/tile/Suit" "letter" "C" (.int (109 : Int32)) := Fld_aC_letter_97.keep K107 nin0
            have Fld_aD_letter_107 : Fld Z T107.heap aD "com/example/lianzhuang/lianzhuang/tile/Suit" "letter" "C" (.int (112 : Int32)) := Fld_aD_letter_97.keep K107 nin0
            have Fld_aB_letter_107 : Fld Z T107.heap aB "com/example/lianzhuang/lianzhuang/tile/Suit" "letter" "C" (.int (115 : Int32)) := Fld_aB_letter_97.keep K107 nin0
            have Fld_aH_letter_107 : Fld Z T107.heap aH "com/example/lianzhuang/lianzhuang/tile/Suit" "letter" "C" (.int (122 : Int32)) := Fld_aH_letter_97.keep K107 nin0
            have Sta_com_example_lianzhuang_lianzhuang_tile_Suit_CHARACTERS_107 : Sta Z T107.heap "com/example/lianzhuang/lianzhuang/tile/Suit" "CHARACTERS" "Lcom/example/lianzhuang/lianzhuang/tile/Suit;" (.ref aC) := own_staK0 Sta_com_example_lianzhuang_lianzhuang_tile_Suit_CHARACTERS_97 K107
            have Sta_com_example_lianzhuang_lianzhuang_tile_Suit_DOTS_107 : Sta Z T107.heap "com/example/lianzhuang/lianzhuang/tile/Suit" "DOTS" "Lcom/example/lianzhuang/lianzhuang/tile/Suit;" (.ref aD) := own_staK0 Sta_com_example_lianzhuang_lianzhuang_tile_Suit_DOTS_97 K107
            have Sta_com_example_lianzhuang_lianzhuang_tile_Suit_BAMBOO_107 : Sta Z T107.heap "com/example/lianzhuang/lianzhuang/tile/Suit" "BAMBOO" "Lcom/example/lianzhuang/lianzhuang/tile/Suit;" (.ref aB) := own_staK0 Sta_com_example_lianzhuang_lianzhuang_tile_Suit_BAMBOO_97 K107
            have Sta_com_example_lianzhuang_lianzhuang_tile_Suit_HONOURS_107 : Sta Z T107.heap "com/example/lianzhuang/lianzhuang/tile/Suit" "HONOURS" "Lcom/example/lianzhuang/lianzhuang/tile/Suit;" (.ref aH) := own_staK0 Sta_com_example_lianzhuang_lianzhuang_tile_Suit_HONOURS_97 K107
            have Exa_aC_107 : Exa Z T107.heap aC "com/example/lianzhuang/lianzhuang/tile/Suit" := Exa_aC_97.keep K107
            have Exa_aD_107 : Exa Z T107.heap aD "com/example/lianzhuang/lianzhuang/tile/Suit" := Exa_aD_97.keep K107
            have Exa_aB_107 : Exa Z T107.heap aB "com/example/lianzhuang/lianzhuang/tile/Suit" := Exa_aB_97.keep K107
            have Exa_aH_107 : Exa Z T107.heap aH "com/example/lianzhuang/lianzhuang/tile/Suit" := Exa_aH_97.keep K107
            refine GoW.sg (mkF m 30 (Sh7 q1 q2 122 aB) [(.ref aB)]) (fun t k => st107 t k) ?_
            refine GoW.sg (mkF m 31 (Sh7 q1 q2 122 aB) [(.ref aB), (.ref aB)]) (fun t k => XS.aloadN X107.here hx rfl (hb hby at_30) rfl rfl k) ?_
            refine GoW.sg (mkF m 34 (Sh7 q1 q2 122 aB) []) (fun t k => Jvm.RoadKit.acmp X107 hx rfl (cd := .ne) (x := (.ref aB)) (y := (.ref aB)) rfl rfl (pc0 := 31) (pc' := 34) (same := true) rfl (hb hby at_31) rfl (decide_eq_true rfl) (by decide) (by decide) k) ?_
            refine GoW.sg (mkF m 35 (Sh7 q1 q2 122 aB) [(.int 1)]) (fun t k => XS.iconst X107.here hx rfl (hb hby at_34) k) ?_
            refine GoW.sg (mkF m 39 (Sh7 q1 q2 122 aB) [(.int 1)]) (fun t k => XS.goto X107.here hx rfl (pc0 := 35) (pc' := 39) rfl (hb hby at_35) (by decide) (by decide) k) ?_
            refine GoW.retN X107 hx (t := .boolean) Bd.returns (by simp) (hb hby at_39) Bd.notSynchronized ?_ (by decide) (by decide)
            exact ⟨rfl, N107⟩
          · rw [vv]
            show GoW p e below s (ValQ (.int (1 : Int32)) n0) room_1.cells room_1.slots (T98.setTop (mkF m 19 (Sh6 q1 q2 122) [(.int 3)]))
            obtain ⟨_, _, ⟨T108, L108, k108, n108⟩, -, X108, ⟨Lc108, hQ108, l108, y108, z108⟩, st108⟩ := Jvm.LawKit.callS X98 hx (y := (⟨"com/example/lianzhuang/lianzhuang/tile/SuitWithLetterPinLaw", "pick", "(I)Lcom/example/lianzhuang/lianzhuang/tile/Suit;"⟩ : MethodName)) hown (mvT hZ (ww hw 29 rfl)) (mvT hZ (ww hw 30 rfl)) (mvT hZ (ww hw 27 rfl)) (mvT hZ (ww hw 31 rfl)) (by decide) (backOf (W := 0) (rmK3 l Z a0 hw []  aH T97.heap n0  Sta_com_example_lianzhuang_lianzhuang_tile_Suit_HONOURS_97   ) hZ (ww hw 31 rfl) (ww hw 27 rfl) (by decide) (by decide)) (g := (mkF m 19 (Sh6 q1 q2 122) [(.int 3)])) rfl (by rw [hml]; rfl) (argsL := [(.int (3 : Int32))]) (rest := []) (lenOf pd_28I29Lcom2fexample2flianzhuang2flianzhuang2ftile2fSuit3b rfl) rfl (by show 2 * 0 + _ ≤ _; exact Nat.le_of_eq rfl) (hb hby at_19) (fun _ _ => ⟨rfl, e98, (by decide : 1 + 0 ≤ _), (by decide : 4 + 0 ≤ _)⟩)
            dsimp only [Pt.U, Pt.locs, Pt.cells, Pt.slots] at X108 l108 y108 z108 st108 hQ108
            subst l108 y108 z108
            obtain ⟨rfl, N108q, e108⟩ := hQ108
            have N108 := Fr.app N98 N108q
            refine GoW.sg (mkF m 22 (Sh6 q1 q2 122) [(.ref aH)]) (fun t k => st108 t k) ?_
            refine GoW.sg (mkF m 23 (Sh7 q1 q2 122 aH) []) (fun t k => XS.astoreN X108.here hx rfl (hb hby at_22) rfl rfl (l' := (Sh7 q1 q2 122 aH)) rfl k) ?_
            refine GoW.sg (mkF m 24 (Sh7 q1 q2 122 aH) [(.ref aH)]) (fun t k => XS.aloadN X108.here hx rfl (hb hby at_23) rfl rfl k) ?_
            obtain ⟨cq109, kq109, q109a, q109b, q109c⟩ := isOf hZ e108 Exa_aH_97
            obtain ⟨_, _, ⟨T109, L109, k109, n109⟩, -, X109, ⟨Lc109, hQ109, l109, y109, z109⟩, st109⟩ := X108.virtualBack hx (y := (⟨"com/example/lianzhuang/lianzhuang/tile/Suit", "letter", "()C"⟩ : MethodName)) (z := (⟨"com/example/lianzhuang/lianzhuang/tile/Suit", "letter", "()C"⟩ : MethodName)) hown (mvT hZ (ww hw 33 rfl)) (mvT hZ (ww hw 34 rfl)) (notFace_of_selects (args := #[]) (mvT hZ (ww hw 36 rfl))) (mvT hZ (ww hw 36 rfl)) (mvT hZ (ww hw 35 rfl)) (by decide) (backOf (W := 0) (rmL122 l Z a0 hw [] aH  T97.heap n0  Fld_aH_letter_97   ) hZ (ww hw 37 rfl) (ww hw 2 rfl) (by decide) (by decide)) q109a q109c (g := (mkF m 24 (Sh7 q1 q2 122 aH) [(.ref aH)])) rfl (by rw [hml]; rfl) (Steps.refl _) (argsL := []) (rest := []) (lenOf pd_2829C rfl) rfl (by show 2 * 0 + _ ≤ _; exact Nat.le_of_eq rfl) (hb hby at_24) (fun _ _ => ⟨rfl, e108, (by decide : 1 + 0 ≤ _), (by decide : 4 + 0 ≤ _)⟩)
            dsimp only [Pt.U, Pt.locs, Pt.cells, Pt.slots] at X109 l109 y109 z109 st109 hQ109
            subst l109 y109 z109
            obtain ⟨rfl, N109q, e109⟩ := hQ109
            have N109 := Fr.app N108 N109q
            refine GoW.sg (mkF m 27 (Sh7 q1 q2 122 aH) [(.int 122)]) (fun t k => st109.trans k) ?_
            obtain ⟨_, _, ⟨T110, L110, k110, n110⟩, -, X110, ⟨Lc110, hQ110, l110, y110, z110⟩, st110⟩ := Jvm.LawKit.callS X109 hx (y := (⟨"com/example/lianzhuang/lianzhuang/tile/Suit", "withLetter", "(C)Lcom/example/lianzhuang/lianzhuang/tile/Suit;"⟩ : MethodName)) hown (mvT hZ (ww hw 0 rfl)) (mvT hZ (ww hw 1 rfl)) (mvT hZ (ww hw 2 rfl)) (mvT hZ (ww hw 3 rfl)) (by decide) (backOf (W := 0) (rmW122 l Z a0 hw []  aV kV aC aD aB aH T97.heap n0 Zs_97 Sta_com_example_lianzhuang_lianzhuang_tile_Suit_VALUES_97 Arv_aV_97 Exa_aV_97 Fld_aC_letter_97 Fld_aD_letter_97 Fld_aB_letter_97 Fld_aH_letter_97   ) hZ (ww hw 3 rfl) (ww hw 2 rfl) (by decide) (by decide)) (g := (mkF m 27 (Sh7 q1 q2 122 aH) [(.int 122)])) rfl (by rw [hml]; rfl) (argsL := [(.int (122 : Int32))]) (rest := []) (lenOf pd_28C29Lcom2fexample2flianzhuang2flianzhuang2ftile2fSuit3b rfl) rfl (by show 2 * 0 + _ ≤ _; exact Nat.le_of_eq rfl) (hb hby at_27) (fun _ _ => ⟨rfl, e109, (by decide : 1 + 1 ≤ _), (by decide : 4 + 4 ≤ _)⟩)
            dsimp only [Pt.U, Pt.locs, Pt.cells, Pt.slots] at X110 l110 y110 z110 st110 hQ110
            subst l110 y110 z110
            obtain ⟨rfl, N110q, K110⟩ := hQ110
            have N110 := Fr.app N109 N110q
            have Zs_110 : n0 ≤ T110.heap.size := Nat.le_trans Zs_97 K110.1
            have Sta_com_example_lianzhuang_lianzhuang_tile_Suit_VALUES_110 : Sta Z T110.heap "com/example/lianzhuang/lianzhuang/tile/Suit" "$VALUES" "[Lcom/example/lianzhuang/lianzhuang/tile/Suit;" (.ref aV) := own_staK0 Sta_com_example_lianzhuang_lianzhuang_tile_Suit_VALUES_97 K110
            have Arv_aV_110 : Arv Z T110.heap aV kV (.object "com/example/lianzhuang/lianzhuang/tile/Suit") (4 : Int32) [(.ref aC), (.ref aD), (.ref aB), (.ref aH)] .null := Arv_aV_97.keep K110 nin0
            have Exa_aV_110 : Exa Z T110.heap aV "[Lcom/example/lianzhuang/lianzhuang/tile/Suit;" := Exa_aV_97.keep K110
            have Fld_aC_letter_110 : Fld Z T110.heap aC "com/example/lianzhuang/lianzhuang/tile/Suit" "letter" "C" (.int (109 : Int32)) := Fld_aC_letter_97.keep K110 nin0
            have Fld_aD_letter_110 : Fld Z T110.heap aD "com/example/lianzhuang/lianzhuang/tile/Suit" "letter" "C" (.int (112 : Int32)) := Fld_aD_letter_97.keep K110 nin0
            have Fld_aB_letter_110 : Fld Z T110.heap aB "com/example/lianzhuang/lianzhuang/tile/Suit" "letter" "C" (.int (115 : Int32)) := Fld_aB_letter_97.keep K110 nin0
            have Fld_aH_letter_110 : Fld Z T110.heap aH "com/example/lianzhuang/lianzhuang/tile/Suit" "letter" "C" (.int (122 : Int32)) := Fld_aH_letter_97.keep K110 nin0
            have Sta_com_example_lianzhuang_lianzhuang_tile_Suit_CHARACTERS_110 : Sta Z T110.heap "com/example/lianzhuang/lianzhuang/tile/Suit" "CHARACTERS" "Lcom/example/lianzhuang/lianzhuang/tile/Suit;" (.ref aC) := own_staK0 Sta_com_example_lianzhuang_lianzhuang_tile_Suit_CHARACTERS_97 K110
            have Sta_com_example_lianzhuang_lianzhuang_tile_Suit_DOTS_110 : Sta Z T110.heap "com/example/lianzhuang/lianzhuang/tile/Suit" "DOTS" "Lcom/example/lianzhuang/lianzhuang/tile/Suit;" (.ref aD) := own_staK0 Sta_com_example_lianzhuang_lianzhuang_tile_Suit_DOTS_97 K110
            have Sta_com_example_lianzhuang_lianzhuang_tile_Suit_BAMBOO_110 : Sta Z T110.heap "com/example/lianzhuang/lianzhuang/tile/Suit" "BAMBOO" "Lcom/example/lianzhuang/lianzhuang/tile/Suit;" (.ref aB) := own_staK0 Sta_com_example_lianzhuang_lianzhuang_tile_Suit_BAMBOO_97 K110
            have Sta_com_example_lianzhuang_lianzhuang_tile_Suit_HONOURS_110 : Sta Z T110.heap "com/example/lianzhuang/lianzhuang/tile/Suit" "HONOURS" "Lcom/example/lianzhuang/lianzhuang/tile/Suit;" (.ref aH) := own_staK0 Sta_com_example_lianzhuang_lianzhuang_tile_Suit_HONOURS_97 K110
            have Exa_aC_110 : Exa Z T110.heap aC "com/example/lianzhuang/lianzhuang/tile/Suit" := Exa_aC_97.keep K110
            have Exa_aD_110 : Exa Z T110.heap aD "com/example/lianzhuang/lianzhuang/tile/Suit" := Exa_aD_97.keep K110
            have Exa_aB_110 : Exa Z T110.heap aB "com/example/lianzhuang/lianzhuang/tile/Suit" := Exa_aB_97.keep K110
            have Exa_aH_110 : Exa Z T110.heap aH "com/example/lianzhuang/lianzhuang/tile/Suit" := Exa_aH_97.keep K110
            refine GoW.sg (mkF m 30 (Sh7 q1 q2 122 aH) [(.ref aH)]) (fun t k => st110 t k) ?_
            refine GoW.sg (mkF m 31 (Sh7 q1 q2 122 aH) [(.ref aH), (.ref aH)]) (fun t k => XS.aloadN X110.here hx rfl (hb hby at_30) rfl rfl k) ?_
            refine GoW.sg (mkF m 34 (Sh7 q1 q2 122 aH) []) (fun t k => Jvm.RoadKit.acmp X110 hx rfl (cd := .ne) (x := (.ref aH)) (y := (.ref aH)) rfl rfl (pc0 := 31) (pc' := 34) (same := true) rfl (hb hby at_31) rfl (decide_eq_true rfl) (by decide) (by decide) k) ?_
            refine GoW.sg (mkF m 35 (Sh7 q1 q2 122 aH) [(.int 1)]) (fun t k => XS.iconst X110.here hx rfl (hb hby at_34) k) ?_
            refine GoW.sg (mkF m 39 (Sh7 q1 q2 122 aH) [(.int 1)]) (fun t k => XS.goto X110.here hx rfl (pc0 := 35) (pc' := 39) rfl (hb hby at_35) (by decide) (by decide) k) ?_
            refine GoW.retN X110 hx (t := .boolean) Bd.returns (by simp) (hb hby at_39) Bd.notSynchronized ?_ (by decide) (by decide)
            exact ⟨rfl, N110⟩
        · show GoW p e below s (ValQ (.int (1 : Int32)) n0) room_1.cells room_1.slots (s₁.setTop (mkF m 3 (Sh6 q1 q2 z54) []))
          refine GoW.sg (mkF m 4 (Sh6 q1 q2 z54) [(.int z54)]) (fun t k => XS.iloadN X0.here hx rfl (hb hby at_3) rfl k) ?_
          obtain ⟨_, _, ⟨T111, L111, k111, n111⟩, -, X111, ⟨Lc111, hQ111, l111, y111, z111⟩, st111⟩ := Jvm.LawKit.callS X0 hx (y := (⟨"com/example/lianzhuang/lianzhuang/tile/Suit", "withLetter", "(C)Lcom/example/lianzhuang/lianzhuang/tile/Suit;"⟩ : MethodName)) hown (mvT hZ (ww hw 0 rfl)) (mvT hZ (ww hw 1 rfl)) (mvT hZ (ww hw 2 rfl)) (mvT hZ (ww hw 3 rfl)) (by decide) (backOf (W := 0) (rmWn l Z a0 hw [] z54 aV kV aC aD aB aH h0 n0 Z0 P0 P1 P2 P3 P4 P5 P6   (fun q => v109 q.symm) (fun q => v112 q.symm) (fun q => v115 q.symm) (fun q => v122 q.symm)) hZ (ww hw 3 rfl) (ww hw 2 rfl) (by decide) (by decide)) (g := (mkF m 4 (Sh6 q1 q2 z54) [(.int z54)])) rfl (by rw [hml]; rfl) (argsL := [(.int z54)]) (rest := []) (lenOf pd_28C29Lcom2fexample2flianzhuang2flianzhuang2ftile2fSuit3b rfl) rfl (by show 2 * 0 + _ ≤ _; exact Nat.le_of_eq rfl) (hb hby at_4) (fun _ _ => ⟨rfl, e0, (by decide : 0 + 1 ≤ _), (by decide : 0 + 4 ≤ _)⟩)
          dsimp only [Pt.U, Pt.locs, Pt.cells, Pt.slots] at X111 l111 y111 z111 st111 hQ111
          subst l111 y111 z111
          obtain ⟨rfl, N111q, K111⟩ := hQ111
          have N111 := Fr.app N0 N111q
          have Zs_111 : n0 ≤ T111.heap.size := Nat.le_trans Z0 K111.1
          have Sta_com_example_lianzhuang_lianzhuang_tile_Suit_VALUES_111 : Sta Z T111.heap "com/example/lianzhuang/lianzhuang/tile/Suit" "$VALUES" "[Lcom/example/lianzhuang/lianzhuang/tile/Suit;" (.ref aV) := own_staK0 P0 K111
          have Arv_aV_111 : Arv Z T111.heap aV kV (.object "com/example/lianzhuang/lianzhuang/tile/Suit") (4 : Int32) [(.ref aC), (.ref aD), (.ref aB), (.ref aH)] .null := P1.keep K111 nin0
          have Exa_aV_111 : Exa Z T111.heap aV "[Lcom/example/lianzhuang/lianzhuang/tile/Suit;" := P2.keep K111
          have Fld_aC_letter_111 : Fld Z T111.heap aC "com/example/lianzhuang/lianzhuang/tile/Suit" "letter" "C" (.int (109 : Int32)) := P3.keep K111 nin0
          have Fld_aD_letter_111 : Fld Z T111.heap aD "com/example/lianzhuang/lianzhuang/tile/Suit" "letter" "C" (.int (112 : Int32)) := P4.keep K111 nin0
          have Fld_aB_letter_111 : Fld Z T111.heap aB "com/example/lianzhuang/lianzhuang/tile/Suit" "letter" "C" (.int (115 : Int32)) := P5.keep K111 nin0
          have Fld_aH_letter_111 : Fld Z T111.heap aH "com/example/lianzhuang/lianzhuang/tile/Suit" "letter" "C" (.int (122 : Int32)) := P6.keep K111 nin0
          have Sta_com_example_lianzhuang_lianzhuang_tile_Suit_CHARACTERS_111 : Sta Z T111.heap "com/example/lianzhuang/lianzhuang/tile/Suit" "CHARACTERS" "Lcom/example/lianzhuang/lianzhuang/tile/Suit;" (.ref aC) := own_staK0 P7 K111
          have Sta_com_example_lianzhuang_lianzhuang_tile_Suit_DOTS_111 : Sta Z T111.heap "com/example/lianzhuang/lianzhuang/tile/Suit" "DOTS" "Lcom/example/lianzhuang/lianzhuang/tile/Suit;" (.ref aD) := own_staK0 P8 K111
          have Sta_com_example_lianzhuang_lianzhuang_tile_Suit_BAMBOO_111 : Sta Z T111.heap "com/example/lianzhuang/lianzhuang/tile/Suit" "BAMBOO" "Lcom/example/lianzhuang/lianzhuang/tile/Suit;" (.ref aB) := own_staK0 P9 K111
          have Sta_com_example_lianzhuang_lianzhuang_tile_Suit_HONOURS_111 : Sta Z T111.heap "com/example/lianzhuang/lianzhuang/tile/Suit" "HONOURS" "Lcom/example/lianzhuang/lianzhuang/tile/Suit;" (.ref aH) := own_staK0 P10 K111
          have Exa_aC_111 : Exa Z T111.heap aC "com/example/lianzhuang/lianzhuang/tile/Suit" := P11.keep K111
          have Exa_aD_111 : Exa Z T111.heap aD "com/example/lianzhuang/lianzhuang/tile/Suit" := P12.keep K111
          have Exa_aB_111 : Exa Z T111.heap aB "com/example/lianzhuang/lianzhuang/tile/Suit" := P13.keep K111
          have Exa_aH_111 : Exa Z T111.heap aH "com/example/lianzhuang/lianzhuang/tile/Suit" := P14.keep K111
          refine GoW.sg (mkF m 7 (Sh6 q1 q2 z54) [.null]) (fun t k => st111 t k) ?_
          refine GoW.sg (mkF m 8 (Sh6 q1 q2 z54) [(.int z54), .null]) (fun t k => XS.iloadN X111.here hx rfl (hb hby at_7) rfl k) ?_
          obtain ⟨_, _, ⟨T112, L112, k112, n112⟩, -, X112, ⟨Lc112, hQ112, l112, y112, z112⟩, st112⟩ := Jvm.LawKit.callS X111 hx (y := (⟨"com/example/lianzhuang/lianzhuang/tile/SuitWithLetterPinLaw", "expectedFor", "(C)Lcom/example/lianzhuang/lianzhuang/tile/Suit;"⟩ : MethodName)) hown (mvT hZ (ww hw 25 rfl)) (mvT hZ (ww hw 26 rfl)) (mvT hZ (ww hw 27 rfl)) (mvT hZ (ww hw 28 rfl)) (by decide) (backOf (W := 1) (rmEn l Z a0 hw [] z54  T111.heap n0     v109 v112 v115 v122) hZ (ww hw 28 rfl) (ww hw 27 rfl) (by decide) (by decide)) (g := (mkF m 8 (Sh6 q1 q2 z54) [(.int z54), .null])) rfl (by rw [hml]; rfl) (argsL := [(.int z54)]) (rest := [.null]) (lenOf pd_28C29Lcom2fexample2flianzhuang2flianzhuang2ftile2fSuit3b rfl) rfl (by show 2 * 0 + _ ≤ _; exact Nat.le_of_eq rfl) (hb hby at_8) (fun _ _ => ⟨rfl, rfl, (by decide : 1 + 0 ≤ _), (by decide : 4 + 0 ≤ _)⟩)
          dsimp only [Pt.U, Pt.locs, Pt.cells, Pt.slots] at X112 l112 y112 z112 st112 hQ112
          subst l112 y112 z112
          obtain ⟨rfl, N112q, e112⟩ := hQ112
          have N112 := Fr.app N111 N112q
          refine GoW.sg (mkF m 11 (Sh6 q1 q2 z54) [.null, .null]) (fun t k => st112 t k) ?_
          refine GoW.sg (mkF m 16 (Sh6 q1 q2 z54) []) (fun t k => Jvm.RoadKit.acmp X112 hx rfl (cd := .eq) (x := .null) (y := .null) rfl rfl (pc0 := 11) (pc' := 16) (same := true) rfl (hb hby at_11) rfl (decide_eq_true rfl) (by decide) (by decide) k) ?_
          refine GoW.sg (mkF m 17 (Sh6 q1 q2 z54) [(.int q2)]) (fun t k => XS.iloadN X112.here hx rfl (hb hby at_16) rfl k) ?_
          refine GoW.sg (mkF m 18 (Sh6 q1 q2 z54) [(.int 3), (.int q2)]) (fun t k => XS.iconst X112.here hx rfl (hb hby at_17) k) ?_
          refine GoW.sg (mkF m 19 (Sh6 q1 q2 z54) [(.int (q2 &&& (3 : Int32)))]) (fun t k => XS.iand X112.here hx rfl (hb hby at_18) rfl k) ?_
          rcases own_and3 q2 with vv | vv | vv | vv
          · rw [vv]
            show GoW p e below s (ValQ (.int (1 : Int32)) n0) room_1.cells room_1.slots (T112.setTop (mkF m 19 (Sh6 q1 q2 z54) [(.int 0)]))
            obtain ⟨_, _, ⟨T113, L113, k113, n113⟩, -, X113, ⟨Lc113, hQ113, l113, y113, z113⟩, st113⟩ := Jvm.LawKit.callS X112 hx (y := (⟨"com/example/lianzhuang/lianzhuang/tile/SuitWithLetterPinLaw", "pick", "(I)Lcom/example/lianzhuang/lianzhuang/tile/Suit;"⟩ : MethodName)) hown (mvT hZ (ww hw 29 rfl)) (mvT hZ (ww hw 30 rfl)) (mvT hZ (ww hw 27 rfl)) (mvT hZ (ww hw 31 rfl)) (by decide) (backOf (W := 0) (rmK0 l Z a0 hw []  aC T111.heap n0  Sta_com_example_lianzhuang_lianzhuang_tile_Suit_CHARACTERS_111   ) hZ (ww hw 31 rfl) (ww hw 27 rfl) (by decide) (by decide)) (g := (mkF m 19 (Sh6 q1 q2 z54) [(.int 0)])) rfl (by rw [hml]; rfl) (argsL := [(.int (0 : Int32))]) (rest := []) (lenOf pd_28I29Lcom2fexample2flianzhuang2flianzhuang2ftile2fSuit3b rfl) rfl (by show 2 * 0 + _ ≤ _; exact Nat.le_of_eq rfl) (hb hby at_19) (fun _ _ => ⟨rfl, e112, (by decide : 1 + 0 ≤ _), (by decide : 4 + 0 ≤ _)⟩)
            dsimp only [Pt.U, Pt.locs, Pt.cells, Pt.slots] at X113 l113 y113 z113 st113 hQ113
            subst l113 y113 z113
            obtain ⟨rfl, N113q, e113⟩ := hQ113
            have N113 := Fr.app N112 N113q
            refine GoW.sg (mkF m 22 (Sh6 q1 q2 z54) [(.ref aC)]) (fun t k => st113 t k) ?_
            refine GoW.sg (mkF m 23 (Sh7 q1 q2 z54 aC) []) (fun t k => XS.astoreN X113.here hx rfl (hb hby at_22) rfl rfl (l' := (Sh7 q1 q2 z54 aC)) rfl k) ?_
            refine GoW.sg (mkF m 24 (Sh7 q1 q2 z54 aC) [(.ref aC)]) (fun t k => XS.aloadN X113.here hx rfl (hb hby at_23) rfl rfl k) ?_
            obtain ⟨cq114, kq114, q114a, q114b, q114c⟩ := isOf hZ e113 Exa_aC_111
            obtain ⟨_, _, ⟨T114, L114, k114, n114⟩, -, X114, ⟨Lc114, hQ114, l114, y114, z114⟩, st114⟩ := X113.virtualBack hx (y := (⟨"com/example/lianzhuang/lianzhuang/tile/Suit", "letter", "()C"⟩ : MethodName)) (z := (⟨"com/example/lianzhuang/lianzhuang/tile/Suit", "letter", "()C"⟩ : MethodName)) hown (mvT hZ (ww hw 33 rfl)) (mvT hZ (ww hw 34 rfl)) (notFace_of_selects (args := #[]) (mvT hZ (ww hw 36 rfl))) (mvT hZ (ww hw 36 rfl)) (mvT hZ (ww hw 35 rfl)) (by decide) (backOf (W := 0) (rmL109 l Z a0 hw [] aC  T111.heap n0  Fld_aC_letter_111   ) hZ (ww hw 37 rfl) (ww hw 2 rfl) (by decide) (by decide)) q114a q114c (g := (mkF m 24 (Sh7 q1 q2 z54 aC) [(.ref aC)])) rfl (by rw [hml]; rfl) (Steps.refl _) (argsL := []) (rest := []) (lenOf pd_2829C rfl) rfl (by show 2 * 0 + _ ≤ _; exact Nat.le_of_eq rfl) (hb hby at_24) (fun _ _ => ⟨rfl, e113, (by decide : 1 + 0 ≤ _), (by decide : 4 + 0 ≤ _)⟩)
            dsimp only [Pt.U, Pt.locs, Pt.cells, Pt.slots] at X114 l114 y114 z114 st114 hQ114
            subst l114 y114 z114
            obtain ⟨rfl, N114q, e114⟩ := hQ114
            have N114 := Fr.app N113 N114q
            refine GoW.sg (mkF m 27 (Sh7 q1 q2 z54 aC) [(.int 109)]) (fun t k => st114.trans k) ?_
            obtain ⟨_, _, ⟨T115, L115, k115, n115⟩, -, X115, ⟨Lc115, hQ115, l115, y115, z115⟩, st115⟩ := Jvm.LawKit.callS X114 hx (y := (⟨"com/example/lianzhuang/lianzhuang/tile/Suit", "withLetter", "(C)Lcom/example/lianzhuang/lianzhuang/tile/Suit;"⟩ : MethodName)) hown (mvT hZ (ww hw 0 rfl)) (mvT hZ (ww hw 1 rfl)) (mvT hZ (ww hw 2 rfl)) (mvT hZ (ww hw 3 rfl)) (by decide) (backOf (W := 0) (rmW109 l Z a0 hw []  aV kV aC aD aB aH T111.heap n0 Zs_111 Sta_com_example_lianzhuang_lianzhuang_tile_Suit_VALUES_111 Arv_aV_111 Exa_aV_111 Fld_aC_letter_111 Fld_aD_letter_111 Fld_aB_letter_111 Fld_aH_letter_111   ) hZ (ww hw 3 rfl) (ww hw 2 rfl) (by decide) (by decide)) (g := (mkF m 27 (Sh7 q1 q2 z54 aC) [(.int 109)])) rfl (by rw [hml]; rfl) (argsL := [(.int (109 : Int32))]) (rest := []) (lenOf pd_28C29Lcom2fexample2flianzhuang2flianzhuang2ftile2fSuit3b rfl) rfl (by show 2 * 0 + _ ≤ _; exact Nat.le_of_eq rfl) (hb hby at_27) (fun _ _ => ⟨rfl, e114, (by decide : 1 + 1 ≤ _), (by decide : 4 + 4 ≤ _)⟩)
            dsimp only [Pt.U, Pt.locs, Pt.cells, Pt.slots] at X115 l115 y115 z115 st115 hQ115
            subst l115 y115 z115
            obtain ⟨rfl, N115q, K115⟩ := hQ115
            have N115 := Fr.app N114 N115q
            have Zs_115 : n0 ≤ T115.heap.size := Nat.le_trans Zs_111 K115.1
            have Sta_com_example_lianzhuang_lianzhuang_tile_Suit_VALUES_115 : Sta Z T115.heap "com/example/lianzhuang/lianzhuang/tile/Suit" "$VALUES" "[Lcom/example/lianzhuang/lianzhuang/tile/Suit;" (.ref aV) := own_staK0 Sta_com_example_lianzhuang_lianzhuang_tile_Suit_VALUES_111 K115
            have Arv_aV_115 : Arv Z T115.heap aV kV (.object "com/example/lianzhuang/lianzhuang/tile/Suit") (4 : Int32) [(.ref aC), (.ref aD), (.ref aB), (.ref aH)] .null := Arv_aV_111.keep K115 nin0
            have Exa_aV_115 : Exa Z T115.heap aV "[Lcom/example/lianzhuang/lianzhuang/tile/Suit;" := Exa_aV_111.keep K115
            have Fld_aC_letter_115 : Fld Z T115.heap aC "com/example/lianzhuang/lianzhuang/tile/Suit" "letter" "C" (.int (109 : Int32)) := Fld_aC_letter_111.keep K115 nin0
            have Fld_aD_letter_115 : Fld Z T115.heap aD "com/example/lianzhuang/lianzhuang/tile/Suit" "letter" "C" (.int (112 : Int32)) := Fld_aD_letter_111.keep K115 nin0
            have Fld_aB_letter_115 : Fld Z T115.heap aB "com/example/lianzhuang/lianzhuang/tile/Suit" "letter" "C" (.int (115 : Int32)) := Fld_aB_letter_111.keep K115 nin0
            have Fld_aH_letter_115 : Fld Z T115.heap aH "com/example/lianzhuang/lianzhuang/tile/Suit" "letter" "C" (.int (122 : Int32)) := Fld_aH_letter_111.keep K115 nin0
            have Sta_com_example_lianzhuang_lianzhuang_tile_Suit_CHARACTERS_115 : Sta Z T115.heap "com/example/lianzhuang/lianzhuang/tile/Suit" "CHARACTERS" "Lcom/example/lianzhuang/lianzhuang/tile/Suit;" (.ref aC) := own_staK0 Sta_com_example_lianzhuang_lianzhuang_tile_Suit_CHARACTERS_111 K115
            have Sta_com_example_lianzhuang_lianzhuang_tile_Suit_DOTS_115 : Sta Z T115.heap "com/example/lianzhuang/lianzhuang/tile/Suit" "DOTS" "Lcom/example/lianzhuang/lianzhuang/tile/Suit;" (.ref aD) := own_staK0 Sta_com_example_lianzhuang_lianzhuang_tile_Suit_DOTS_111 K115
            have Sta_com_example_lianzhuang_lianzhuang_tile_Suit_BAMBOO_115 : Sta Z T115.heap "com/example/lianzhuang/lianzhuang/tile/Suit" "BAMBOO" "Lcom/example/lianzhuang/lianzhuang/tile/Suit;" (.ref aB) := own_staK0 Sta_com_example_lianzhuang_lianzhuang_tile_Suit_BAMBOO_111 K115
            have Sta_com_example_lianzhuang_lianzhuang_tile_Suit_HONOURS_115 : Sta Z T115.heap "com/example/lianzhuang/lianzhuang/tile/Suit" "HONOURS" "Lcom/example/lianzhuang/lianzhuang/tile/Suit;" (.ref aH) := own_staK0 Sta_com_example_lianzhuang_lianzhuang_tile_Suit_HONOURS_111 K115
            have Exa_aC_115 : Exa Z T115.heap aC "com/example/lianzhuang/lianzhuang/tile/Suit" := Exa_aC_111.keep K115
            have Exa_aD_115 : Exa Z T115.heap aD "com/example/lianzhuang/lianzhuang/tile/Suit" := Exa_aD_111.keep K115
            have Exa_aB_115 : Exa Z T115.heap aB "com/example/lianzhuang/lianzhuang/tile/Suit" := Exa_aB_111.keep K115
            have Exa_aH_115 : Exa Z T115.heap aH "com/example/lianzhuang/lianzhuang/tile/Suit" := Exa_aH_111.keep K115
            refine GoW.sg (mkF m 30 (Sh7 q1 q2 z54 aC) [(.ref aC)]) (fun t k => st115 t k) ?_
            refine GoW.sg (mkF m 31 (Sh7 q1 q2 z54 aC) [(.ref aC), (.ref aC)]) (fun t k => XS.aloadN X115.here hx rfl (hb hby at_30) rfl rfl k) ?_
            refine GoW.sg (mkF m 34 (Sh7 q1 q2 z54 aC) []) (fun t k => Jvm.RoadKit.acmp X115 hx rfl (cd := .ne) (x := (.ref aC)) (y := (.ref aC)) rfl rfl (pc0 := 31) (pc' := 34) (same := true) rfl (hb hby at_31) rfl (decide_eq_true rfl) (by decide) (by decide) k) ?_
            refine GoW.sg (mkF m 35 (Sh7 q1 q2 z54 aC) [(.int 1)]) (fun t k => XS.iconst X115.here hx rfl (hb hby at_34) k) ?_
            refine GoW.sg (mkF m 39 (Sh7 q1 q2 z54 aC) [(.int 1)]) (fun t k => XS.goto X115.here hx rfl (pc0 := 35) (pc' := 39) rfl (hb hby at_35) (by decide) (by decide) k) ?_
            refine GoW.retN X115 hx (t := .boolean) Bd.returns (by simp) (hb hby at_39) Bd.notSynchronized ?_ (by decide) (by decide)
            exact ⟨rfl, N115⟩
          · rw [vv]
            show GoW p e below s (ValQ (.int (1 : Int32)) n0) room_1.cells room_1.slots (T112.setTop (mkF m 19 (Sh6 q1 q2 z54) [(.int 1)]))
            obtain ⟨_, _, ⟨T116, L116, k116, n116⟩, -, X116, ⟨Lc116, hQ116, l116, y116, z116⟩, st116⟩ := Jvm.LawKit.callS X112 hx (y := (⟨"com/example/lianzhuang/lianzhuang/tile/SuitWithLetterPinLaw", "pick", "(I)Lcom/example/lianzhuang/lianzhuang/tile/Suit;"⟩ : MethodName)) hown (mvT hZ (ww hw 29 rfl)) (mvT hZ (ww hw 30 rfl)) (mvT hZ (ww hw 27 rfl)) (mvT hZ (ww hw 31 rfl)) (by decide) (backOf (W := 0) (rmK1 l Z a0 hw []  aD T111.heap n0  Sta_com_example_lianzhuang_lianzhuang_tile_Suit_DOTS_111   ) hZ (ww hw 31 rfl) (ww hw 27 rfl) (by decide) (by decide)) (g := (mkF m 19 (Sh6 q1 q2 z54) [(.int 1)])) rfl (by rw [hml]; rfl) (argsL := [(.int (1 : Int32))]) (rest := []) (lenOf pd_28I29Lcom2fexample2flianzhuang2flianzhuang2ftile2fSuit3b rfl) rfl (by show 2 * 0 + _ ≤ _; exact Nat.le_of_eq rfl) (hb hby at_19) (fun _ _ => ⟨rfl, e112, (by decide : 1 + 0 ≤ _), (by decide : 4 + 0 ≤ _)⟩)
            dsimp only [Pt.U, Pt.locs, Pt.cells, Pt.slots] at X116 l116 y116 z116 st116 hQ116
            subst l116 y116 z116
            obtain ⟨rfl, N116q, e116⟩ := hQ116
            have N116 := Fr.app N112 N116q
            refine GoW.sg (mkF m 22 (Sh6 q1 q2 z54) [(.ref aD)]) (fun t k => st116 t k) ?_
            refine GoW.sg (mkF m 23 (Sh7 q1 q2 z54 aD) []) (fun t k => XS.astoreN X116.here hx rfl (hb hby at_22) rfl rfl (l' := (Sh7 q1 q2 z54 aD)) rfl k) ?_
            refine GoW.sg (mkF m 24 (Sh7 q1 q2 z54 aD) [(.ref aD)]) (fun t k => XS.aloadN X116.here hx rfl (hb hby at_23) rfl rfl k) ?_
            obtain ⟨cq117, kq117, q117a, q117b, q117c⟩ := isOf hZ e116 Exa_aD_111
            obtain ⟨_, _, ⟨T117, L117, k117, n117⟩, -, X117, ⟨Lc117, hQ117, l117, y117, z117⟩, st117⟩ := X116.virtualBack hx (y := (⟨"com/example/lianzhuang/lianzhuang/tile/Suit", "letter", "()C"⟩ : MethodName)) (z := (⟨"com/example/lianzhuang/lianzhuang/tile/Suit", "letter", "()C"⟩ : MethodName)) hown (mvT hZ (ww hw 33 rfl)) (mvT hZ (ww hw 34 rfl)) (notFace_of_selects (args := #[]) (mvT hZ (ww hw 36 rfl))) (mvT hZ (ww hw 36 rfl)) (mvT hZ (ww hw 35 rfl)) (by decide) (backOf (W := 0) (rmL112 l Z a0 hw [] aD  T111.heap n0  Fld_aD_letter_111   ) hZ (ww hw 37 rfl) (ww hw 2 rfl) (by decide) (by decide)) q117a q117c (g := (mkF m 24 (Sh7 q1 q2 z54 aD) [(.ref aD)])) rfl (by rw [hml]; rfl) (Steps.refl _) (argsL := []) (rest := []) (lenOf pd_2829C rfl) rfl (by show 2 * 0 + _ ≤ _; exact Nat.le_of_eq rfl) (hb hby at_24) (fun _ _ => ⟨rfl, e116, (by decide : 1 + 0 ≤ _), (by decide : 4 + 0 ≤ _)⟩)
            dsimp only [Pt.U, Pt.locs, Pt.cells, Pt.slots] at X117 l117 y117 z117 st117 hQ117
            subst l117 y117 z117
            obtain ⟨rfl, N117q, e117⟩ := hQ117
            have N117 := Fr.app N116 N117q
            refine GoW.sg (mkF m 27 (Sh7 q1 q2 z54 aD) [(.int 112)]) (fun t k => st117.trans k) ?_
            obtain ⟨_, _, ⟨T118, L118, k118, n118⟩, -, X118, ⟨Lc118, hQ118, l118, y118, z118⟩, st118⟩ := Jvm.LawKit.callS X117 hx (y := (⟨"com/example/lianzhuang/lianzhuang/tile/Suit", "withLetter", "(C)Lcom/example/lianzhuang/lianzhuang/tile/Suit;"⟩ : MethodName)) hown (mvT hZ (ww hw 0 rfl)) (mvT hZ (ww hw 1 rfl)) (mvT hZ (ww hw 2 rfl)) (mvT hZ (ww hw 3 rfl)) (by decide) (backOf (W := 0) (rmW112 l Z a0 hw []  aV kV aC aD aB aH T111.heap n0 Zs_111 Sta_com_example_lianzhuang_lianzhuang_tile_Suit_VALUES_111 Arv_aV_111 Exa_aV_111 Fld_aC_letter_111 Fld_aD_letter_111 Fld_aB_letter_111 Fld_aH_letter_111   ) hZ (ww hw 3 rfl) (ww hw 2 rfl) (by decide) (by decide)) (g := (mkF m 27 (Sh7 q1 q2 z54 aD) [(.int 112)])) rfl (by rw [hml]; rfl) (argsL := [(.int (112 : Int32))]) (rest := []) (lenOf pd_28C29Lcom2fexample2flianzhuang2flianzhuang2ftile2fSuit3b rfl) rfl (by show 2 * 0 + _ ≤ _; exact Nat.le_of_eq rfl) (hb hby at_27) (fun _ _ => ⟨rfl, e117, (by decide : 1 + 1 ≤ _), (by decide : 4 + 4 ≤ _)⟩)
            dsimp only [Pt.U, Pt.locs, Pt.cells, Pt.slots] at X118 l118 y118 z118 st118 hQ118
            subst l118 y118 z118
            obtain ⟨rfl, N118q, K118⟩ := hQ118
            have N118 := Fr.app N117 N118q
            have Zs_118 : n0 ≤ T118.heap.size := Nat.le_trans Zs_111 K118.1
            have Sta_com_example_lianzhuang_lianzhuang_tile_Suit_VALUES_118 : Sta Z T118.heap "com/example/lianzhuang/lianzhuang/tile/Suit" "$VALUES" "[Lcom/example/lianzhuang/lianzhuang/tile/Suit;" (.ref aV) := own_staK0 Sta_com_example_lianzhuang_lianzhuang_tile_Suit_VALUES_111 K118
            have Arv_aV_118 : Arv Z T118.heap aV kV (.object "com/example/lianzhuang/lianzhuang/tile/Suit") (4 : Int32) [(.ref aC), (.ref aD), (.ref aB), (.ref aH)] .null := Arv_aV_111.keep K118 nin0
            have Exa_aV_118 : Exa Z T118.heap aV "[Lcom/example/lianzhuang/lianzhuang/tile/Suit;" := Exa_aV_111.keep K118
            have Fld_aC_letter_118 : Fld Z T118.heap aC "com/example/lianzhuang/lianzhuang/tile/Suit" "letter" "C" (.int (109 : Int32)) := Fld_aC_letter_111.keep K118 nin0
            have Fld_aD_letter_118 : Fld Z T118.heap aD "com/example/lianzhuang/lianzhuang/tile/Suit" "letter" "C" (.int (112 : Int32)) := Fld_aD_letter_111.keep K118 nin0
            have Fld_aB_letter_118 : Fld Z T118.heap aB "com/example/lianzhuang/lianzhuang/tile/Suit" "letter" "C" (.int (115 : Int32)) := Fld_aB_letter_111.keep K118 nin0
            have Fld_aH_letter_118 : Fld Z T118.heap aH "com/example/lianzhuang/lianzhuang/tile/Suit" "letter" "C" (.int (122 : Int32)) := Fld_aH_letter_111.keep K118 nin0
            have Sta_com_example_lianzhuang_lianzhuang_tile_Suit_CHARACTERS_118 : Sta Z T118.heap "com/example/lianzhuang/lianzhuang/tile/Suit" "CHARACTERS" "Lcom/example/lianzhuang/lianzhuang/tile/Suit;" (.ref aC) := own_staK0 Sta_com_example_lianzhuang_lianzhuang_tile_Suit_CHARACTERS_111 K118
            have Sta_com_example_lianzhuang_lianzhuang_tile_Suit_DOTS_118 : Sta Z T118.heap "com/example/lianzhuang/lianzhuang/tile/Suit" "DOTS" "Lcom/example/lianzhuang/lianzhuang/tile/Suit;" (.ref aD) := own_staK0 Sta_com_example_lianzhuang_lianzhuang_tile_Suit_DOTS_111 K118
            have Sta_com_example_lianzhuang_lianzhuang_tile_Suit_BAMBOO_118 : Sta Z T118.heap "com/example/lianzhuang/lianzhuang/tile/Suit" "BAMBOO" "Lcom/example/lianzhuang/lianzhuang/tile/Suit;" (.ref aB) := own_staK0 Sta_com_example_lianzhuang_lianzhuang_tile_Suit_BAMBOO_111 K118
            have Sta_com_example_lianzhuang_lianzhuang_tile_Suit_HONOURS_118 : Sta Z T118.heap "com/example/lianzhuang/lianzhuang/tile/Suit" "HONOURS" "Lcom/example/lianzhuang/lianzhuang/tile/Suit;" (.ref aH) := own_staK0 Sta_com_example_lianzhuang_lianzhuang_tile_Suit_HONOURS_111 K118
            have Exa_aC_118 : Exa Z T118.heap aC "com/example/lianzhuang/lianzhuang/tile/Suit" := Exa_aC_111.keep K118
            have Exa_aD_118 : Exa Z T118.heap aD "com/example/lianzhuang/lianzhuang/tile/Suit" := Exa_aD_111.keep K118
            have Exa_aB_118 : Exa Z T118.heap aB "com/example/lianzhuang/lianzhuang/tile/Suit" := Exa_aB_111.keep K118
            have Exa_aH_118 : Exa Z T118.heap aH "com/example/lianzhuang/lianzhuang/tile/Suit" := Exa_aH_111.keep K118
            refine GoW.sg (mkF m 30 (Sh7 q1 q2 z54 aD) [(.ref aD)]) (fun t k => st118 t k) ?_
            refine GoW.sg (mkF m 31 (Sh7 q1 q2 z54 aD) [(.ref aD), (.ref aD)]) (fun t k => XS.aloadN X118.here hx rfl (hb hby at_30) rfl rfl k) ?_
            refine GoW.sg (mkF m 34 (Sh7 q1 q2 z54 aD) []) (fun t k => Jvm.RoadKit.acmp X118 hx rfl (cd := .ne) (x := (.ref aD)) (y := (.ref aD)) rfl rfl (pc0 := 31) (pc' := 34) (same := true) rfl (hb hby at_31) rfl (decide_eq_true rfl) (by decide) (by decide) k) ?_
            refine GoW.sg (mkF m 35 (Sh7 q1 q2 z54 aD) [(.int 1)]) (fun t k => XS.iconst X118.here hx rfl (hb hby at_34) k) ?_
            refine GoW.sg (mkF m 39 (Sh7 q1 q2 z54 aD) [(.int 1)]) (fun t k => XS.goto X118.here hx rfl (pc0 := 35) (pc' := 39) rfl (hb hby at_35) (by decide) (by decide) k) ?_
            refine GoW.retN X118 hx (t := .boolean) Bd.returns (by simp) (hb hby at_39) Bd.notSynchronized ?_ (by decide) (by decide)
            exact ⟨rfl, N118⟩
          · rw [vv]
            show GoW p e below s (ValQ (.int (1 : Int32)) n0) room_1.cells room_1.slots (T112.setTop (mkF m 19 (Sh6 q1 q2 z54) [(.int 2)]))
            obtain ⟨_, _, ⟨T119, L119, k119, n119⟩, -, X119, ⟨Lc119, hQ119, l119, y119, z119⟩, st119⟩ := Jvm.LawKit.callS X112 hx (y := (⟨"com/example/lianzhuang/lianzhuang/tile/SuitWithLetterPinLaw", "pick", "(I)Lcom/example/lianzhuang/lianzhuang/tile/Suit;"⟩ : MethodName)) hown (mvT hZ (ww hw 29 rfl)) (mvT hZ (ww hw 30 rfl)) (mvT hZ (ww hw 27 rfl)) (mvT hZ (ww hw 31 rfl)) (by decide) (backOf (W := 0) (rmK2 l Z a0 hw []  aB T111.heap n0  Sta_com_example_lianzhuang_lianzhuang_tile_Suit_BAMBOO_111   ) hZ (ww hw 31 rfl) (ww hw 27 rfl) (by decide) (by decide)) (g := (mkF m 19 (Sh6 q1 q2 z54) [(.int 2)])) rfl (by rw [hml]; rfl) (argsL := [(.int (2 : Int32))]) (rest := []) (lenOf pd_28I29Lcom2fexample2flianzhuang2flianzhuang2ftile2fSuit3b rfl) rfl (by show 2 * 0 + _ ≤ _; exact Nat.le_of_eq rfl) (hb hby at_19) (fun _ _ => ⟨rfl, e112, (by decide : 1 + 0 ≤ _), (by decide : 4 + 0 ≤ _)⟩)
            dsimp only [Pt.U, Pt.locs, Pt.cells, Pt.slots] at X119 l119 y119 z119 st119 hQ119
            subst l119 y119 z119
            obtain ⟨rfl, N119q, e119⟩ := hQ119
            have N119 := Fr.app N112 N119q
            refine GoW.sg (mkF m 22 (Sh6 q1 q2 z54) [(.ref aB)]) (fun t k => st119 t k) ?_
            refine GoW.sg (mkF m 23 (Sh7 q1 q2 z54 aB) []) (fun t k => XS.astoreN X119.here hx rfl (hb hby at_22) rfl rfl (l' := (Sh7 q1 q2 z54 aB)) rfl k) ?_
            refine GoW.sg (mkF m 24 (Sh7 q1 q2 z54 aB) [(.ref aB)]) (fun t k => XS.aloadN X119.here hx rfl (hb hby at_23) rfl rfl k) ?_
            obtain ⟨cq120, kq120, q120a, q120b, q120c⟩ := isOf hZ e119 Exa_aB_111
            obtain ⟨_, _, ⟨T120, L120, k120, n120⟩, -, X120, ⟨Lc120, hQ120, l120, y120, z120⟩, st120⟩ := X119.virtualBack hx (y := (⟨"com/example/lianzhuang/lianzhuang/tile/Suit", "letter", "()C"⟩ : MethodName)) (z := (⟨"com/example/lianzhuang/lianzhuang/tile/Suit", "letter", "()C"⟩ : MethodName)) hown (mvT hZ (ww hw 33 rfl)) (mvT hZ (ww hw 34 rfl)) (notFace_of_selects (args := #[]) (mvT hZ (ww hw 36 rfl))) (mvT hZ (ww hw 36 rfl)) (mvT hZ (ww hw 35 rfl)) (by decide) (backOf (W := 0) (rmL115 l Z a0 hw [] aB  T111.heap n0  Fld_aB_letter_111   ) hZ (ww hw 37 rfl) (ww hw 2 rfl) (by decide) (by decide)) q120a q120c (g := (mkF m 24 (Sh7 q1 q2 z54 aB) [(.ref aB)])) rfl (by rw [hml]; rfl) (Steps.refl _) (argsL := []) (rest := []) (lenOf pd_2829C rfl) rfl (by show 2 * 0 + _ ≤ _; exact Nat.le_of_eq rfl) (hb hby at_24) (fun _ _ => ⟨rfl, e119, (by decide : 1 + 0 ≤ _), (by decide : 4 + 0 ≤ _)⟩)
            dsimp only [Pt.U, Pt.locs, Pt.cells, Pt.slots] at X120 l120 y120 z120 st120 hQ120
            subst l120 y120 z120
            obtain ⟨rfl, N120q, e120⟩ := hQ120
            have N120 := Fr.app N119 N120q
            refine GoW.sg (mkF m 27 (Sh7 q1 q2 z54 aB) [(.int 115)]) (fun t k => st120.trans k) ?_
            obtain ⟨_, _, ⟨T121, L121, k121, n121⟩, -, X121, ⟨Lc121, hQ121, l121, y121, z121⟩, st121⟩ := Jvm.LawKit.callS X120 hx (y := (⟨"com/example/lianzhuang/lianzhuang/tile/Suit", "withLetter", "(C)Lcom/example/lianzhuang/lianzhuang/tile/Suit;"⟩ : MethodName)) hown (mvT hZ (ww hw 0 rfl)) (mvT hZ (ww hw 1 rfl)) (mvT hZ (ww hw 2 rfl)) (mvT hZ (ww hw 3 rfl)) (by decide) (backOf (W := 0) (rmW115 l Z a0 hw []  aV kV aC aD aB aH T111.heap n0 Zs_111 Sta_com_example_lianzhuang_lianzhuang_tile_Suit_VALUES_111 Arv_aV_111 Exa_aV_111 Fld_aC_letter_111 Fld_aD_letter_111 Fld_aB_letter_111 Fld_aH_letter_111   ) hZ (ww hw 3 rfl) (ww hw 2 rfl) (by decide) (by decide)) (g := (mkF m 27 (Sh7 q1 q2 z54 aB) [(.int 115)])) rfl (by rw [hml]; rfl) (argsL := [(.int (115 : Int32))]) (rest := []) (lenOf pd_28C29Lcom2fexample2flianzhuang2flianzhuang2ftile2fSuit3b rfl) rfl (by show 2 * 0 + _ ≤ _; exact Nat.le_of_eq rfl) (hb hby at_27) (fun _ _ => ⟨rfl, e120, (by decide : 1 + 1 ≤ _), (by decide : 4 + 4 ≤ _)⟩)
            dsimp only [Pt.U, Pt.locs, Pt.cells, Pt.slots] at X121 l121 y121 z121 st121 hQ121
            subst l121 y121 z121
            obtain ⟨rfl, N121q, K121⟩ := hQ121
            have N121 := Fr.app N120 N121q
            have Zs_121 : n0 ≤ T121.heap.size := Nat.le_trans Zs_111 K121.1
            have Sta_com_example_lianzhuang_lianzhuang_tile_Suit_VALUES_121 : Sta Z T121.heap "com/example/lianzhuang/lianzhuang/tile/Suit" "$VALUES" "[Lcom/example/lianzhuang/lianzhuang/tile/Suit;" (.ref aV) := own_staK0 Sta_com_example_lianzhuang_lianzhuang_tile_Suit_VALUES_111 K121
            have Arv_aV_121 : Arv Z T121.heap aV kV (.object "com/example/lianzhuang/lianzhuang/tile/Suit") (4 : Int32) [(.ref aC), (.ref aD), (.ref aB), (.ref aH)] .null := Arv_aV_111.keep K121 nin0
            have Exa_aV_121 : Exa Z T121.heap aV "[Lcom/example/lianzhuang/lianzhuang/tile/Suit;" := Exa_aV_111.keep K121
            have Fld_aC_letter_121 : Fld Z T121.heap aC "com/example/lianzhuang/lianzhuang/tile/Suit" "letter" "C" (.int (109 : Int32)) := Fld_aC_letter_111.keep K121 nin0
            have Fld_aD_letter_121 : Fld Z T121.heap aD "com/example/lianzhuang/lianzhuang/tile/Suit" "letter" "C" (.int (112 : Int32)) := Fld_aD_letter_111.keep K121 nin0
            have Fld_aB_letter_121 : Fld Z T121.heap aB "com/example/lianzhuang/lianzhuang/tile/Suit" "letter" "C" (.int (115 : Int32)) := Fld_aB_letter_111.keep K121 nin0
            have Fld_aH_letter_121 : Fld Z T121.heap aH "com/example/lianzhuang/lianzhuang/tile/Suit" "letter" "C" (.int (122 : Int32)) := Fld_aH_letter_111.keep K121 nin0
            have Sta_com_example_lianzhuang_lianzhuang_tile_Suit_CHARACTERS_121 : Sta Z T121.heap "com/example/lianzhuang/lianzhuang/tile/Suit" "CHARACTERS" "Lcom/example/lianzhuang/lianzhuang/tile/Suit;" (.ref aC) := own_staK0 Sta_com_example_lianzhuang_lianzhuang_tile_Suit_CHARACTERS_111 K121
            have Sta_com_example_lianzhuang_lianzhuang_tile_Suit_DOTS_121 : Sta Z T121.heap "com/example/lianzhuang/lianzhuang/tile/Suit" "DOTS" "Lcom/example/lianzhuang/lianzhuang/tile/Suit;" (.ref aD) := own_staK0 Sta_com_example_lianzhuang_lianzhuang_tile_Suit_DOTS_111 K121
            have Sta_com_example_lianzhuang_lianzhuang_tile_Suit_BAMBOO_121 : Sta Z T121.heap "com/example/lianzhuang/lianzhuang/tile/Suit" "BAMBOO" "Lcom/example/lianzhuang/lianzhuang/tile/Suit;" (.ref aB) := own_staK0 Sta_com_example_lianzhuang_lianzhuang_tile_Suit_BAMBOO_111 K121
            have Sta_com_example_lianzhuang_lianzhuang_tile_Suit_HONOURS_121 : Sta Z T121.heap "com/example/lianzhuang/lianzhuang/tile/Suit" "HONOURS" "Lcom/example/lianzhuang/lianzhuang/tile/Suit;" (.ref aH) := own_staK0 Sta_com_example_lianzhuang_lianzhuang_tile_Suit_HONOURS_111 K121
            have Exa_aC_121 : Exa Z T121.heap aC "com/example/lianzhuang/lianzhuang/tile/Suit" := Exa_aC_111.keep K121
            have Exa_aD_121 : Exa Z T121.heap aD "com/example/lianzhuang/lianzhuang/tile/Suit" := Exa_aD_111.keep K121
            have Exa_aB_121 : Exa Z T121.heap aB "com/example/lianzhuang/lianzhuang/tile/Suit" := Exa_aB_111.keep K121
            have Exa_aH_121 : Exa Z T121.heap aH "com/example/lianzhuang/lianzhuang/tile/Suit" := Exa_aH_111.keep K121
            refine GoW.sg (mkF m 30 (Sh7 q1 q2 z54 aB) [(.ref aB)]) (fun t k => st121 t k) ?_
            refine GoW.sg (mkF m 31 (Sh7 q1 q2 z54 aB) [(.ref aB), (.ref aB)]) (fun t k => XS.aloadN X121.here hx rfl (hb hby at_30) rfl rfl k) ?_
            refine GoW.sg (mkF m 34 (Sh7 q1 q2 z54 aB) []) (fun t k => Jvm.RoadKit.acmp X121 hx rfl (cd := .ne) (x := (.ref aB)) (y := (.ref aB)) rfl rfl (pc0 := 31) (pc' := 34) (same := true) rfl (hb hby at_31) rfl (decide_eq_true rfl) (by decide) (by decide) k) ?_
            refine GoW.sg (mkF m 35 (Sh7 q1 q2 z54 aB) [(.int 1)]) (fun t k => XS.iconst X121.here hx rfl (hb hby at_34) k) ?_
            refine GoW.sg (mkF m 39 (Sh7 q1 q2 z54 aB) [(.int 1)]) (fun t k => XS.goto X121.here hx rfl (pc0 := 35) (pc' := 39) rfl (hb hby at_35) (by decide) (by decide) k) ?_
            refine GoW.retN X121 hx (t := .boolean) Bd.returns (by simp) (hb hby at_39) Bd.notSynchronized ?_ (by decide) (by decide)
            exact ⟨rfl, N121⟩
          · rw [vv]
            show GoW p e below s (ValQ (.int (1 : Int32)) n0) room_1.cells room_1.slots (T112.setTop (mkF m 19 (Sh6 q1 q2 z54) [(.int 3)]))
            obtain ⟨_, _, ⟨T122, L122, k122, n122⟩, -, X122, ⟨Lc122, hQ122, l122, y122, z122⟩, st122⟩ := Jvm.LawKit.callS X112 hx (y := (⟨"com/example/lianzhuang/lianzhuang/tile/SuitWithLetterPinLaw", "pick", "(I)Lcom/example/lianzhuang/lianzhuang/tile/Suit;"⟩ : MethodName)) hown (mvT hZ (ww hw 29 rfl)) (mvT hZ (ww hw 30 rfl)) (mvT hZ (ww hw 27 rfl)) (mvT hZ (ww hw 31 rfl)) (by decide) (backOf (W := 0) (rmK3 l Z a0 hw []  aH T111.heap n0  Sta_com_example_lianzhuang_lianzhuang_tile_Suit_HONOURS_111   ) hZ (ww hw 31 rfl) (ww hw 27 rfl) (by decide) (by decide)) (g := (mkF m 19 (Sh6 q1 q2 z54) [(.int 3)])) rfl (by rw [hml]; rfl) (argsL := [(.int (3 : Int32))]) (rest := []) (lenOf pd_28I29Lcom2fexample2flianzhuang2flianzhuang2ftile2fSuit3b rfl) rfl (by show 2 * 0 + _ ≤ _; exact Nat.le_of_eq rfl) (hb hby at_19) (fun _ _ => ⟨rfl, e112, (by decide : 1 + 0 ≤ _), (by decide : 4 + 0 ≤ _)⟩)
            dsimp only [Pt.U, Pt.locs, Pt.cells, Pt.slots] at X122 l122 y122 z122 st122 hQ122
            subst l122 y122 z122
            obtain ⟨rfl, N122q, e122⟩ := hQ122
            have N122 := Fr.app N112 N122q
            refine GoW.sg (mkF m 22 (Sh6 q1 q2 z54) [(.ref aH)]) (fun t k => st122 t k) ?_
            refine GoW.sg (mkF m 23 (Sh7 q1 q2 z54 aH) []) (fun t k => XS.astoreN X122.here hx rfl (hb hby at_22) rfl rfl (l' := (Sh7 q1 q2 z54 aH)) rfl k) ?_
            refine GoW.sg (mkF m 24 (Sh7 q1 q2 z54 aH) [(.ref aH)]) (fun t k => XS.aloadN X122.here hx rfl (hb hby at_23) rfl rfl k) ?_
            obtain ⟨cq123, kq123, q123a, q123b, q123c⟩ := isOf hZ e122 Exa_aH_111
            obtain ⟨_, _, ⟨T123, L123, k123, n123⟩, -, X123, ⟨Lc123, hQ123, l123, y123, z123⟩, st123⟩ := X122.virtualBack hx (y := (⟨"com/example/lianzhuang/lianzhuang/tile/Suit", "letter", "()C"⟩ : MethodName)) (z := (⟨"com/example/lianzhuang/lianzhuang/tile/Suit", "letter", "()C"⟩ : MethodName)) hown (mvT hZ (ww hw 33 rfl)) (mvT hZ (ww hw 34 rfl)) (notFace_of_selects (args := #[]) (mvT hZ (ww hw 36 rfl))) (mvT hZ (ww hw 36 rfl)) (mvT hZ (ww hw 35 rfl)) (by decide) (backOf (W := 0) (rmL122 l Z a0 hw [] aH  T111.heap n0  Fld_aH_letter_111   ) hZ (ww hw 37 rfl) (ww hw 2 rfl) (by decide) (by decide)) q123a q123c (g := (mkF m 24 (Sh7 q1 q2 z54 aH) [(.ref aH)])) rfl (by rw [hml]; rfl) (Steps.refl _) (argsL := []) (rest := []) (lenOf pd_2829C rfl) rfl (by show 2 * 0 + _ ≤ _; exact Nat.le_of_eq rfl) (hb hby at_24) (fun _ _ => ⟨rfl, e122, (by decide : 1 + 0 ≤ _), (by decide : 4 + 0 ≤ _)⟩)
            dsimp only [Pt.U, Pt.locs, Pt.cells, Pt.slots] at X123 l123 y123 z123 st123 hQ123
            subst l123 y123 z123
            obtain ⟨rfl, N123q, e123⟩ := hQ123
            have N123 := Fr.app N122 N123q
            refine GoW.sg (mkF m 27 (Sh7 q1 q2 z54 aH) [(.int 122)]) (fun t k => st123.trans k) ?_
            obtain ⟨_, _, ⟨T124, L124, k124, n124⟩, -, X124, ⟨Lc124, hQ124, l124, y124, z124⟩, st124⟩ := Jvm.LawKit.callS X123 hx (y := (⟨"com/example/lianzhuang/lianzhuang/tile/Suit", "withLetter", "(C)Lcom/example/lianzhuang/lianzhuang/tile/Suit;"⟩ : MethodName)) hown (mvT hZ (ww hw 0 rfl)) (mvT hZ (ww hw 1 rfl)) (mvT hZ (ww hw 2 rfl)) (mvT hZ (ww hw 3 rfl)) (by decide) (backOf (W := 0) (rmW122 l Z a0 hw []  aV kV aC aD aB aH T111.heap n0 Zs_111 Sta_com_example_lianzhuang_lianzhuang_tile_Suit_VALUES_111 Arv_aV_111 Exa_aV_111 Fld_aC_letter_111 Fld_aD_letter_111 Fld_aB_letter_111 Fld_aH_letter_111   ) hZ (ww hw 3 rfl) (ww hw 2 rfl) (by decide) (by decide)) (g := (mkF m 27 (Sh7 q1 q2 z54 aH) [(.int 122)])) rfl (by rw [hml]; rfl) (argsL := [(.int (122 : Int32))]) (rest := []) (lenOf pd_28C29Lcom2fexample2flianzhuang2flianzhuang2ftile2fSuit3b rfl) rfl (by show 2 * 0 + _ ≤ _; exact Nat.le_of_eq rfl) (hb hby at_27) (fun _ _ => ⟨rfl, e123, (by decide : 1 + 1 ≤ _), (by decide : 4 + 4 ≤ _)⟩)
            dsimp only [Pt.U, Pt.locs, Pt.cells, Pt.slots] at X124 l124 y124 z124 st124 hQ124
            subst l124 y124 z124
            obtain ⟨rfl, N124q, K124⟩ := hQ124
            have N124 := Fr.app N123 N124q
            have Zs_124 : n0 ≤ T124.heap.size := Nat.le_trans Zs_111 K124.1
            have Sta_com_example_lianzhuang_lianzhuang_tile_Suit_VALUES_124 : Sta Z T124.heap "com/example/lianzhuang/lianzhuang/tile/Suit" "$VALUES" "[Lcom/example/lianzhuang/lianzhuang/tile/Suit;" (.ref aV) := own_staK0 Sta_com_example_lianzhuang_lianzhuang_tile_Suit_VALUES_111 K124
            have Arv_aV_124 : Arv Z T124.heap aV kV (.object "com/example/lianzhuang/lianzhuang/tile/Suit") (4 : Int32) [(.ref aC), (.ref aD), (.ref aB), (.ref aH)] .null := Arv_aV_111.keep K124 nin0
            have Exa_aV_124 : Exa Z T124.heap aV "[Lcom/example/lianzhuang/lianzhuang/tile/Suit;" := Exa_aV_111.keep K124
            have Fld_aC_letter_124 : Fld Z T124.heap aC "com/example/lianzhuang/lianzhuang/tile/Suit" "letter" "C" (.int (109 : Int32)) := Fld_aC_letter_111.keep K124 nin0
            have Fld_aD_letter_124 : Fld Z T124.heap aD "com/example/lianzhuang/lianzhuang/tile/Suit" "letter" "C" (.int (112 : Int32)) := Fld_aD_letter_111.keep K124 nin0
            have Fld_aB_letter_124 : Fld Z T124.heap aB "com/example/lianzhuang/lianzhuang/tile/Suit" "letter" "C" (.int (115 : Int32)) := Fld_aB_letter_111.keep K124 nin0
            have Fld_aH_letter_124 : Fld Z T124.heap aH "com/example/lianzhuang/lianzhuang/tile/Suit" "letter" "C" (.int (122 : Int32)) := Fld_aH_letter_111.keep K124 nin0
            have Sta_com_example_lianzhuang_lianzhuang_tile_Suit_CHARACTERS_124 : Sta Z T124.heap "com/example/lianzhuang/lianzhuang/tile/Suit" "CHARACTERS" "Lcom/example/lianzhuang/lianzhuang/tile/Suit;" (.ref aC) := own_staK0 Sta_com_example_lianzhuang_lianzhuang_tile_Suit_CHARACTERS_111 K124
            have Sta_com_example_lianzhuang_lianzhuang_tile_Suit_DOTS_124 : Sta Z T124.heap "com/example/lianzhuang/lianzhuang/tile/Suit" "DOTS" "Lcom/example/lianzhuang/lianzhuang/tile/Suit;" (.ref aD) := own_staK0 Sta_com_example_lianzhuang_lianzhuang_tile_Suit_DOTS_111 K124
            have Sta_com_example_lianzhuang_lianzhuang_tile_Suit_BAMBOO_124 : Sta Z T124.heap "com/example/lianzhuang/lianzhuang/tile/Suit" "BAMBOO" "Lcom/example/lianzhuang/lianzhuang/tile/Suit;" (.ref aB) := own_staK0 Sta_com_example_lianzhuang_lianzhuang_tile_Suit_BAMBOO_111 K124
            have Sta_com_example_lianzhuang_lianzhuang_tile_Suit_HONOURS_124 : Sta Z T124.heap "com/example/lianzhuang/lianzhuang/tile/Suit" "HONOURS" "Lcom/example/lianzhuang/lianzhuang/tile/Suit;" (.ref aH) := own_staK0 Sta_com_example_lianzhuang_lianzhuang_tile_Suit_HONOURS_111 K124
            have Exa_aC_124 : Exa Z T124.heap aC "com/example/lianzhuang/lianzhuang/tile/Suit" := Exa_aC_111.keep K124
            have Exa_aD_124 : Exa Z T124.heap aD "com/example/lianzhuang/lianzhuang/tile/Suit" := Exa_aD_111.keep K124
            have Exa_aB_124 : Exa Z T124.heap aB "com/example/lianzhuang/lianzhuang/tile/Suit" := Exa_aB_111.keep K124
            have Exa_aH_124 : Exa Z T124.heap aH "com/example/lianzhuang/lianzhuang/tile/Suit" := Exa_aH_111.keep K124
            refine GoW.sg (mkF m 30 (Sh7 q1 q2 z54 aH) [(.ref aH)]) (fun t k => st124 t k) ?_
            refine GoW.sg (mkF m 31 (Sh7 q1 q2 z54 aH) [(.ref aH), (.ref aH)]) (fun t k => XS.aloadN X124.here hx rfl (hb hby at_30) rfl rfl k) ?_
            refine GoW.sg (mkF m 34 (Sh7 q1 q2 z54 aH) []) (fun t k => Jvm.RoadKit.acmp X124 hx rfl (cd := .ne) (x := (.ref aH)) (y := (.ref aH)) rfl rfl (pc0 := 31) (pc' := 34) (same := true) rfl (hb hby at_31) rfl (decide_eq_true rfl) (by decide) (by decide) k) ?_
            refine GoW.sg (mkF m 35 (Sh7 q1 q2 z54 aH) [(.int 1)]) (fun t k => XS.iconst X124.here hx rfl (hb hby at_34) k) ?_
            refine GoW.sg (mkF m 39 (Sh7 q1 q2 z54 aH) [(.int 1)]) (fun t k => XS.goto X124.here hx rfl (pc0 := 35) (pc' := 39) rfl (hb hby at_35) (by decide) (by decide) k) ?_
            refine GoW.retN X124 hx (t := .boolean) Bd.returns (by simp) (hb hby at_39) Bd.notSynchronized ?_ (by decide) (by decide)
            exact ⟨rfl, N124⟩

set_option maxRecDepth 65536 in
set_option maxHeartbeats 40000000 in
theorem comes_1 {Post : Tables → Env → Array Value → State → Outcome → State → Prop} (hpost : ∀ tb e args s v u, (limb_1_1.after args s (.returned v) u = true ∧ limb_1_2.after args s (.returned v) u = true ∧ True) → FrameEnd s (.returned v) u (Jvm.fieldLocs frame_1_writes args s ++ Jvm.arrayLocs frame_1_arrays args s ++ Jvm.staticLocs frame_1_statics s) 16 128 → Post tb e args s (.returned v) u) :
    ArmFor flags0 classFile x code maxLocals ret World_1 tables_1 room_1 Calls_1 rest_1 Pre_1 Post := by
  intro l hfl _ _ p e ha hc hk s m args below hf hA hF happ hP
  obtain ⟨hcalls, hrest, hpre⟩ := hP
  obtain ⟨-, -, -, hnamed, -, -, -, hat⟩ := (Spec.applies_iff hf).mp happ
  obtain ⟨hg, hn⟩ := and_e (Cond.before_iff.mp (show (Jvm.Cond.and given_1 narrow_1).before args s = true from hpre))
  obtain ⟨ga0, gb0⟩ := and_e hg
  obtain ⟨ga1, gb1⟩ := and_e gb0
  obtain ⟨w0, w1, rfl⟩ : ∃ w0 w1 : Value, args = #[w0, w1] := by
    have hs : args.size = 2 := by simpa [Cond.value, given_1] using ga0
    obtain ⟨L⟩ := args
    match L, hs with
    | [w0, w1], _ => exact ⟨w0, w1, rfl⟩
  have hw := fun d (hd : d ∈ tables_1) => atoms_spec (ws := Jvm.Cond.code x code maxLocals ret :: tables_1) hat d (List.mem_cons_of_mem _ hd)
  have hfit : Fit s := fun {y c} hc i hi => by
    obtain ⟨ha, rfl⟩ := Array.getElem?_eq_some_iff.mp hc
    have q := List.all_eq_true.mp ((Array.all_eq_true_iff_forall_mem.mp hF) _ (Array.getElem_mem ha)) i (List.mem_range.mpr hi)
    simpa [Array.getElem?_eq_getElem hi] using q
  obtain ⟨i0, ei0⟩ := is_v ga1
  obtain rfl : w0 = (.int i0) := Option.some.inj ei0
  obtain ⟨i1, ei1⟩ := is_v gb1
  obtain rfl : w1 = (.int i1) := Option.some.inj ei1
  obtain ⟨mV1, r0⟩ := and_e hn
  obtain ⟨mV2, r1⟩ := and_e r0
  obtain ⟨mV3, r2⟩ := and_e r1
  obtain ⟨mC1, r3⟩ := and_e r2
  obtain ⟨mC2, r4⟩ := and_e r3
  obtain ⟨mD1, r5⟩ := and_e r4
  obtain ⟨mD2, r6⟩ := and_e r5
  obtain ⟨mB1, r7⟩ := and_e r6
  obtain ⟨mB2, r8⟩ := and_e r7
  obtain ⟨mH1, r9⟩ := and_e r8
  obtain ⟨mH2, r10⟩ := and_e r9
  obtain ⟨mC3, r11⟩ := and_e r10
  obtain ⟨mD3, r12⟩ := and_e r11
  obtain ⟨mB3, mH3⟩ := and_e r12
  obtain ⟨aV, evV⟩ := arr_v mV1
  obtain ⟨aC, evC⟩ := exa_v mC1
  obtain ⟨aD, evD⟩ := exa_v mD1
  obtain ⟨aB, evB⟩ := exa_v mB1
  obtain ⟨aH, evH⟩ := exa_v mH1
  have SV := Sta.start evV (Or.inr ⟨(ww hw 2 rfl), (ww hw 8 rfl)⟩)
  have SC := Sta.start evC (Or.inr ⟨(ww hw 2 rfl), (ww hw 16 rfl)⟩)
  have SD := Sta.start evD (Or.inr ⟨(ww hw 2 rfl), (ww hw 17 rfl)⟩)
  have SB := Sta.start evB (Or.inr ⟨(ww hw 2 rfl), (ww hw 18 rfl)⟩)
  have SH := Sta.start evH (Or.inr ⟨(ww hw 2 rfl), (ww hw 19 rfl)⟩)
  have EV := Exa.start evV mV2
  have EC := Exa.start evC mC1
  have ED := Exa.start evD mD1
  have EB := Exa.start evB mB1
  have EH := Exa.start evH mH1
  obtain ⟨cl, AV⟩ := Arr.start evV mV1
  have FC : Fld s s.heap aC "com/example/lianzhuang/lianzhuang/tile/Suit" "letter" "C" (.int (109 : Int32)) := Fld.start ((fld_at evC).symm.trans (own_eqI mC3))
  have FD : Fld s s.heap aD "com/example/lianzhuang/lianzhuang/tile/Suit" "letter" "C" (.int (112 : Int32)) := Fld.start ((fld_at evD).symm.trans (own_eqI mD3))
  have FB : Fld s s.heap aB "com/example/lianzhuang/lianzhuang/tile/Suit" "letter" "C" (.int (115 : Int32)) := Fld.start ((fld_at evB).symm.trans (own_eqI mB3))
  have FH : Fld s s.heap aH "com/example/lianzhuang/lianzhuang/tile/Suit" "letter" "C" (.int (122 : Int32)) := Fld.start ((fld_at evH).symm.trans (own_eqI mH3))
  have VV := own_arr4 hfit evV AV mV3 evC evD evB evH mC2 mD2 mB2 mH2
  obtain ⟨n, o, h1, h2, h3, v, L, rfl, ⟨hv, N⟩, hq⟩ := rm0 l s _ hw tables_1 i0 i1 aV cl.cls aC aD aB aH s.heap s.heap.size (Nat.le_refl _) SV VV EV FC FD FB FH SC SD SB SH EC ED EB EH p e ha hc hk s m _ below hf ((Spec.applies_iff_loose hf).mp happ).1 ⟨rfl, State.Warmed39.refl s, rfl⟩ trivial
  subst hv
  refine ⟨n, _, h1, h2, h3, hpost _ _ _ _ _ _ ⟨Cond.after_iff.mpr rfl, Cond.after_iff.mpr (eq_i res_at (Term.int_eval (1)) rfl), trivial⟩ ⟨hq.1, hq.2.1, (hq.2.2.sift fun y hy => Or.inr (N y hy)).mono (by decide) (by decide)⟩⟩
theorem main_1_1 : Claimed_1_1 := comes_1 fun _ _ _ _ _ _ h hF => ⟨h.1, hF⟩
theorem main_1_2 : Claimed_1_2 := comes_1 fun _ _ _ _ _ _ h hF => ⟨h.2.1, hF⟩
end Jvm.Pilot.@@N@@
namespace Jvm.Pilot.@@N@@
open Jvm Jvm.ClassFile Sem Op Lib Jvm.Free Jvm.Stand Jvm.Pilot.@@N@@.Jvm.D
/-! MADE BY PROGRAM (witnessworld.py) out of the Statement's table words and the real class files: 13 classes; the members and pool entries that the words name. The judged class is class 1, her method 3. -/
namespace start1
open Jvm.ClassFile
def u (s : String) : CpInfo := .utf8 (stringToUtf16 s)
/-- a pool by its gaps: so many unusable entries, then the entry; so many at the end -/
def gap : Nat → List CpInfo → List CpInfo
  | 0, r => r
  | n + 1, r => .unusable :: gap n r
def poolList (es : List (Nat × CpInfo)) (last : Nat) : List CpInfo := es.foldr (fun e r => gap e.1 (e.2 :: r)) (gap last [])
def pool (es : List (Nat × CpInfo)) (last : Nat) : Array CpInfo := ⟨poolList es last⟩
def fileOf (pool : Array CpInfo) (this : Nat) (attrs : Array Attribute := #[]) (ms : Array MethodInfo := #[]) (fl : Nat := 33) (sup : Nat := 0) (ifs : Array Nat := #[]) (fds : Array FieldInfo := #[]) : ClassFile where
  minorVersion := 0
  majorVersion := 65
  constantPool := pool
  accessFlags := fl
  thisClass := this
  superClass := sup
  interfaces := ifs
  fields := fds
  methods := ms
  attributes := attrs
def plain (name : String) (sup : Option ClassId) : Class where
  name := name
  kind := .ordinary
  loader := none
  accessFlags := 33
  super := sup
  interfaces := #[]
  cf := none
  fields := #[]
  methods := #[]
  instanceTypes := #[]
  staticTypes := #[]
  resolved := #[]
  callSites := []
  init := .initialized
  statics := none
  mirror := none

def pool0 : Array CpInfo := pool [(5, u "<init>"), (0, u "()V"), (1, .class_ 10), (1, u "java/lang/Object"), (85, u "clone"), (0, u "()Ljava/lang/Object;")] 26

def k0m0 : Method := { name := "<init>", desc := "()V", sig := { parameters := [], returnType := none }, accessFlags := 1, code := none }
def k0m1 : Method := { name := "clone", desc := "()Ljava/lang/Object;", sig := { parameters := [], returnType := some (.object "java/lang/Object") }, accessFlags := 260, code := none }
/-- java/lang/Object -/
def k0 : Class := { plain "java/lang/Object" none with
  accessFlags := 33
  interfaces := #[]
  cf := some (fileOf pool0 8 #[] #[{ accessFlags := 1, nameIndex := 5, descriptorIndex := 6, attributes := #[] }, { accessFlags := 260, nameIndex := 96, descriptorIndex := 97, attributes := #[] }] 33 0 #[] #[])
  fields := #[]
  methods := #[k0m0, k0m1]
  instanceTypes := #[]
  staticTypes := #[]
  resolved := Array.replicate 124 none
  statics := none }

def pool1 : Array CpInfo := pool [(2, .class_ 4), (1, u "java/lang/Object"), (0, u "<init>"), (0, u "()V"), (0, .fieldref 8 9), (0, .class_ 10), (0, .nameAndType 11 12), (0, u "com/example/lianzhuang/lianzhuang/tile/Suit"), (0, u "CHARACTERS"), (0, u "Lcom/example/lianzhuang/lianzhuang/tile/Suit;"), (0, .fieldref 8 14), (0, .nameAndType 15 12), (0, u "DOTS"), (0, .fieldref 8 17), (0, .nameAndType 18 12), (0, u "BAMBOO"), (0, .fieldref 8 20), (0, .nameAndType 21 12), (0, u "HONOURS"), (0, .methodref 8 23), (0, .nameAndType 24 25), (0, u "withLetter"), (0, u "(C)Lcom/example/lianzhuang/lianzhuang/tile/Suit;"), (0, .methodref 27 28), (0, .class_ 29), (0, .nameAndType 30 25), (0, u "com/example/lianzhuang/lianzhuang/tile/SuitWithLetterPinLaw"), (0, u "expectedFor"), (0, .methodref 27 32), (0, .nameAndType 33 34), (0, u "pick"), (0, u "(I)Lcom/example/lianzhuang/lianzhuang/tile/Suit;"), (0, .methodref 8 36), (0, .nameAndType 37 38), (0, u "letter"), (0, u "()C"), (3, u "law"), (0, u "(II)Z")] 2

def k1m0 : Method := { name := "<init>", desc := "()V", sig := { parameters := [], returnType := none }, accessFlags := 1, code := none }
def k1c1 : Code := { maxStack := 2, maxLocals := 1, code := method_2_code, exceptionTable := #[], attributes := #[] }
def k1m1 : Method := { name := "expectedFor", desc := "(C)Lcom/example/lianzhuang/lianzhuang/tile/Suit;", sig := { parameters := [.char], returnType := some (.object "com/example/lianzhuang/lianzhuang/tile/Suit") }, accessFlags := 10, code := some k1c1 }
def k1c2 : Code := { maxStack := 2, maxLocals := 1, code := method_3_code, exceptionTable := #[], attributes := #[] }
def k1m2 : Method := { name := "pick", desc := "(I)Lcom/example/lianzhuang/lianzhuang/tile/Suit;", sig := { parameters := [.int], returnType := some (.object "com/example/lianzhuang/lianzhuang/tile/Suit") }, accessFlags := 10, code := some k1c2 }
def k1c3 : Code := { maxStack := 2, maxLocals := 4, code := code, exceptionTable := #[], attributes := #[] }
def k1m3 : Method := { name := "law", desc := "(II)Z", sig := { parameters := [.int, .int], returnType := some .boolean }, accessFlags := 9, code := some k1c3 }
/-- com/example/lianzhuang/lianzhuang/tile/SuitWithLetterPinLaw -/
def k1 : Class := { plain "com/example/lianzhuang/lianzhuang/tile/SuitWithLetterPinLaw" (some 0) with
  accessFlags := 49
  interfaces := #[]
  cf := some (fileOf pool1 27 #[] #[{ accessFlags := 1, nameIndex := 5, descriptorIndex := 6, attributes := #[] }, { accessFlags := 10, nameIndex := 30, descriptorIndex := 25, attributes := #[] }, { accessFlags := 10, nameIndex := 33, descriptorIndex := 34, attributes := #[] }, { accessFlags := 9, nameIndex := 42, descriptorIndex := 43, attributes := #[] }] 49 2 #[] #[])
  fields := #[]
  methods := #[k1m0, k1m1, k1m2, k1m3]
  instanceTypes := #[]
  staticTypes := #[]
  resolved := Array.replicate 46 none
  statics := none }

def pool2 : Array CpInfo := pool [(1, .class_ 2), (0, u "java/lang/constant/Constable"), (0, .class_ 4), (0, u "java/lang/Object")] 6

/-- java/lang/constant/Constable -/
def k2 : Class := { plain "java/lang/constant/Constable" (some 0) with
  accessFlags := 1537
  interfaces := #[]
  cf := some (fileOf pool2 1 #[] #[] 1537 3 #[] #[])
  fields := #[]
  methods := #[]
  instanceTypes := #[]
  staticTypes := #[]
  resolved := Array.replicate 11 none
  statics := none }

def pool3 : Array CpInfo := pool [(1, .class_ 2), (0, u "java/lang/Comparable"), (0, .class_ 4), (0, u "java/lang/Object")] 7

/-- java/lang/Comparable -/
def k3 : Class := { plain "java/lang/Comparable" (some 0) with
  accessFlags := 1537
  interfaces := #[]
  cf := some (fileOf pool3 1 #[] #[] 1537 3 #[] #[])
  fields := #[]
  methods := #[]
  instanceTypes := #[]
  staticTypes := #[]
  resolved := Array.replicate 12 none
  statics := none }

def pool4 : Array CpInfo := pool [(1, .class_ 2), (0, u "java/io/Serializable"), (0, .class_ 4), (0, u "java/lang/Object")] 2

/-- java/io/Serializable -/
def k4 : Class := { plain "java/io/Serializable" (some 0) with
  accessFlags := 1537
  interfaces := #[]
  cf := some (fileOf pool4 1 #[] #[] 1537 3 #[] #[])
  fields := #[]
  methods := #[]
  instanceTypes := #[]
  staticTypes := #[]
  resolved := Array.replicate 7 none
  statics := none }

def pool5 : Array CpInfo := pool [(2, .class_ 4), (1, u "java/lang/Enum"), (0, u "name"), (0, u "Ljava/lang/String;"), (2, u "ordinal"), (0, u "I"), (1, .class_ 14), (1, u "java/lang/Object"), (4, u "hash"), (86, .class_ 108), (1, u "java/lang/Enum$EnumDesc"), (2, .class_ 112), (0, u "java/lang/constant/Constable"), (0, .class_ 114), (0, u "java/lang/Comparable"), (0, .class_ 116), (0, u "java/io/Serializable")] 87

/-- java/lang/Enum -/
def k5 : Class := { plain "java/lang/Enum" (some 0) with
  accessFlags := 1057
  interfaces := #[2, 3, 4]
  cf := some (fileOf pool5 2 #[.nestMembers #[106]] #[] 1057 12 #[111, 113, 115] #[{ accessFlags := 18, nameIndex := 5, descriptorIndex := 6, attributes := #[] }, { accessFlags := 18, nameIndex := 9, descriptorIndex := 10, attributes := #[] }, { accessFlags := 2, nameIndex := 19, descriptorIndex := 10, attributes := #[] }])
  fields := #[{ name := "name", type := (.object "java/lang/String"), accessFlags := 18, slot := 0, constantValue := 0 }, { name := "ordinal", type := .int, accessFlags := 18, slot := 1, constantValue := 0 }, { name := "hash", type := .int, accessFlags := 2, slot := 2, constantValue := 0 }]
  methods := #[]
  instanceTypes := #[(.object "java/lang/String"), .int, .int]
  staticTypes := #[]
  resolved := Array.replicate 204 none
  statics := none }

def pool6 : Array CpInfo := pool [(1, .class_ 2), (0, u "com/example/lianzhuang/lianzhuang/tile/Suit"), (2, u "CHARACTERS"), (0, u "Lcom/example/lianzhuang/lianzhuang/tile/Suit;"), (2, u "DOTS"), (2, u "BAMBOO"), (2, u "HONOURS"), (0, .fieldref 1 17), (0, .nameAndType 18 19), (0, u "$VALUES"), (0, u "[Lcom/example/lianzhuang/lianzhuang/tile/Suit;"), (0, .methodref 21 22), (0, .class_ 19), (0, .nameAndType 23 24), (0, u "clone"), (0, u "()Ljava/lang/Object;"), (1, .class_ 28), (1, u "java/lang/Enum"), (6, .fieldref 1 36), (0, .nameAndType 37 38), (0, u "letter"), (0, u "C"), (2, u "ranks"), (0, u "I"), (0, .methodref 1 44), (0, .nameAndType 45 46), (0, u "values"), (0, u "()[Lcom/example/lianzhuang/lianzhuang/tile/Suit;"), (16, u "()C"), (4, u "withLetter"), (0, u "(C)Lcom/example/lianzhuang/lianzhuang/tile/Suit;")] 5

def k6c0 : Code := { maxStack := 1, maxLocals := 0, code := prog_42_method_1_code, exceptionTable := #[], attributes := #[] }
def k6m0 : Method := { name := "values", desc := "()[Lcom/example/lianzhuang/lianzhuang/tile/Suit;", sig := { parameters := [], returnType := some (.array (.object "com/example/lianzhuang/lianzhuang/tile/Suit")) }, accessFlags := 9, code := some k6c0 }
def k6c1 : Code := { maxStack := 1, maxLocals := 1, code := prog_42_method_4_code, exceptionTable := #[], attributes := #[] }
def k6m1 : Method := { name := "letter", desc := "()C", sig := { parameters := [], returnType := some .char }, accessFlags := 1, code := some k6c1 }
def k6c2 : Code := { maxStack := 2, maxLocals := 5, code := prog_42_method_7_code, exceptionTable := #[], attributes := #[] }
def k6m2 : Method := { name := "withLetter", desc := "(C)Lcom/example/lianzhuang/lianzhuang/tile/Suit;", sig := { parameters := [.char], returnType := some (.object "com/example/lianzhuang/lianzhuang/tile/Suit") }, accessFlags := 9, code := some k6c2 }
/-- com/example/lianzhuang/lianzhuang/tile/Suit -/
def k6 : Class := { plain "com/example/lianzhuang/lianzhuang/tile/Suit" (some 5) with
  accessFlags := 16433
  interfaces := #[]
  cf := some (fileOf pool6 1 #[] #[{ accessFlags := 9, nameIndex := 45, descriptorIndex := 46, attributes := #[] }, { accessFlags := 1, nameIndex := 37, descriptorIndex := 63, attributes := #[] }, { accessFlags := 9, nameIndex := 68, descriptorIndex := 69, attributes := #[] }] 16433 26 #[] #[{ accessFlags := 16409, nameIndex := 5, descriptorIndex := 6, attributes := #[] }, { accessFlags := 16409, nameIndex := 9, descriptorIndex := 6, attributes := #[] }, { accessFlags := 16409, nameIndex := 12, descriptorIndex := 6, attributes := #[] }, { accessFlags := 16409, nameIndex := 15, descriptorIndex := 6, attributes := #[] }, { accessFlags := 18, nameIndex := 37, descriptorIndex := 38, attributes := #[] }, { accessFlags := 18, nameIndex := 41, descriptorIndex := 42, attributes := #[] }, { accessFlags := 4122, nameIndex := 18, descriptorIndex := 19, attributes := #[] }])
  fields := #[{ name := "CHARACTERS", type := (.object "com/example/lianzhuang/lianzhuang/tile/Suit"), accessFlags := 16409, slot := 0, constantValue := 0 }, { name := "DOTS", type := (.object "com/example/lianzhuang/lianzhuang/tile/Suit"), accessFlags := 16409, slot := 1, constantValue := 0 }, { name := "BAMBOO", type := (.object "com/example/lianzhuang/lianzhuang/tile/Suit"), accessFlags := 16409, slot := 2, constantValue := 0 }, { name := "HONOURS", type := (.object "com/example/lianzhuang/lianzhuang/tile/Suit"), accessFlags := 16409, slot := 3, constantValue := 0 }, { name := "letter", type := .char, accessFlags := 18, slot := 3, constantValue := 0 }, { name := "ranks", type := .int, accessFlags := 18, slot := 4, constantValue := 0 }, { name := "$VALUES", type := (.array (.object "com/example/lianzhuang/lianzhuang/tile/Suit")), accessFlags := 4122, slot := 4, constantValue := 0 }]
  methods := #[k6m0, k6m1, k6m2]
  instanceTypes := #[(.object "java/lang/String"), .int, .int, .char, .int]
  staticTypes := #[(.object "com/example/lianzhuang/lianzhuang/tile/Suit"), (.object "com/example/lianzhuang/lianzhuang/tile/Suit"), (.object "com/example/lianzhuang/lianzhuang/tile/Suit"), (.object "com/example/lianzhuang/lianzhuang/tile/Suit"), (.array (.object "com/example/lianzhuang/lianzhuang/tile/Suit"))]
  resolved := Array.replicate 75 none
  statics := some 0 }

def pool7 : Array CpInfo := pool [(1, .class_ 2), (0, u "java/lang/Cloneable"), (0, .class_ 4), (0, u "java/lang/Object")] 2

/-- java/lang/Cloneable -/
def k7 : Class := { plain "java/lang/Cloneable" (some 0) with
  accessFlags := 1537
  interfaces := #[]
  cf := some (fileOf pool7 1 #[] #[] 1537 3 #[] #[])
  fields := #[]
  methods := #[]
  instanceTypes := #[]
  staticTypes := #[]
  resolved := Array.replicate 7 none
  statics := none }

/-- the primitive byte -/
def k8 : Class := { plain "byte" none with kind := .primitive 'B', accessFlags := 0x411 }
/-- [B -/
def k9 : Class := { plain "[B" (some 0) with kind := .array 8 .byte, interfaces := #[7, 4], accessFlags := 1041 }

/-- the primitive int -/
def k10 : Class := { plain "int" none with kind := .primitive 'I', accessFlags := 0x411 }
/-- [I -/
def k11 : Class := { plain "[I" (some 0) with kind := .array 10 .int, interfaces := #[7, 4], accessFlags := 1041 }

/-- [Lcom/example/lianzhuang/lianzhuang/tile/Suit; -/
def k12 : Class := { plain "[Lcom/example/lianzhuang/lianzhuang/tile/Suit;" (some 0) with kind := .array 6 (.object "com/example/lianzhuang/lianzhuang/tile/Suit"), interfaces := #[7, 4], accessFlags := 1041 }

def heap : Heap := #[{ cls := 6, slots := #[.ref 2, .ref 3, .ref 4, .ref 5, .ref 1], vm := .statics 6 },
  { cls := 12, slots := #[.ref 2, .ref 3, .ref 4, .ref 5], vm := .none },
  { cls := 6, slots := #[.null, .int 0, .int 0, .int 109, .int 9], vm := .none },
  { cls := 6, slots := #[.null, .int 1, .int 0, .int 112, .int 9], vm := .none },
  { cls := 6, slots := #[.null, .int 2, .int 0, .int 115, .int 9], vm := .none },
  { cls := 6, slots := #[.null, .int 3, .int 0, .int 122, .int 9], vm := .none }]
def classes : Array Class := #[k0, k1, k2, k3, k4, k5, k6, k7, k8, k9, k10, k11, k12]
def interned : List (Array UInt16 × Addr) := []
def slotsUsed : Nat := 29
def theMethod : MethodId := ⟨1, 3⟩
def args0 : Array Value := #[.int 2, .int 5]
def aboutOver (below : List Frame) : State where
  vm := { classes := classes, interned := interned.toArray }
  heap := heap
  slotsUsed := slotsUsed
  threads := #[{ frames := .invoking theMethod args0 :: below }]
def below0 : List Frame := [.native { method := ⟨0, 0⟩, args := #[] }]
def about1 : State := aboutOver below0
def p0 : Program := .bare "" "" ""
def e0 : Env := launch0.env 0 0 0
theorem w_frames : about1.frames = Frame.invoking theMethod args0 :: below0 := rfl
set_option maxRecDepth 65536 in
theorem w_args : argsFit about1.vm theMethod args0 = true := by decide +kernel
set_option maxRecDepth 65536 in
theorem w_heap : heapFits about1 = true := by decide +kernel
set_option maxRecDepth 65536 in
theorem w_runnable : about1.curStatus? = some .runnable := by decide +kernel
set_option maxRecDepth 65536 in
theorem w_alone : about1.alone = true := by decide +kernel
set_option maxRecDepth 65536 in
theorem w_named : about1.methodNamed? x = some theMethod := by decide +kernel
set_option maxRecDepth 65536 in
theorem w_hears : about1.hears theMethod below0 = true := by decide +kernel
set_option maxRecDepth 65536 in
theorem w_ripe : about1.ripe theMethod args0 below0 = true := by decide +kernel
theorem w_running : about1.status = .running := rfl
set_option maxRecDepth 65536 in
theorem w_room : about1.hasRoom e0.platform room_1 = true :=
  launch0.hasRoom_least _ room_1 (by decide +kernel) (by decide +kernel) (by decide +kernel) (by decide +kernel) (by decide +kernel) (by decide +kernel)
theorem allAtoms_all (ts : List Jvm.Cond) (a : Array Jvm.Value) (st : Jvm.State) : (allAtoms ts).before a st = ts.all (fun c => c.before a st) := by
  induction ts with
  | nil => rfl
  | cons c t ih =>
    show (Jvm.Cond.and c (allAtoms t)).before a st = _
    rw [Jvm.Cond.before_and, ih, List.all_cons]
def words1 : List Jvm.Cond := Jvm.Cond.code x code maxLocals ret :: tables_1
/-- a 'code' word, met by the world's own term for the bytes: nothing is compared byte by byte -/
theorem code_word {y : MethodName} {bytes : ByteArray} {mx : Nat} {rt : Option FieldType} {a : Array Value} {s : State} {m : MethodId} {meth : Method} {c : Code} (h1 : s.methodNamed? y = some m) (h2 : s.vm.method? m = some meth) (h3 : meth.code = some c) (h4 : c.code = bytes)
    (h5 : (c.maxLocals == mx && c.exceptionTable.isEmpty && decide (c.maxStack ≤ mostOperands) && decide (meth.sig.returnType = rt) && !meth.locks && decide (parseMethodDescriptor y.desc = some meth.sig)) = true) : (Jvm.Cond.code y bytes mx rt).before a s = true := by
  simp only [Bool.and_eq_true, beq_iff_eq, Bool.not_eq_true', decide_eq_true_eq] at h5
  obtain ⟨⟨⟨⟨⟨g1, g2⟩, g3⟩, g4⟩, g5⟩, g6⟩ := h5
  simp [Cond.before, Cond.holds, Cond.value, h1, h2, h3, h4, g1, g2, g3, g4, g5, g6]
def isCode : Jvm.Cond → Bool
  | .code _ _ _ _ => true
  | _ => false
theorem all_split {L : List Jvm.Cond} {P : Jvm.Cond → Bool} (h1 : L.all (fun c => isCode c || P c) = true) (h2 : ∀ c ∈ L.filter isCode, P c = true) : L.all P = true := by
  refine List.all_eq_true.mpr fun c hc => ?_
  have h := List.all_eq_true.mp h1 c hc
  rcases Bool.eq_false_or_eq_true (isCode c) with hi | hi
  · exact h2 c (List.mem_filter.mpr ⟨hc, hi⟩)
  · simpa [hi] using h
set_option maxRecDepth 65536 in
theorem w_c0 : (Jvm.Cond.code x code maxLocals ret).before args0 about1 = true := code_word (m := ⟨1, 3⟩) (meth := k1m3) (c := k1c3) (by decide +kernel) rfl rfl rfl (by decide +kernel)
set_option maxRecDepth 65536 in
theorem w_c1 : (Jvm.Cond.code ({ cls := "com/example/lianzhuang/lianzhuang/tile/Suit", name := "withLetter", desc := "(C)Lcom/example/lianzhuang/lianzhuang/tile/Suit;" } : Jvm.MethodName) prog_42_method_7_code (5 : Nat) (Option.some (Jvm.ClassFile.FieldType.object "com/example/lianzhuang/lianzhuang/tile/Suit"))).before args0 about1 = true := code_word (m := ⟨6, 2⟩) (meth := k6m2) (c := k6c2) (by decide +kernel) rfl rfl rfl (by decide +kernel)
set_option maxRecDepth 65536 in
theorem w_c2 : (Jvm.Cond.code ({ cls := "com/example/lianzhuang/lianzhuang/tile/Suit", name := "values", desc := "()[Lcom/example/lianzhuang/lianzhuang/tile/Suit;" } : Jvm.MethodName) prog_42_method_1_code (0 : Nat) (Option.some (Jvm.ClassFile.FieldType.array (Jvm.ClassFile.FieldType.object "com/example/lianzhuang/lianzhuang/tile/Suit")))).before args0 about1 = true := code_word (m := ⟨6, 0⟩) (meth := k6m0) (c := k6c0) (by decide +kernel) rfl rfl rfl (by decide +kernel)
set_option maxRecDepth 65536 in
theorem w_c3 : (Jvm.Cond.code ({ cls := "com/example/lianzhuang/lianzhuang/tile/SuitWithLetterPinLaw", name := "expectedFor", desc := "(C)Lcom/example/lianzhuang/lianzhuang/tile/Suit;" } : Jvm.MethodName) method_2_code (1 : Nat) (Option.some (Jvm.ClassFile.FieldType.object "com/example/lianzhuang/lianzhuang/tile/Suit"))).before args0 about1 = true := code_word (m := ⟨1, 1⟩) (meth := k1m1) (c := k1c1) (by decide +kernel) rfl rfl rfl (by decide +kernel)
set_option maxRecDepth 65536 in
theorem w_c4 : (Jvm.Cond.code ({ cls := "com/example/lianzhuang/lianzhuang/tile/SuitWithLetterPinLaw", name := "pick", desc := "(I)Lcom/example/lianzhuang/lianzhuang/tile/Suit;" } : Jvm.MethodName) method_3_code (1 : Nat) (Option.some (Jvm.ClassFile.FieldType.object "com/example/lianzhuang/lianzhuang/tile/Suit"))).before args0 about1 = true := code_word (m := ⟨1, 2⟩) (meth := k1m2) (c := k1c2) (by decide +kernel) rfl rfl rfl (by decide +kernel)
set_option maxRecDepth 65536 in
theorem w_c5 : (Jvm.Cond.code ({ cls := "com/example/lianzhuang/lianzhuang/tile/Suit", name := "letter", desc := "()C" } : Jvm.MethodName) prog_42_method_4_code (1 : Nat) (Option.some Jvm.ClassFile.FieldType.char)).before args0 about1 = true := code_word (m := ⟨6, 1⟩) (meth := k6m1) (c := k6c1) (by decide +kernel) rfl rfl rfl (by decide +kernel)
def codes1 : List Jvm.Cond := [Jvm.Cond.code x code maxLocals ret, Jvm.Cond.code ({ cls := "com/example/lianzhuang/lianzhuang/tile/Suit", name := "withLetter", desc := "(C)Lcom/example/lianzhuang/lianzhuang/tile/Suit;" } : Jvm.MethodName) prog_42_method_7_code (5 : Nat) (Option.some (Jvm.ClassFile.FieldType.object "com/example/lianzhuang/lianzhuang/tile/Suit")), Jvm.Cond.code ({ cls := "com/example/lianzhuang/lianzhuang/tile/Suit", name := "values", desc := "()[Lcom/example/lianzhuang/lianzhuang/tile/Suit;" } : Jvm.MethodName) prog_42_method_1_code (0 : Nat) (Option.some (Jvm.ClassFile.FieldType.array (Jvm.ClassFile.FieldType.object "com/example/lianzhuang/lianzhuang/tile/Suit"))), Jvm.Cond.code ({ cls := "com/example/lianzhuang/lianzhuang/tile/SuitWithLetterPinLaw", name := "expectedFor", desc := "(C)Lcom/example/lianzhuang/lianzhuang/tile/Suit;" } : Jvm.MethodName) method_2_code (1 : Nat) (Option.some (Jvm.ClassFile.FieldType.object "com/example/lianzhuang/lianzhuang/tile/Suit")), Jvm.Cond.code ({ cls := "com/example/lianzhuang/lianzhuang/tile/SuitWithLetterPinLaw", name := "pick", desc := "(I)Lcom/example/lianzhuang/lianzhuang/tile/Suit;" } : Jvm.MethodName) method_3_code (1 : Nat) (Option.some (Jvm.ClassFile.FieldType.object "com/example/lianzhuang/lianzhuang/tile/Suit")), Jvm.Cond.code ({ cls := "com/example/lianzhuang/lianzhuang/tile/Suit", name := "letter", desc := "()C" } : Jvm.MethodName) prog_42_method_4_code (1 : Nat) (Option.some Jvm.ClassFile.FieldType.char)]
set_option maxRecDepth 65536 in
theorem codes_eq : words1.filter isCode = codes1 := rfl
theorem w_codes : ∀ c ∈ words1.filter isCode, c.before args0 about1 = true := by
  rw [codes_eq]
  intro c hc
  simp only [codes1, List.mem_cons, List.not_mem_nil, or_false] at hc
  rcases hc with rfl | rfl | rfl | rfl | rfl | rfl
  · exact w_c0
  · exact w_c1
  · exact w_c2
  · exact w_c3
  · exact w_c4
  · exact w_c5
set_option maxRecDepth 65536 in
theorem w_t1 : (words1.take 24).all (fun c => isCode c || c.before args0 about1) = true := by decide +kernel
set_option maxRecDepth 65536 in
theorem w_t2 : (words1.drop 24).all (fun c => isCode c || c.before args0 about1) = true := by decide +kernel
theorem w_tables : (allAtoms (Jvm.Cond.code x code maxLocals ret :: tables_1)).before args0 about1 = true := by
  rw [allAtoms_all]
  show words1.all (fun c => c.before args0 about1) = true
  refine all_split ?_ w_codes
  rw [← List.take_append_drop 24 words1, List.all_append, w_t1, w_t2]
  rfl
set_option maxRecDepth 65536 in
theorem w_case : (Jvm.Cond.and given_1 narrow_1).before args0 about1 = true := by decide +kernel
theorem w_applies : (headSpec (Jvm.Cond.code x code maxLocals ret :: tables_1) room_1).applies x e0.platform about1 = true :=
  (Spec.applies_iff w_frames).mpr ⟨w_running, w_runnable, w_alone, w_named, w_hears, w_ripe, w_room, w_tables⟩
theorem atStart : AtStart classFile x code maxLocals ret World_1 tables_1 room_1 Calls_1 rest_1 Pre_1 launch0 p0 e0 about1 theMethod args0 below0 :=
  ⟨lists_1, trivial, launch0.admits_env _ _ _, launch0.least_env, fairChoices_fair.cas, fairChoices_fair.clock, w_frames, w_args, w_heap, w_applies, trivial, trivial, w_case⟩
end start1
theorem witness_1 : WitnessClaimed_1 := ⟨start1.p0, start1.e0, start1.about1, start1.theMethod, start1.args0, start1.below0, start1.atStart⟩
end Jvm.Pilot.@@N@@
