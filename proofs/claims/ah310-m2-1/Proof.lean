import JvmDerived
import JvmDerived.Pilot.@@N@@Statement
import JvmDerived.Pilot.@@N@@Code
set_option linter.unusedVariables false
set_option linter.unusedSimpArgs false
namespace Jvm.RoadKit
open Sem ClassFile Op Lib Jvm.Stand Jvm.Free Jvm.LawKit
def GoW (p : Program) (e : Env) (below : List Frame) (s : State) (Q : Option Value → Heap → List Loc → Prop) (k n : Nat) (u : State) : Prop :=
  ∃ s₂ o, Steps p.tables e below u s₂ ∧ s₂.status = .running ∧ Ended s₂ below o ∧ ∃ v L, o = .returned v ∧ Q v s₂.heap L ∧ FrameEnd s o s₂ L k n
def PureQ (r : Value) (h0 : Heap) (n0 : Nat) (v : Option Value) (h : Heap) (L : List Loc) : Prop := v = some r ∧ Fr n0 L ∧ h = h0
def ValQ (r : Value) (n0 : Nat) (v : Option Value) (h : Heap) (L : List Loc) : Prop := v = some r ∧ Fr n0 L
section New
variable {p : Program} {l : Launch} {e : Env} {R : Room} {s : State} {m : MethodId} {args : Array Value} {below : List Frame} {meth : Method} {c : Code} {T : State} {locs : List Loc} {cells slots : Nat} {Q : Option Value → Heap → List Loc → Prop} {k n : Nat} {u v : State}
theorem GoW.mk (h : GoW p e below s Q k n u) : ∃ s₂ o, Steps p.tables e below u s₂ ∧ s₂.status = .running ∧ Ended s₂ below o ∧ ∃ v L, o = .returned v ∧ Q v s₂.heap L ∧ FrameEnd s o s₂ L k n := h
theorem GoW.st (h : ∀ t, Steps p.tables e below u t → Steps p.tables e below v t) (q : GoW p e below s Q k n u) : GoW p e below s Q k n v := by
  obtain ⟨s₂, o, h1, h2⟩ := q; exact ⟨s₂, o, h _ h1, h2⟩
theorem GoW.sg {T' : State} (g' : JFrame) (h : ∀ t, Steps p.tables e below (T'.setTop g') t → Steps p.tables e below v t) (q : GoW p e below s Q k n (T'.setTop g')) : GoW p e below s Q k n v := GoW.st h q
theorem retI (X : Stand p l e R s m args below meth c T locs cells slots) (hx : p.tables.exec = Jvm.exec) {pc : Nat} {Ls : Array Slot} {z : Int32} {rest : List Value} (hret : meth.sig.returnType = some .int) (hd : decode c.code pc = .ok (.ireturn, 1)) {fs : List Frame}
    (hl : ∀ (f : JFrame) (acts : List Action), f.method = m → f.locked = none → f.entered = [] → (doReturn e (T.setTop f) acts (some (.int z))).1 = T.setFrames fs) : Steps p.tables e below (T.setTop (mkF m pc Ls (.int z :: rest))) (T.setFrames fs) := by
  have hm' : T.vm.method? m = some meth := X.method'
  have hn : narrow .int (.int z) = .int z := rfl
  show Steps p.tables e below (T.setTop { method := m, pc := pc, locals := Ls, stack := _ :: rest, locked := none }) _
  jvm_step X.here [X.here.top, hx, hd, hm', hret, hn]
  first | (intro acts; rw [hl _ acts rfl rfl rfl]) | rw [hl _ _ rfl rfl rfl]
  exact Steps.refl _
theorem GoW.retN (X : Stand p l e R s m args below meth c T locs cells slots) (hx : p.tables.exec = Jvm.exec) {pc : Nat} {Ls : Array Slot} {z : Int32} {t : FieldType} {rest : List Value} (hret : meth.sig.returnType = some t) (ht : t = .boolean ∨ t = .byte ∨ t = .char ∨ t = .short)
    (hd : decode c.code pc = .ok (.ireturn, 1)) (hlk : meth.locks = false) (hq : Q (some (.int (nar t z))) T.heap locs) (hk : cells ≤ k) (hn : slots ≤ n) : GoW p e below s Q k n (T.setTop (mkF m pc Ls (.int z :: rest))) := by
  obtain ⟨fs, hr, hrun, hended, hW, hsame⟩ := X.leave (v := some (.int (nar t z))) (fun h => by rw [hret] at h; cases h) hlk
  exact ⟨_, _, Jvm.RoadKit.retN X hx hret ht hd hr, hrun, hended, _, _, rfl, hq, ⟨_, rfl⟩, hW, hsame.mono hk hn⟩
theorem GoW.retI (X : Stand p l e R s m args below meth c T locs cells slots) (hx : p.tables.exec = Jvm.exec) {pc : Nat} {Ls : Array Slot} {z : Int32} {rest : List Value} (hret : meth.sig.returnType = some .int)
    (hd : decode c.code pc = .ok (.ireturn, 1)) (hlk : meth.locks = false) (hq : Q (some (.int z)) T.heap locs) (hk : cells ≤ k) (hn : slots ≤ n) : GoW p e below s Q k n (T.setTop (mkF m pc Ls (.int z :: rest))) := by
  obtain ⟨fs, hr, hrun, hended, hW, hsame⟩ := X.leave (v := some (.int z)) (fun h => by rw [hret] at h; cases h) hlk
  exact ⟨_, _, Jvm.RoadKit.retI X hx hret hd hr, hrun, hended, _, _, rfl, hq, ⟨_, rfl⟩, hW, hsame.mono hk hn⟩
theorem GoW.retL (X : Stand p l e R s m args below meth c T locs cells slots) (hx : p.tables.exec = Jvm.exec) {pc : Nat} {Ls : Array Slot} {z : Int64} {rest : List Value} (hret : meth.sig.returnType = some .long)
    (hd : decode c.code pc = .ok (.lreturn, 1)) (hlk : meth.locks = false) (hq : Q (some (.long z)) T.heap locs) (hk : cells ≤ k) (hn : slots ≤ n) : GoW p e below s Q k n (T.setTop (mkF m pc Ls (.long z :: rest))) := by
  obtain ⟨fs, hr, hrun, hended, hW, hsame⟩ := X.leave (v := some (.long z)) (fun h => by rw [hret] at h; cases h) hlk
  exact ⟨_, _, retOut X hx hret rfl (Or.inr (Or.inl ⟨rfl, rfl, z, rfl⟩)) hd hr, hrun, hended, _, _, rfl, hq, ⟨_, rfl⟩, hW, hsame.mono hk hn⟩
theorem GoW.retA (X : Stand p l e R s m args below meth c T locs cells slots) (hx : p.tables.exec = Jvm.exec) {pc : Nat} {Ls : Array Slot} {w : Value} {t : FieldType} {rest : List Value} (hret : meth.sig.returnType = some t) (hw : w.isRef = true) (ht : t.isReference = true)
    (hn' : narrow t w = w) (hd : decode c.code pc = .ok (.areturn, 1)) (hlk : meth.locks = false) (hq : Q (some w) T.heap locs) (hk : cells ≤ k) (hn : slots ≤ n) : GoW p e below s Q k n (T.setTop (mkF m pc Ls (w :: rest))) := by
  obtain ⟨fs, hr, hrun, hended, hW, hsame⟩ := X.leave (v := some w) (fun h => by rw [hret] at h; cases h) hlk
  exact ⟨_, _, retOut X hx hret hn' (Or.inr (Or.inr (Or.inr (Or.inr ⟨rfl, ht, hw⟩)))) hd hr, hrun, hended, _, _, rfl, hq, ⟨_, rfl⟩, hW, hsame.mono hk hn⟩
theorem GoW.retV (X : Stand p l e R s m args below meth c T locs cells slots) (hx : p.tables.exec = Jvm.exec) {pc : Nat} {Ls : Array Slot} (hret : meth.sig.returnType = none)
    (hd : decode c.code pc = .ok (.return_, 1)) (hlk : meth.locks = false) (hq : Q none T.heap locs) (hk : cells ≤ k) (hn : slots ≤ n) : GoW p e below s Q k n (T.setTop (mkF m pc Ls [])) := by
  obtain ⟨fs, hr, hrun, hended, hW, hsame⟩ := X.leave (v := none) (fun _ => rfl) hlk
  exact ⟨_, _, X.returnOut hx hret hd hr, hrun, hended, _, _, rfl, hq, ⟨_, rfl⟩, hW, hsame.mono hk hn⟩
theorem own_eqI {args : Array Value} {first s : State} {o : Option Outcome} {idx : List Nat} {t : Term} {i : Int32} (h : (Jvm.Cond.eq t (.int i)).value args first o s idx = some true) : t.eval args first o idx s = some (.int i) := by
  obtain ⟨x, y, hx, hy, k1, k2⟩ := cmp_v (Or.inl h)
  rw [Term.int_eval] at hy
  cases hy
  obtain ⟨z, rfl⟩ := k2
  have q := gotT (Cond.eq_ints hx (Term.int_eval i)) h
  rw [hx, q]
theorem own_ne {args : Array Value} {first s : State} {o : Option Outcome} {idx : List Nat} {t u : Term} {C n d : String} {i j : Int32} {a b : Addr} (h1 : (Jvm.Cond.eq (.field t C n d) (.int i)).value args first o s idx = some true) (h2 : (Jvm.Cond.eq (.field u C n d) (.int j)).value args first o s idx = some true)
    (ha : t.eval args first o idx s = some (.ref a)) (hb : u.eval args first o idx s = some (.ref b)) (hij : i ≠ j) : a ≠ b := fun e => by
  subst e
  have q1 := own_eqI h1
  have q2 := own_eqI h2
  rw [fld_at ha] at q1
  rw [fld_at hb, q1] at q2
  exact hij (by cases q2; rfl)
theorem own_staK0 {Z : State} {h h' : Heap} {C n d : String} {v : Value} (F : Sta Z h C n d v) (K : Keep h h' []) : Sta Z h' C n d v := by
  obtain ⟨cf, i, k, f, st, cell, h1, h2, h3, h4, h5, r⟩ := F; exact ⟨cf, i, k, f, st, cell, h1, h2, h3, h4, K.2.1 _ _ h5 nin0, r⟩
theorem own_staK1 {Z : State} {h h' : Heap} {C n d K0 : String} {v : Value} {a : Addr} (F : Sta Z h C n d v) (K : Keep h h' [a]) (E : Exa Z h a K0) : Sta Z h' C n d v := by
  obtain ⟨cf, i, k, f, st, cell, h1, h2, h3, h4, h5, h6, r⟩ := F
  refine ⟨cf, i, k, f, st, cell, h1, h2, h3, h4, K.2.1 _ _ h5 (ninS (fun q => ?_) nin0), h6, r⟩
  subst q
  obtain ⟨cell2, k2, g1, -, -, g2, -⟩ := E
  cases h5.symm.trans g1
  rw [h6] at g2; cases g2
theorem GoW.retD (X : Stand p l e R s m args below meth c T locs cells slots) (hx : p.tables.exec = Jvm.exec) {pc : Nat} {Ls : Array Slot} {z : UInt64} {rest : List Value} (hret : meth.sig.returnType = some .double)
    (hd : decode c.code pc = .ok (.dreturn, 1)) (hlk : meth.locks = false) (hq : Q (some (.double z)) T.heap locs) (hk : cells ≤ k) (hn : slots ≤ n) : GoW p e below s Q k n (T.setTop (mkF m pc Ls (.double z :: rest))) := by
  obtain ⟨fs, hr, hrun, hended, hW, hsame⟩ := X.leave (v := some (.double z)) (fun h => by rw [hret] at h; cases h) hlk
  exact ⟨_, _, retOut X hx hret rfl (Or.inr (Or.inr (Or.inl ⟨rfl, rfl, z, rfl⟩))) hd hr, hrun, hended, _, _, rfl, hq, ⟨_, rfl⟩, hW, hsame.mono hk hn⟩
theorem own_pop2L {tb : Tables} [Ours tb] {e : Env} {below : List Frame} {T target : State} {m : MethodId} {c : Code} {g : JFrame} (h : At T m c below) (hx : tb.exec = Jvm.exec) (hg : g.method = m) {x : Int64} {rest : List Value} (hd : decode c.code g.pc = .ok (.pop2, 1)) (hs : g.stack = .long x :: rest)
    (hr : Steps tb e below (T.setTop { g with pc := g.pc + 1, stack := rest }) target) : Steps tb e below (T.setTop g) target := by
  subst hg
  jvm_step h [h.top, hx, hd, hs, Value.category]
  exact hr
end New
end Jvm.RoadKit
namespace Jvm.Pilot.@@N@@
open Jvm Jvm.ClassFile Sem Op Lib Jvm.Free Jvm.Stand Jvm.LawKit Jvm.RoadKit Bundle Jvm.Pilot.@@N@@.Jvm.D
theorem ww {Z : State} {a0 : Array Value} (hw : ∀ d ∈ tables_1, d.before a0 Z = true) (i : Nat) {d : Jvm.Cond} (h : tables_1[i]? = some d) : d.before a0 Z = true := hw _ (List.mem_of_getElem? h)
theorem pn_com_example_lianzhuang_lianzhuang_tile_Suit : plainName "com/example/lianzhuang/lianzhuang/tile/Suit" = true := by first | (simp [plainName, overriddenIn]; done) | decide +kernel
theorem d1_0 : decode prog_42_method_6_code 0 = .ok (.aload_n 0, 1) := by decide +kernel
theorem d1_1 : decode prog_42_method_6_code 1 = .ok (.getstatic 13, 3) := by decide +kernel
theorem d1_4 : decode prog_42_method_6_code 4 = .ok (.if_acmp .eq 7, 3) := by decide +kernel
theorem d1_11 : decode prog_42_method_6_code 11 = .ok (.iconst 0, 1) := by decide +kernel
theorem d1_12 : decode prog_42_method_6_code 12 = .ok (.ireturn, 1) := by decide +kernel
theorem d1_7 : decode prog_42_method_6_code 7 = .ok (.iconst 1, 1) := by decide +kernel
theorem d1_8 : decode prog_42_method_6_code 8 = .ok (.goto 4, 3) := by decide +kernel
theorem pn_com_example_lianzhuang_lianzhuang_tile_SuitMakesRunsPinLaw : plainName "com/example/lianzhuang/lianzhuang/tile/SuitMakesRunsPinLaw" = true := by first | (simp [plainName, overriddenIn]; done) | decide +kernel
abbrev K0 (p0 : Int32) : Array Slot := #[.val (.int p0), .unset, .unset, .unset]
abbrev K1 (p0 : Int32) (p1 : Int32) : Array Slot := #[.val (.int p0), .val (.int p1), .unset, .unset]
abbrev K2 (p0 : Int32) (p1 : Int32) (p2 : Addr) : Array Slot := #[.val (.int p0), .val (.int p1), .val (.ref p2), .unset]
abbrev K3 (p0 : Int32) (p1 : Int32) (p2 : Addr) (p3 : Int32) : Array Slot := #[.val (.int p0), .val (.int p1), .val (.ref p2), .val (.int p3)]
theorem pd_2829Z : parseMethodDescriptor "()Z" = some ⟨[], some .boolean⟩ := by decide +kernel
def QH (Z : State) (a1 : Addr) (h0 : Heap) (n0 : Nat) (v : Option Value) (h : Heap) (L : List Loc) : Prop := v = some (.int (0 : Int32)) ∧ Fr n0 L ∧ (h = h0)
theorem ef1_rmH (m : MethodId) (a1 : Addr) : entryFrame m #[(.ref a1)] 1 = (mkF m 0 #[.val (.ref a1)] []) := by first | (simp [entryFrame, mkF, argsToLocals, Value.category, maxLocals]; done) | rfl
set_option maxRecDepth 65536 in
set_option maxHeartbeats 40000000 in
theorem rmH (l : Launch) (Z : State) (a0 : Array Value) (hw : ∀ d ∈ tables_1, d.before a0 Z = true) (ws : List Jvm.Cond) (a1 : Addr)  (h0 : Heap) (n0 : Nat) (P0 : Sta Z h0 "com/example/lianzhuang/lianzhuang/tile/Suit" "HONOURS" "Lcom/example/lianzhuang/lianzhuang/tile/Suit;" (.ref a1))    :
    MetFree l (⟨"com/example/lianzhuang/lianzhuang/tile/Suit", "makesRuns", "()Z"⟩ : MethodName) (head1 (Jvm.Cond.code (⟨"com/example/lianzhuang/lianzhuang/tile/Suit", "makesRuns", "()Z"⟩ : MethodName) prog_42_method_6_code 1 (some .boolean) :: ws) ({ frames := 0, cells := 0, slots := 0, locals := 0 } : Room)) (fun a U => a = #[(.ref a1)] ∧ Z.Warmed39 U.vm ∧ U.heap = h0) (fun _ _ _ _ _ => True) (fun _ U o U' => ∃ v L, o = .returned v ∧ (QH Z a1 h0 n0) v U'.heap L ∧ FrameEnd U o U' L 0 0) := by
  refine MetFree.of_bodySF (plainFor_of_name pn_com_example_lianzhuang_lianzhuang_tile_Suit) hisR ?_
  intro p e s m args below meth c s₁ Bd hml0 hP hK
  obtain ⟨rfl, hZ, hh⟩ := hP
  have hx := Bd.exec
  have hby := Bd.bytes
  have hml : c.maxLocals = 1 := hml0
  have hown : s.vm.findClass "com/example/lianzhuang/lianzhuang/tile/Suit" = some m.cls := findClass_of_methodNamed Bd.named
  have hnm := (name_of_methodNamed Bd.named Bd.method).1
  have X0 : Stand p l e ({ frames := 0, cells := 0, slots := 0, locals := 0 } : Room) s m #[(.ref a1)] below meth c s₁ [] 0 0 := Stand.of_body Bd
  have e0 : s₁.heap = h0 := by rw [← hh, Bd.state]; rfl
  have N0 := Fr.nil n0
  refine GoW.mk ?_
  refine GoW.st (fun t k => castTop (ef1_rmH m a1) k) ?_
  show GoW p e below s (QH Z a1 h0 n0) 0 0 (s₁.setTop (mkF m 0 #[.val (.ref a1)] []))
  refine GoW.sg (mkF m 1 #[.val (.ref a1)] [(.ref a1)]) (fun t k => XS.aloadN X0.here hx rfl (hb hby d1_0) rfl rfl k) ?_
  obtain ⟨T1, X1, e1, st1⟩ := getS (host := "") X0 hx hZ hown (ww hw 8 rfl) Via.refl e0 P0 (g := (mkF m 1 #[.val (.ref a1)] [(.ref a1)])) rfl (hb hby d1_1)
  refine GoW.sg (mkF m 4 #[.val (.ref a1)] [(.ref a1), (.ref a1)]) (fun t k => st1 t k) ?_
  refine GoW.sg (mkF m 11 #[.val (.ref a1)] []) (fun t k => Jvm.RoadKit.acmp X1 hx rfl (cd := .eq) (x := (.ref a1)) (y := (.ref a1)) rfl rfl (pc0 := 4) (pc' := 11) (same := true) rfl (hb hby d1_4) rfl (decide_eq_true rfl) (by decide) (by decide) k) ?_
  refine GoW.sg (mkF m 12 #[.val (.ref a1)] [(.int 0)]) (fun t k => XS.iconst X1.here hx rfl (hb hby d1_11) k) ?_
  refine GoW.retN X1 hx (t := .boolean) Bd.returns (by simp) (hb hby d1_12) Bd.notSynchronized ?_ (by decide) (by decide)
  rw [e1]
  exact ⟨rfl, N0, rfl⟩
def QN (Z : State) (a1 : Addr) (a2 : Addr) (h0 : Heap) (n0 : Nat) (v : Option Value) (h : Heap) (L : List Loc) : Prop := v = some (.int (1 : Int32)) ∧ Fr n0 L ∧ (h = h0)
theorem ef1_rmN (m : MethodId) (a1 : Addr) : entryFrame m #[(.ref a1)] 1 = (mkF m 0 #[.val (.ref a1)] []) := by first | (simp [entryFrame, mkF, argsToLocals, Value.category, maxLocals]; done) | rfl
set_option maxRecDepth 65536 in
set_option maxHeartbeats 40000000 in
theorem rmN (l : Launch) (Z : State) (a0 : Array Value) (hw : ∀ d ∈ tables_1, d.before a0 Z = true) (ws : List Jvm.Cond) (a1 : Addr) (a2 : Addr) (h0 : Heap) (n0 : Nat) (P0 : Sta Z h0 "com/example/lianzhuang/lianzhuang/tile/Suit" "HONOURS" "Lcom/example/lianzhuang/lianzhuang/tile/Suit;" (.ref a2))  (ne_a1_a2 : a1 ≠ a2)  :
    MetFree l (⟨"com/example/lianzhuang/lianzhuang/tile/Suit", "makesRuns", "()Z"⟩ : MethodName) (head1 (Jvm.Cond.code (⟨"com/example/lianzhuang/lianzhuang/tile/Suit", "makesRuns", "()Z"⟩ : MethodName) prog_42_method_6_code 1 (some .boolean) :: ws) ({ frames := 0, cells := 0, slots := 0, locals := 0 } : Room)) (fun a U => a = #[(.ref a1)] ∧ Z.Warmed39 U.vm ∧ U.heap = h0) (fun _ _ _ _ _ => True) (fun _ U o U' => ∃ v L, o = .returned v ∧ (QN Z a1 a2 h0 n0) v U'.heap L ∧ FrameEnd U o U' L 0 0) := by
  refine MetFree.of_bodySF (plainFor_of_name pn_com_example_lianzhuang_lianzhuang_tile_Suit) hisR ?_
  intro p e s m args below meth c s₁ Bd hml0 hP hK
  obtain ⟨rfl, hZ, hh⟩ := hP
  have hx := Bd.exec
  have hby := Bd.bytes
  have hml : c.maxLocals = 1 := hml0
  have hown : s.vm.findClass "com/example/lianzhuang/lianzhuang/tile/Suit" = some m.cls := findClass_of_methodNamed Bd.named
  have hnm := (name_of_methodNamed Bd.named Bd.method).1
  have X0 : Stand p l e ({ frames := 0, cells := 0, slots := 0, locals := 0 } : Room) s m #[(.ref a1)] below meth c s₁ [] 0 0 := Stand.of_body Bd
  have e0 : s₁.heap = h0 := by rw [← hh, Bd.state]; rfl
  have N0 := Fr.nil n0
  refine GoW.mk ?_
  refine GoW.st (fun t k => castTop (ef1_rmN m a1) k) ?_
  show GoW p e below s (QN Z a1 a2 h0 n0) 0 0 (s₁.setTop (mkF m 0 #[.val (.ref a1)] []))
  refine GoW.sg (mkF m 1 #[.val (.ref a1)] [(.ref a1)]) (fun t k => XS.aloadN X0.here hx rfl (hb hby d1_0) rfl rfl k) ?_
  obtain ⟨T2, X2, e2, st2⟩ := getS (host := "") X0 hx hZ hown (ww hw 8 rfl) Via.refl e0 P0 (g := (mkF m 1 #[.val (.ref a1)] [(.ref a1)])) rfl (hb hby d1_1)
  refine GoW.sg (mkF m 4 #[.val (.ref a1)] [(.ref a2), (.ref a1)]) (fun t k => st2 t k) ?_
  refine GoW.sg (mkF m 7 #[.val (.ref a1)] []) (fun t k => Jvm.RoadKit.acmp X2 hx rfl (cd := .eq) (x := (.ref a1)) (y := (.ref a2)) rfl rfl (pc0 := 4) (pc' := 7) (same := false) rfl (hb hby d1_4) rfl (decide_eq_false fun q => ne_a1_a2 (Value.ref.inj q)) (by decide) (by decide) k) ?_
  refine GoW.sg (mkF m 8 #[.val (.ref a1)] [(.int 1)]) (fun t k => XS.iconst X2.here hx rfl (hb hby d1_7) k) ?_
  refine GoW.sg (mkF m 12 #[.val (.ref a1)] [(.int 1)]) (fun t k => XS.goto X2.here hx rfl (pc0 := 8) (pc' := 12) rfl (hb hby d1_8) (by decide) (by decide) k) ?_
  refine GoW.retN X2 hx (t := .boolean) Bd.returns (by simp) (hb hby d1_12) Bd.notSynchronized ?_ (by decide) (by decide)
  rw [e2]
  exact ⟨rfl, N0, rfl⟩
def F0_5 (q1 : Int32) (z3 : Int32) (b30 : Int32) : Int32 := (if (0 : Int32) = b30 then (1 : Int32) else (0 : Int32))
def F0_4 (q1 : Int32) (z3 : Int32) (b23 : Int32) : Int32 := (if (1 : Int32) = b23 then (1 : Int32) else (0 : Int32))
def F0_3 (q1 : Int32) (z3 : Int32) (b15 : Int32) : Int32 := (if (1 : Int32) = b15 then (1 : Int32) else (0 : Int32))
def F0_2 (q1 : Int32) (z3 : Int32) (b7 : Int32) : Int32 := (if (1 : Int32) = b7 then (1 : Int32) else (0 : Int32))
def F0_1 (q1 : Int32) (z3 : Int32) : Int32 := (if z3 = (0 : Int32) then (F0_2 q1 z3 (if z3 = (3 : Int32) then (0 : Int32) else (1 : Int32))) else (if z3 = (1 : Int32) then (F0_3 q1 z3 (if z3 = (3 : Int32) then (0 : Int32) else (1 : Int32))) else (if z3 = (2 : Int32) then (F0_4 q1 z3 (if z3 = (3 : Int32) then (0 : Int32) else (1 : Int32))) else (F0_5 q1 z3 (if z3 = (3 : Int32) then (0 : Int32) else (1 : Int32))))))
def F0 (q1 : Int32) : Int32 := (F0_1 q1 (q1 &&& (3 : Int32)))
theorem ef0_rm0 (m : MethodId) (q1 : Int32) : entryFrame m #[(.int q1)] maxLocals = (mkF m 0 #[.val (.int q1), .unset, .unset, .unset] []) := by first | (simp [entryFrame, mkF, argsToLocals, Value.category, maxLocals]; done) | rfl
set_option maxRecDepth 65536 in
set_option maxHeartbeats 40000000 in
theorem rm0 (l : Launch) (Z : State) (a0 : Array Value) (hw : ∀ d ∈ tables_1, d.before a0 Z = true) (ws : List Jvm.Cond) (q1 : Int32) (aC : Addr) (aD : Addr) (aB : Addr) (aH : Addr) (h0 : Heap) (n0 : Nat) (Z0 : n0 ≤ h0.size) (P0 : Sta Z h0 "com/example/lianzhuang/lianzhuang/tile/Suit" "CHARACTERS" "Lcom/example/lianzhuang/lianzhuang/tile/Suit;" (.ref aC)) (P1 : Sta Z h0 "com/example/lianzhuang/lianzhuang/tile/Suit" "DOTS" "Lcom/example/lianzhuang/lianzhuang/tile/Suit;" (.ref aD)) (P2 : Sta Z h0 "com/example/lianzhuang/lianzhuang/tile/Suit" "BAMBOO" "Lcom/example/lianzhuang/lianzhuang/tile/Suit;" (.ref aB)) (P3 : Sta Z h0 "com/example/lianzhuang/lianzhuang/tile/Suit" "HONOURS" "Lcom/example/lianzhuang/lianzhuang/tile/Suit;" (.ref aH)) (P4 : Exa Z h0 aC "com/example/lianzhuang/lianzhuang/tile/Suit") (P5 : Exa Z h0 aD "com/example/lianzhuang/lianzhuang/tile/Suit") (P6 : Exa Z h0 aB "com/example/lianzhuang/lianzhuang/tile/Suit") (P7 : Exa Z h0 aH "com/example/lianzhuang/lianzhuang/tile/Suit") (ne_aC_aH : aC ≠ aH) (ne_aD_aH : aD ≠ aH) (ne_aB_aH : aB ≠ aH)  :
    MetFree l x (head1 (Jvm.Cond.code x code maxLocals ret :: ws) room_1) (fun a U => a = #[(.int q1)] ∧ Z.Warmed39 U.vm ∧ U.heap = h0) (fun _ _ _ _ _ => True) (fun _ U o U' => ∃ v L, o = .returned v ∧ (ValQ (.int (F0 q1)) n0) v U'.heap L ∧ FrameEnd U o U' L room_1.cells room_1.slots) := by
  refine MetFree.of_bodySF (plainFor_of_name pn_com_example_lianzhuang_lianzhuang_tile_SuitMakesRunsPinLaw) hisR ?_
  intro p e s m args below meth c s₁ Bd hml0 hP hK
  obtain ⟨rfl, hZ, hh⟩ := hP
  have hx := Bd.exec
  have hby := Bd.bytes
  have hml : c.maxLocals = 4 := hml0
  have hown : s.vm.findClass "com/example/lianzhuang/lianzhuang/tile/SuitMakesRunsPinLaw" = some m.cls := findClass_of_methodNamed Bd.named
  have hnm := (name_of_methodNamed Bd.named Bd.method).1
  have X0 : Stand p l e room_1 s m #[(.int q1)] below meth c s₁ [] 0 0 := Stand.of_body Bd
  have e0 : s₁.heap = h0 := by rw [← hh, Bd.state]; rfl
  have N0 := Fr.nil n0
  refine GoW.mk ?_
  refine GoW.st (fun t k => castTop (ef0_rm0 m q1) k) ?_
  show GoW p e below s (ValQ (.int (F0 q1)) n0) room_1.cells room_1.slots (s₁.setTop (mkF m 0 (K0 q1) []))
  refine GoW.sg (mkF m 1 (K0 q1) [(.int q1)]) (fun t k => XS.iloadN X0.here hx rfl (hb hby at_0) rfl k) ?_
  refine GoW.sg (mkF m 2 (K0 q1) [(.int 3), (.int q1)]) (fun t k => XS.iconst X0.here hx rfl (hb hby at_1) k) ?_
  refine GoW.sg (mkF m 3 (K0 q1) [(.int (q1 &&& (3 : Int32)))]) (fun t k => XS.iand X0.here hx rfl (hb hby at_2) rfl k) ?_
  refine GoW.sg (mkF m 4 (K1 q1 (q1 &&& (3 : Int32))) []) (fun t k => XS.istoreN X0.here hx rfl (hb hby at_3) rfl (l' := (K1 q1 (q1 &&& (3 : Int32)))) rfl k) ?_
  obtain ⟨z3, hz3⟩ : ∃ z : Int32, z = (q1 &&& (3 : Int32)) := ⟨_, rfl⟩
  rw [← hz3]
  have hFz3 : (F0 q1) = (F0_1 q1 z3) := by unfold F0; rw [hz3]
  show GoW p e below s (ValQ (.int (F0 q1)) n0) room_1.cells room_1.slots (s₁.setTop (mkF m 4 (K1 q1 z3) []))
  refine GoW.sg (mkF m 5 (K1 q1 z3) [(.int z3)]) (fun t k => XS.iloadN X0.here hx rfl (hb hby at_4) rfl k) ?_
  by_cases c4 : z3 = (0 : Int32)
  · refine GoW.sg (mkF m 8 (K1 q1 z3) []) (fun t k => XS.ifNo X0.here hx rfl (hb hby at_5) rfl ((if0 _ _).trans (teq c4).2) k) ?_
    obtain ⟨T5, X5, e5, st5⟩ := getS (host := "") X0 hx hZ hown (ww hw 0 rfl) Via.refl e0 P0 (g := (mkF m 8 (K1 q1 z3) [])) rfl (hb hby at_8)
    refine GoW.sg (mkF m 11 (K1 q1 z3) [(.ref aC)]) (fun t k => st5 t k) ?_
    refine GoW.sg (mkF m 12 (K2 q1 z3 aC) []) (fun t k => XS.astoreN X5.here hx rfl (hb hby at_11) rfl rfl (l' := (K2 q1 z3 aC)) rfl k) ?_
    refine GoW.sg (mkF m 43 (K2 q1 z3 aC) []) (fun t k => XS.goto X5.here hx rfl (pc0 := 12) (pc' := 43) rfl (hb hby at_12) (by decide) (by decide) k) ?_
    refine GoW.sg (mkF m 44 (K2 q1 z3 aC) [(.int z3)]) (fun t k => XS.iloadN X5.here hx rfl (hb hby at_43) rfl k) ?_
    refine GoW.sg (mkF m 45 (K2 q1 z3 aC) [(.int 3), (.int z3)]) (fun t k => XS.iconst X5.here hx rfl (hb hby at_44) k) ?_
    have J53_8 : ∀ b7 : Int32, b7 = (if z3 = (3 : Int32) then (0 : Int32) else (1 : Int32)) → GoW p e below s (ValQ (.int (F0 q1)) n0) room_1.cells room_1.slots (T5.setTop (mkF m 53 (K2 q1 z3 aC) [(.int b7)])) := by
      intro b7 hb7
      have hFb7 : (F0_1 q1 z3) = (F0_2 q1 z3 b7) := by unfold F0_1; rw [if_pos c4]; rw [hb7]
      refine GoW.sg (mkF m 54 (K3 q1 z3 aC b7) []) (fun t k => XS.istoreN X5.here hx rfl (hb hby at_53) rfl (l' := (K3 q1 z3 aC b7)) rfl k) ?_
      refine GoW.sg (mkF m 55 (K3 q1 z3 aC b7) [(.ref aC)]) (fun t k => XS.aloadN X5.here hx rfl (hb hby at_54) rfl rfl k) ?_
      obtain ⟨cq10, kq10, q10a, q10b, q10c⟩ := isOf hZ e5 P4
      obtain ⟨_, _, ⟨T10, L10, k10, n10⟩, -, X10, ⟨Lc10, hQ10, l10, y10, z10⟩, st10⟩ := X5.virtualBack hx (y := (⟨"com/example/lianzhuang/lianzhuang/tile/Suit", "makesRuns", "()Z"⟩ : MethodName)) (z := (⟨"com/example/lianzhuang/lianzhuang/tile/Suit", "makesRuns", "()Z"⟩ : MethodName)) hown (mvT hZ (ww hw 3 rfl)) (mvT hZ (ww hw 4 rfl)) (notFace_of_selects (args := #[]) (mvT hZ (ww hw 6 rfl))) (mvT hZ (ww hw 6 rfl)) (mvT hZ (ww hw 5 rfl)) (by decide) (backOf (W := 0) (rmN l Z a0 hw [] aC aH h0 n0  P3  ne_aC_aH ) hZ (ww hw 7 rfl) (ww hw 1 rfl) (by decide) (by decide)) q10a q10c (g := (mkF m 55 (K3 q1 z3 aC b7) [(.ref aC)])) rfl (by rw [hml]; rfl) (Steps.refl _) (argsL := []) (rest := []) (lenOf pd_2829Z rfl) rfl (by show 2 * 0 + _ ≤ _; exact Nat.le_of_eq rfl) (hb hby at_55) (fun _ _ => ⟨rfl, e5, (by decide : 0 + 0 ≤ _), (by decide : 0 + 0 ≤ _)⟩)
      dsimp only [Pt.U, Pt.locs, Pt.cells, Pt.slots] at X10 l10 y10 z10 st10 hQ10
      subst l10 y10 z10
      obtain ⟨rfl, N10q, e10⟩ := hQ10
      have N10 := Fr.app N0 N10q
      refine GoW.sg (mkF m 58 (K3 q1 z3 aC b7) [(.int 1)]) (fun t k => st10.trans k) ?_
      refine GoW.sg (mkF m 59 (K3 q1 z3 aC b7) [(.int b7), (.int 1)]) (fun t k => XS.iloadN X10.here hx rfl (hb hby at_58) rfl k) ?_
      by_cases c11 : (1 : Int32) = b7
      · refine GoW.sg (mkF m 62 (K3 q1 z3 aC b7) []) (fun t k => XS.icmpNo X10.here hx rfl (hb hby at_59) rfl (teq c11).2 k) ?_
        refine GoW.sg (mkF m 63 (K3 q1 z3 aC b7) [(.int 1)]) (fun t k => XS.iconst X10.here hx rfl (hb hby at_62) k) ?_
        refine GoW.sg (mkF m 67 (K3 q1 z3 aC b7) [(.int 1)]) (fun t k => XS.goto X10.here hx rfl (pc0 := 63) (pc' := 67) rfl (hb hby at_63) (by decide) (by decide) k) ?_
        refine GoW.retN X10 hx (t := .boolean) Bd.returns (by simp) (hb hby at_67) Bd.notSynchronized ?_ (by decide) (by decide)
        have hq : (F0 q1) = (1 : Int32) := by rw [hFz3, hFb7]; unfold F0_2; rw [if_pos c11]; try rfl
        exact ⟨by rw [hq] <;> rfl, N10⟩
      · refine GoW.sg (mkF m 66 (K3 q1 z3 aC b7) []) (fun t k => XS.icmpYes X10.here hx rfl (pc0 := 59) (pc' := 66) rfl (hb hby at_59) rfl (feq c11).2 (by decide) (by decide) k) ?_
        refine GoW.sg (mkF m 67 (K3 q1 z3 aC b7) [(.int 0)]) (fun t k => XS.iconst X10.here hx rfl (hb hby at_66) k) ?_
        refine GoW.retN X10 hx (t := .boolean) Bd.returns (by simp) (hb hby at_67) Bd.notSynchronized ?_ (by decide) (by decide)
        have hq : (F0 q1) = (0 : Int32) := by rw [hFz3, hFb7]; unfold F0_2; rw [if_neg c11]; try rfl
        exact ⟨by rw [hq] <;> rfl, N10⟩
    by_cases c9 : z3 = (3 : Int32)
    · refine GoW.sg (mkF m 52 (K2 q1 z3 aC) []) (fun t k => XS.icmpYes X5.here hx rfl (pc0 := 45) (pc' := 52) rfl (hb hby at_45) rfl (teq c9).1 (by decide) (by decide) k) ?_
      refine GoW.sg (mkF m 53 (K2 q1 z3 aC) [(.int 0)]) (fun t k => XS.iconst X5.here hx rfl (hb hby at_52) k) ?_
      exact J53_8 _ (by rw [if_pos c9])
    · refine GoW.sg (mkF m 48 (K2 q1 z3 aC) []) (fun t k => XS.icmpNo X5.here hx rfl (hb hby at_45) rfl (feq c9).1 k) ?_
      refine GoW.sg (mkF m 49 (K2 q1 z3 aC) [(.int 1)]) (fun t k => XS.iconst X5.here hx rfl (hb hby at_48) k) ?_
      refine GoW.sg (mkF m 53 (K2 q1 z3 aC) [(.int 1)]) (fun t k => XS.goto X5.here hx rfl (pc0 := 49) (pc' := 53) rfl (hb hby at_49) (by decide) (by decide) k) ?_
      exact J53_8 _ (by rw [if_neg c9])
  · refine GoW.sg (mkF m 15 (K1 q1 z3) []) (fun t k => XS.ifYes X0.here hx rfl (pc0 := 5) (pc' := 15) rfl (hb hby at_5) rfl ((if0 _ _).trans (feq c4).2) (by decide) (by decide) k) ?_
    refine GoW.sg (mkF m 16 (K1 q1 z3) [(.int z3)]) (fun t k => XS.iloadN X0.here hx rfl (hb hby at_15) rfl k) ?_
    refine GoW.sg (mkF m 17 (K1 q1 z3) [(.int 1), (.int z3)]) (fun t k => XS.iconst X0.here hx rfl (hb hby at_16) k) ?_
    by_cases c12 : z3 = (1 : Int32)
    · refine GoW.sg (mkF m 20 (K1 q1 z3) []) (fun t k => XS.icmpNo X0.here hx rfl (hb hby at_17) rfl (teq c12).2 k) ?_
      obtain ⟨T13, X13, e13, st13⟩ := getS (host := "") X0 hx hZ hown (ww hw 13 rfl) Via.refl e0 P1 (g := (mkF m 20 (K1 q1 z3) [])) rfl (hb hby at_20)
      refine GoW.sg (mkF m 23 (K1 q1 z3) [(.ref aD)]) (fun t k => st13 t k) ?_
      refine GoW.sg (mkF m 24 (K2 q1 z3 aD) []) (fun t k => XS.astoreN X13.here hx rfl (hb hby at_23) rfl rfl (l' := (K2 q1 z3 aD)) rfl k) ?_
      refine GoW.sg (mkF m 43 (K2 q1 z3 aD) []) (fun t k => XS.goto X13.here hx rfl (pc0 := 24) (pc' := 43) rfl (hb hby at_24) (by decide) (by decide) k) ?_
      refine GoW.sg (mkF m 44 (K2 q1 z3 aD) [(.int z3)]) (fun t k => XS.iloadN X13.here hx rfl (hb hby at_43) rfl k) ?_
      refine GoW.sg (mkF m 45 (K2 q1 z3 aD) [(.int 3), (.int z3)]) (fun t k => XS.iconst X13.here hx rfl (hb hby at_44) k) ?_
      have J53_16 : ∀ b15 : Int32, b15 = (if z3 = (3 : Int32) then (0 : Int32) else (1 : Int32)) → GoW p e below s (ValQ (.int (F0 q1)) n0) room_1.cells room_1.slots (T13.setTop (mkF m 53 (K2 q1 z3 aD) [(.int b15)])) := by
        intro b15 hb15
        have hFb15 : (F0_1 q1 z3) = (F0_3 q1 z3 b15) := by unfold F0_1; rw [if_neg c4, if_pos c12]; rw [hb15]
        refine GoW.sg (mkF m 54 (K3 q1 z3 aD b15) []) (fun t k => XS.istoreN X13.here hx rfl (hb hby at_53) rfl (l' := (K3 q1 z3 aD b15)) rfl k) ?_
        refine GoW.sg (mkF m 55 (K3 q1 z3 aD b15) [(.ref aD)]) (fun t k => XS.aloadN X13.here hx rfl (hb hby at_54) rfl rfl k) ?_
        obtain ⟨cq18, kq18, q18a, q18b, q18c⟩ := isOf hZ e13 P5
        obtain ⟨_, _, ⟨T18, L18, k18, n18⟩, -, X18, ⟨Lc18, hQ18, l18, y18, z18⟩, st18⟩ := X13.virtualBack hx (y := (⟨"com/example/lianzhuang/lianzhuang/tile/Suit", "makesRuns", "()Z"⟩ : MethodName)) (z := (⟨"com/example/lianzhuang/lianzhuang/tile/Suit", "makesRuns", "()Z"⟩ : MethodName)) hown (mvT hZ (ww hw 3 rfl)) (mvT hZ (ww hw 4 rfl)) (notFace_of_selects (args := #[]) (mvT hZ (ww hw 6 rfl))) (mvT hZ (ww hw 6 rfl)) (mvT hZ (ww hw 5 rfl)) (by decide) (backOf (W := 0) (rmN l Z a0 hw [] aD aH h0 n0  P3  ne_aD_aH ) hZ (ww hw 7 rfl) (ww hw 1 rfl) (by decide) (by decide)) q18a q18c (g := (mkF m 55 (K3 q1 z3 aD b15) [(.ref aD)])) rfl (by rw [hml]; rfl) (Steps.refl _) (argsL := []) (rest := []) (lenOf pd_2829Z rfl) rfl (by show 2 * 0 + _ ≤ _; exact Nat.le_of_eq rfl) (hb hby at_55) (fun _ _ => ⟨rfl, e13, (by decide : 0 + 0 ≤ _), (by decide : 0 + 0 ≤ _)⟩)
        dsimp only [Pt.U, Pt.locs, Pt.cells, Pt.slots] at X18 l18 y18 z18 st18 hQ18
        subst l18 y18 z18
        obtain ⟨rfl, N18q, e18⟩ := hQ18
        have N18 := Fr.app N0 N18q
        refine GoW.sg (mkF m 58 (K3 q1 z3 aD b15) [(.int 1)]) (fun t k => st18.trans k) ?_
        refine GoW.sg (mkF m 59 (K3 q1 z3 aD b15) [(.int b15), (.int 1)]) (fun t k => XS.iloadN X18.here hx rfl (hb hby at_58) rfl k) ?_
        by_cases c19 : (1 : Int32) = b15
        · refine GoW.sg (mkF m 62 (K3 q1 z3 aD b15) []) (fun t k => XS.icmpNo X18.here hx rfl (hb hby at_59) rfl (teq c19).2 k) ?_
          refine GoW.sg (mkF m 63 (K3 q1 z3 aD b15) [(.int 1)]) (fun t k => XS.iconst X18.here hx rfl (hb hby at_62) k) ?_
          refine GoW.sg (mkF m 67 (K3 q1 z3 aD b15) [(.int 1)]) (fun t k => XS.goto X18.here hx rfl (pc0 := 63) (pc' := 67) rfl (hb hby at_63) (by decide) (by decide) k) ?_
          refine GoW.retN X18 hx (t := .boolean) Bd.returns (by simp) (hb hby at_67) Bd.notSynchronized ?_ (by decide) (by decide)
          have hq : (F0 q1) = (1 : Int32) := by rw [hFz3, hFb15]; unfold F0_3; rw [if_pos c19]; try rfl
          exact ⟨by rw [hq] <;> rfl, N18⟩
        · refine GoW.sg (mkF m 66 (K3 q1 z3 aD b15) []) (fun t k => XS.icmpYes X18.here hx rfl (pc0 := 59) (pc' := 66) rfl (hb hby at_59) rfl (feq c19).2 (by decide) (by decide) k) ?_
          refine GoW.sg (mkF m 67 (K3 q1 z3 aD b15) [(.int 0)]) (fun t k => XS.iconst X18.here hx rfl (hb hby at_66) k) ?_
          refine GoW.retN X18 hx (t := .boolean) Bd.returns (by simp) (hb hby at_67) Bd.notSynchronized ?_ (by decide) (by decide)
          have hq : (F0 q1) = (0 : Int32) := by rw [hFz3, hFb15]; unfold F0_3; rw [if_neg c19]; try rfl
          exact ⟨by rw [hq] <;> rfl, N18⟩
      by_cases c17 : z3 = (3 : Int32)
      · refine GoW.sg (mkF m 52 (K2 q1 z3 aD) []) (fun t k => XS.icmpYes X13.here hx rfl (pc0 := 45) (pc' := 52) rfl (hb hby at_45) rfl (teq c17).1 (by decide) (by decide) k) ?_
        refine GoW.sg (mkF m 53 (K2 q1 z3 aD) [(.int 0)]) (fun t k => XS.iconst X13.here hx rfl (hb hby at_52) k) ?_
        exact J53_16 _ (by rw [if_pos c17])
      · refine GoW.sg (mkF m 48 (K2 q1 z3 aD) []) (fun t k => XS.icmpNo X13.here hx rfl (hb hby at_45) rfl (feq c17).1 k) ?_
        refine GoW.sg (mkF m 49 (K2 q1 z3 aD) [(.int 1)]) (fun t k => XS.iconst X13.here hx rfl (hb hby at_48) k) ?_
        refine GoW.sg (mkF m 53 (K2 q1 z3 aD) [(.int 1)]) (fun t k => XS.goto X13.here hx rfl (pc0 := 49) (pc' := 53) rfl (hb hby at_49) (by decide) (by decide) k) ?_
        exact J53_16 _ (by rw [if_neg c17])
    · refine GoW.sg (mkF m 27 (K1 q1 z3) []) (fun t k => XS.icmpYes X0.here hx rfl (pc0 := 17) (pc' := 27) rfl (hb hby at_17) rfl (feq c12).2 (by decide) (by decide) k) ?_
      refine GoW.sg (mkF m 28 (K1 q1 z3) [(.int z3)]) (fun t k => XS.iloadN X0.here hx rfl (hb hby at_27) rfl k) ?_
      refine GoW.sg (mkF m 29 (K1 q1 z3) [(.int 2), (.int z3)]) (fun t k => XS.iconst X0.here hx rfl (hb hby at_28) k) ?_
      by_cases c20 : z3 = (2 : Int32)
      · refine GoW.sg (mkF m 32 (K1 q1 z3) []) (fun t k => XS.icmpNo X0.here hx rfl (hb hby at_29) rfl (teq c20).2 k) ?_
        obtain ⟨T21, X21, e21, st21⟩ := getS (host := "") X0 hx hZ hown (ww hw 11 rfl) Via.refl e0 P2 (g := (mkF m 32 (K1 q1 z3) [])) rfl (hb hby at_32)
        refine GoW.sg (mkF m 35 (K1 q1 z3) [(.ref aB)]) (fun t k => st21 t k) ?_
        refine GoW.sg (mkF m 36 (K2 q1 z3 aB) []) (fun t k => XS.astoreN X21.here hx rfl (hb hby at_35) rfl rfl (l' := (K2 q1 z3 aB)) rfl k) ?_
        refine GoW.sg (mkF m 43 (K2 q1 z3 aB) []) (fun t k => XS.goto X21.here hx rfl (pc0 := 36) (pc' := 43) rfl (hb hby at_36) (by decide) (by decide) k) ?_
        refine GoW.sg (mkF m 44 (K2 q1 z3 aB) [(.int z3)]) (fun t k => XS.iloadN X21.here hx rfl (hb hby at_43) rfl k) ?_
        refine GoW.sg (mkF m 45 (K2 q1 z3 aB) [(.int 3), (.int z3)]) (fun t k => XS.iconst X21.here hx rfl (hb hby at_44) k) ?_
        have J53_24 : ∀ b23 : Int32, b23 = (if z3 = (3 : Int32) then (0 : Int32) else (1 : Int32)) → GoW p e below s (ValQ (.int (F0 q1)) n0) room_1.cells room_1.slots (T21.setTop (mkF m 53 (K2 q1 z3 aB) [(.int b23)])) := by
          intro b23 hb23
          have hFb23 : (F0_1 q1 z3) = (F0_4 q1 z3 b23) := by unfold F0_1; rw [if_neg c4, if_neg c12, if_pos c20]; rw [hb23]
          refine GoW.sg (mkF m 54 (K3 q1 z3 aB b23) []) (fun t k => XS.istoreN X21.here hx rfl (hb hby at_53) rfl (l' := (K3 q1 z3 aB b23)) rfl k) ?_
          refine GoW.sg (mkF m 55 (K3 q1 z3 aB b23) [(.ref aB)]) (fun t k => XS.aloadN X21.here hx rfl (hb hby at_54) rfl rfl k) ?_
          obtain ⟨cq26, kq26, q26a, q26b, q26c⟩ := isOf hZ e21 P6
          obtain ⟨_, _, ⟨T26, L26, k26, n26⟩, -, X26, ⟨Lc26, hQ26, l26, y26, z26⟩, st26⟩ := X21.virtualBack hx (y := (⟨"com/example/lianzhuang/lianzhuang/tile/Suit", "makesRuns", "()Z"⟩ : MethodName)) (z := (⟨"com/example/lianzhuang/lianzhuang/tile/Suit", "makesRuns", "()Z"⟩ : MethodName)) hown (mvT hZ (ww hw 3 rfl)) (mvT hZ (ww hw 4 rfl)) (notFace_of_selects (args := #[]) (mvT hZ (ww hw 6 rfl))) (mvT hZ (ww hw 6 rfl)) (mvT hZ (ww hw 5 rfl)) (by decide) (backOf (W := 0) (rmN l Z a0 hw [] aB aH h0 n0  P3  ne_aB_aH ) hZ (ww hw 7 rfl) (ww hw 1 rfl) (by decide) (by decide)) q26a q26c (g := (mkF m 55 (K3 q1 z3 aB b23) [(.ref aB)])) rfl (by rw [hml]; rfl) (Steps.refl _) (argsL := []) (rest := []) (lenOf pd_2829Z rfl) rfl (by show 2 * 0 + _ ≤ _; exact Nat.le_of_eq rfl) (hb hby at_55) (fun _ _ => ⟨rfl, e21, (by decide : 0 + 0 ≤ _), (by decide : 0 + 0 ≤ _)⟩)
          dsimp only [Pt.U, Pt.locs, Pt.cells, Pt.slots] at X26 l26 y26 z26 st26 hQ26
          subst l26 y26 z26
          obtain ⟨rfl, N26q, e26⟩ := hQ26
          have N26 := Fr.app N0 N26q
          refine GoW.sg (mkF m 58 (K3 q1 z3 aB b23) [(.int 1)]) (fun t k => st26.trans k) ?_
          refine GoW.sg (mkF m 59 (K3 q1 z3 aB b23) [(.int b23), (.int 1)]) (fun t k => XS.iloadN X26.here hx rfl (hb hby at_58) rfl k) ?_
          by_cases c27 : (1 : Int32) = b23
          · refine GoW.sg (mkF m 62 (K3 q1 z3 aB b23) []) (fun t k => XS.icmpNo X26.here hx rfl (hb hby at_59) rfl (teq c27).2 k) ?_
            refine GoW.sg (mkF m 63 (K3 q1 z3 aB b23) [(.int 1)]) (fun t k => XS.iconst X26.here hx rfl (hb hby at_62) k) ?_
            refine GoW.sg (mkF m 67 (K3 q1 z3 aB b23) [(.int 1)]) (fun t k => XS.goto X26.here hx rfl (pc0 := 63) (pc' := 67) rfl (hb hby at_63) (by decide) (by decide) k) ?_
            refine GoW.retN X26 hx (t := .boolean) Bd.returns (by simp) (hb hby at_67) Bd.notSynchronized ?_ (by decide) (by decide)
            have hq : (F0 q1) = (1 : Int32) := by rw [hFz3, hFb23]; unfold F0_4; rw [if_pos c27]; try rfl
            exact ⟨by rw [hq] <;> rfl, N26⟩
          · refine GoW.sg (mkF m 66 (K3 q1 z3 aB b23) []) (fun t k => XS.icmpYes X26.here hx rfl (pc0 := 59) (pc' := 66) rfl (hb hby at_59) rfl (feq c27).2 (by decide) (by decide) k) ?_
            refine GoW.sg (mkF m 67 (K3 q1 z3 aB b23) [(.int 0)]) (fun t k => XS.iconst X26.here hx rfl (hb hby at_66) k) ?_
            refine GoW.retN X26 hx (t := .boolean) Bd.returns (by simp) (hb hby at_67) Bd.notSynchronized ?_ (by decide) (by decide)
            have hq : (F0 q1) = (0 : Int32) := by rw [hFz3, hFb23]; unfold F0_4; rw [if_neg c27]; try rfl
            exact ⟨by rw [hq] <;> rfl, N26⟩
        by_cases c25 : z3 = (3 : Int32)
        · refine GoW.sg (mkF m 52 (K2 q1 z3 aB) []) (fun t k => XS.icmpYes X21.here hx rfl (pc0 := 45) (pc' := 52) rfl (hb hby at_45) rfl (teq c25).1 (by decide) (by decide) k) ?_
          refine GoW.sg (mkF m 53 (K2 q1 z3 aB) [(.int 0)]) (fun t k => XS.iconst X21.here hx rfl (hb hby at_52) k) ?_
          exact J53_24 _ (by rw [if_pos c25])
        · refine GoW.sg (mkF m 48 (K2 q1 z3 aB) []) (fun t k => XS.icmpNo X21.here hx rfl (hb hby at_45) rfl (feq c25).1 k) ?_
          refine GoW.sg (mkF m 49 (K2 q1 z3 aB) [(.int 1)]) (fun t k => XS.iconst X21.here hx rfl (hb hby at_48) k) ?_
          refine GoW.sg (mkF m 53 (K2 q1 z3 aB) [(.int 1)]) (fun t k => XS.goto X21.here hx rfl (pc0 := 49) (pc' := 53) rfl (hb hby at_49) (by decide) (by decide) k) ?_
          exact J53_24 _ (by rw [if_neg c25])
      · refine GoW.sg (mkF m 39 (K1 q1 z3) []) (fun t k => XS.icmpYes X0.here hx rfl (pc0 := 29) (pc' := 39) rfl (hb hby at_29) rfl (feq c20).2 (by decide) (by decide) k) ?_
        obtain ⟨T28, X28, e28, st28⟩ := getS (host := "") X0 hx hZ hown (ww hw 10 rfl) Via.refl e0 P3 (g := (mkF m 39 (K1 q1 z3) [])) rfl (hb hby at_39)
        refine GoW.sg (mkF m 42 (K1 q1 z3) [(.ref aH)]) (fun t k => st28 t k) ?_
        refine GoW.sg (mkF m 43 (K2 q1 z3 aH) []) (fun t k => XS.astoreN X28.here hx rfl (hb hby at_42) rfl rfl (l' := (K2 q1 z3 aH)) rfl k) ?_
        refine GoW.sg (mkF m 44 (K2 q1 z3 aH) [(.int z3)]) (fun t k => XS.iloadN X28.here hx rfl (hb hby at_43) rfl k) ?_
        refine GoW.sg (mkF m 45 (K2 q1 z3 aH) [(.int 3), (.int z3)]) (fun t k => XS.iconst X28.here hx rfl (hb hby at_44) k) ?_
        have J53_31 : ∀ b30 : Int32, b30 = (if z3 = (3 : Int32) then (0 : Int32) else (1 : Int32)) → GoW p e below s (ValQ (.int (F0 q1)) n0) room_1.cells room_1.slots (T28.setTop (mkF m 53 (K2 q1 z3 aH) [(.int b30)])) := by
          intro b30 hb30
          have hFb30 : (F0_1 q1 z3) = (F0_5 q1 z3 b30) := by unfold F0_1; rw [if_neg c4, if_neg c12, if_neg c20]; rw [hb30]
          refine GoW.sg (mkF m 54 (K3 q1 z3 aH b30) []) (fun t k => XS.istoreN X28.here hx rfl (hb hby at_53) rfl (l' := (K3 q1 z3 aH b30)) rfl k) ?_
          refine GoW.sg (mkF m 55 (K3 q1 z3 aH b30) [(.ref aH)]) (fun t k => XS.aloadN X28.here hx rfl (hb hby at_54) rfl rfl k) ?_
          obtain ⟨cq33, kq33, q33a, q33b, q33c⟩ := isOf hZ e28 P7
          obtain ⟨_, _, ⟨T33, L33, k33, n33⟩, -, X33, ⟨Lc33, hQ33, l33, y33, z33⟩, st33⟩ := X28.virtualBack hx (y := (⟨"com/example/lianzhuang/lianzhuang/tile/Suit", "makesRuns", "()Z"⟩ : MethodName)) (z := (⟨"com/example/lianzhuang/lianzhuang/tile/Suit", "makesRuns", "()Z"⟩ : MethodName)) hown (mvT hZ (ww hw 3 rfl)) (mvT hZ (ww hw 4 rfl)) (notFace_of_selects (args := #[]) (mvT hZ (ww hw 6 rfl))) (mvT hZ (ww hw 6 rfl)) (mvT hZ (ww hw 5 rfl)) (by decide) (backOf (W := 0) (rmH l Z a0 hw [] aH  h0 n0  P3   ) hZ (ww hw 7 rfl) (ww hw 1 rfl) (by decide) (by decide)) q33a q33c (g := (mkF m 55 (K3 q1 z3 aH b30) [(.ref aH)])) rfl (by rw [hml]; rfl) (Steps.refl _) (argsL := []) (rest := []) (lenOf pd_2829Z rfl) rfl (by show 2 * 0 + _ ≤ _; exact Nat.le_of_eq rfl) (hb hby at_55) (fun _ _ => ⟨rfl, e28, (by decide : 0 + 0 ≤ _), (by decide : 0 + 0 ≤ _)⟩)
          dsimp only [Pt.U, Pt.locs, Pt.cells, Pt.slots] at X33 l33 y33 z33 st33 hQ33
          subst l33 y33 z33
          obtain ⟨rfl, N33q, e33⟩ := hQ33
          have N33 := Fr.app N0 N33q
          refine GoW.sg (mkF m 58 (K3 q1 z3 aH b30) [(.int 0)]) (fun t k => st33.trans k) ?_
          refine GoW.sg (mkF m 59 (K3 q1 z3 aH b30) [(.int b30), (.int 0)]) (fun t k => XS.iloadN X33.here hx rfl (hb hby at_58) rfl k) ?_
          by_cases c34 : (0 : Int32) = b30
          · refine GoW.sg (mkF m 62 (K3 q1 z3 aH b30) []) (fun t k => XS.icmpNo X33.here hx rfl (hb hby at_59) rfl (teq c34).2 k) ?_
            refine GoW.sg (mkF m 63 (K3 q1 z3 aH b30) [(.int 1)]) (fun t k => XS.iconst X33.here hx rfl (hb hby at_62) k) ?_
            refine GoW.sg (mkF m 67 (K3 q1 z3 aH b30) [(.int 1)]) (fun t k => XS.goto X33.here hx rfl (pc0 := 63) (pc' := 67) rfl (hb hby at_63) (by decide) (by decide) k) ?_
            refine GoW.retN X33 hx (t := .boolean) Bd.returns (by simp) (hb hby at_67) Bd.notSynchronized ?_ (by decide) (by decide)
            have hq : (F0 q1) = (1 : Int32) := by rw [hFz3, hFb30]; unfold F0_5; rw [if_pos c34]; try rfl
            exact ⟨by rw [hq] <;> rfl, N33⟩
          · refine GoW.sg (mkF m 66 (K3 q1 z3 aH b30) []) (fun t k => XS.icmpYes X33.here hx rfl (pc0 := 59) (pc' := 66) rfl (hb hby at_59) rfl (feq c34).2 (by decide) (by decide) k) ?_
            refine GoW.sg (mkF m 67 (K3 q1 z3 aH b30) [(.int 0)]) (fun t k => XS.iconst X33.here hx rfl (hb hby at_66) k) ?_
            refine GoW.retN X33 hx (t := .boolean) Bd.returns (by simp) (hb hby at_67) Bd.notSynchronized ?_ (by decide) (by decide)
            have hq : (F0 q1) = (0 : Int32) := by rw [hFz3, hFb30]; unfold F0_5; rw [if_neg c34]; try rfl
            exact ⟨by rw [hq] <;> rfl, N33⟩
        by_cases c32 : z3 = (3 : Int32)
        · refine GoW.sg (mkF m 52 (K2 q1 z3 aH) []) (fun t k => XS.icmpYes X28.here hx rfl (pc0 := 45) (pc' := 52) rfl (hb hby at_45) rfl (teq c32).1 (by decide) (by decide) k) ?_
          refine GoW.sg (mkF m 53 (K2 q1 z3 aH) [(.int 0)]) (fun t k => XS.iconst X28.here hx rfl (hb hby at_52) k) ?_
          exact J53_31 _ (by rw [if_pos c32])
        · refine GoW.sg (mkF m 48 (K2 q1 z3 aH) []) (fun t k => XS.icmpNo X28.here hx rfl (hb hby at_45) rfl (feq c32).1 k) ?_
          refine GoW.sg (mkF m 49 (K2 q1 z3 aH) [(.int 1)]) (fun t k => XS.iconst X28.here hx rfl (hb hby at_48) k) ?_
          refine GoW.sg (mkF m 53 (K2 q1 z3 aH) [(.int 1)]) (fun t k => XS.goto X28.here hx rfl (pc0 := 49) (pc' := 53) rfl (hb hby at_49) (by decide) (by decide) k) ?_
          exact J53_31 _ (by rw [if_neg c32])
theorem own_law (q1 : Int32) : F0 q1 = 1 := by
  have h := c_mask q1 3 2 (by decide) (by decide)
  unfold F0
  generalize q1 &&& 3 = z at *
  have : z = 0 ∨ z = 1 ∨ z = 2 ∨ z = 3 := by
    have e : z.toInt = 0 ∨ z.toInt = 1 ∨ z.toInt = 2 ∨ z.toInt = 3 := by omega
    rcases e with e | e | e | e
    · exact Or.inl (Int32.toInt_inj.mp e)
    · exact Or.inr (Or.inl (Int32.toInt_inj.mp e))
    · exact Or.inr (Or.inr (Or.inl (Int32.toInt_inj.mp e)))
    · exact Or.inr (Or.inr (Or.inr (Int32.toInt_inj.mp e)))
  rcases this with rfl | rfl | rfl | rfl <;> rfl

set_option maxRecDepth 65536 in
set_option maxHeartbeats 40000000 in
theorem comes_1 {Post : Tables → Env → Array Value → State → Outcome → State → Prop} (hpost : ∀ tb e args s v u, (limb_1_1.after args s (.returned v) u = true ∧ limb_1_2.after args s (.returned v) u = true ∧ True) → FrameEnd s (.returned v) u (Jvm.fieldLocs frame_1_writes args s ++ Jvm.arrayLocs frame_1_arrays args s ++ Jvm.staticLocs frame_1_statics s) 0 0 → Post tb e args s (.returned v) u) :
    ArmFor flags0 classFile x code maxLocals ret World_1 tables_1 room_1 Calls_1 rest_1 Pre_1 Post := by
  intro l hfl _ _ p e ha hc hk s m args below hf hA hF happ hP
  obtain ⟨hcalls, hrest, hpre⟩ := hP
  obtain ⟨-, -, -, hnamed, -, -, -, hat⟩ := (Spec.applies_iff hf).mp happ
  obtain ⟨hg, hn⟩ := and_e (Cond.before_iff.mp (show (Jvm.Cond.and given_1 narrow_1).before args s = true from hpre))
  obtain ⟨ga0, gb0⟩ := and_e hg
  obtain ⟨w0, rfl⟩ : ∃ w0 : Value, args = #[w0] := by
    have hs : args.size = 1 := by simpa [Cond.value, given_1] using ga0
    obtain ⟨L⟩ := args
    match L, hs with
    | [w0], _ => exact ⟨w0, rfl⟩
  have hw := fun d (hd : d ∈ tables_1) => atoms_spec (ws := Jvm.Cond.code x code maxLocals ret :: tables_1) hat d (List.mem_cons_of_mem _ hd)
  have hfit : Fit s := fun {y c} hc i hi => by
    obtain ⟨ha, rfl⟩ := Array.getElem?_eq_some_iff.mp hc
    have q := List.all_eq_true.mp ((Array.all_eq_true_iff_forall_mem.mp hF) _ (Array.getElem_mem ha)) i (List.mem_range.mpr hi)
    simpa [Array.getElem?_eq_getElem hi] using q
  obtain ⟨i0, ei0⟩ := is_v gb0
  obtain rfl : w0 = (.int i0) := Option.some.inj ei0
  obtain ⟨m1, n1⟩ := and_e hn
  obtain ⟨m2, n2⟩ := and_e n1
  obtain ⟨m3, n3⟩ := and_e n2
  obtain ⟨m4, n4⟩ := and_e n3
  obtain ⟨m5, n5⟩ := and_e n4
  obtain ⟨m6, n6⟩ := and_e n5
  obtain ⟨m7, m8⟩ := and_e n6
  obtain ⟨aC, evC⟩ := exa_v m1
  obtain ⟨aH, evH⟩ := exa_v m2
  obtain ⟨aB, evB⟩ := exa_v m5
  obtain ⟨aD, evD⟩ := exa_v m7
  have SC := Sta.start evC (Or.inr ⟨(ww hw 1 rfl), (ww hw 2 rfl)⟩)
  have SD := Sta.start evD (Or.inr ⟨(ww hw 1 rfl), (ww hw 14 rfl)⟩)
  have SB := Sta.start evB (Or.inr ⟨(ww hw 1 rfl), (ww hw 12 rfl)⟩)
  have SH := Sta.start evH (Or.inr ⟨(ww hw 1 rfl), (ww hw 9 rfl)⟩)
  have EC := Exa.start evC m1
  have EH := Exa.start evH m2
  have EB := Exa.start evB m5
  have ED := Exa.start evD m7
  have nC := own_ne m3 m4 evC evH (by decide)
  have nD := own_ne m8 m4 evD evH (by decide)
  have nB := own_ne m6 m4 evB evH (by decide)
  obtain ⟨n, o, h1, h2, h3, v, L, rfl, ⟨hv, N⟩, hq⟩ := rm0 l s _ hw tables_1 i0 aC aD aB aH s.heap s.heap.size (Nat.le_refl _) SC SD SB SH EC ED EB EH nC nD nB p e ha hc hk s m _ below hf ((Spec.applies_iff_loose hf).mp happ).1 ⟨rfl, State.Warmed39.refl s, rfl⟩ trivial
  rw [own_law i0] at hv
  subst hv
  refine ⟨n, _, h1, h2, h3, hpost _ _ _ _ _ _ ⟨Cond.after_iff.mpr rfl, Cond.after_iff.mpr (eq_i res_at (Term.int_eval (1)) rfl), trivial⟩ ⟨hq.1, hq.2.1, (hq.2.2.sift fun y hy => Or.inr (N y hy)).mono (by decide) (by decide)⟩⟩
theorem main_1_1 : Claimed_1_1 := comes_1 fun _ _ _ _ _ _ h hF => ⟨h.1, hF⟩
theorem main_1_2 : Claimed_1_2 := comes_1 fun _ _ _ _ _ _ h hF => ⟨h.2.1, hF⟩
end Jvm.Pilot.@@N@@
namespace Jvm.Pilot.@@N@@
open Jvm Jvm.ClassFile Sem Op Lib Jvm.Free Jvm.Stand Jvm.Pilot.@@N@@.Jvm.D
/-! MADE BY PROGRAM (witnessworld.py) out of the Statement's table words and the real class files: 12 classes; the members and pool entries that the words name. The judged class is class 1, her method 1. -/
namespace start1
open Jvm.ClassFile
def u (s : String) : CpInfo := .utf8 (stringToUtf16 s)
/-- a pool by its gaps: so many unusable entries, then the entry; so many at the end -/
def gap : Nat → List CpInfo → List CpInfo
  | 0, r => r
  | n + 1, r => .unusable :: gap n r
def poolList (es : List (Nat × CpInfo)) (last : Nat) : List CpInfo := es.foldr (fun e r => gap e.1 (e.2 :: r)) (gap last [])
def pool (es : List (Nat × CpInfo)) (last : Nat) : Array CpInfo := ⟨poolList es last⟩
def fileOf (pool : Array CpInfo) (this : Nat) (attrs : Array Attribute := #[]) (ms : Array MethodInfo := #[]) (fl : Nat := 33) (sup : Nat := 0) (ifs : Array Nat := #[]) (fds : Array FieldInfo := #[]) : ClassFile where
  minorVersion := 0
  majorVersion := 65
  constantPool := pool
  accessFlags := fl
  thisClass := this
  superClass := sup
  interfaces := ifs
  fields := fds
  methods := ms
  attributes := attrs
def plain (name : String) (sup : Option ClassId) : Class where
  name := name
  kind := .ordinary
  loader := none
  accessFlags := 33
  super := sup
  interfaces := #[]
  cf := none
  fields := #[]
  methods := #[]
  instanceTypes := #[]
  staticTypes := #[]
  resolved := #[]
  callSites := []
  init := .initialized
  statics := none
  mirror := none

def pool0 : Array CpInfo := pool [(5, u "<init>"), (0, u "()V"), (1, .class_ 10), (1, u "java/lang/Object")] 113

def k0m0 : Method := { name := "<init>", desc := "()V", sig := { parameters := [], returnType := none }, accessFlags := 1, code := none }
/-- java/lang/Object -/
def k0 : Class := { plain "java/lang/Object" none with
  accessFlags := 33
  interfaces := #[]
  cf := some (fileOf pool0 8 #[] #[{ accessFlags := 1, nameIndex := 5, descriptorIndex := 6, attributes := #[] }] 33 0 #[] #[])
  fields := #[]
  methods := #[k0m0]
  instanceTypes := #[]
  staticTypes := #[]
  resolved := Array.replicate 124 none
  statics := none }

def pool1 : Array CpInfo := pool [(2, .class_ 4), (1, u "java/lang/Object"), (0, u "<init>"), (0, u "()V"), (0, .fieldref 8 9), (0, .class_ 10), (0, .nameAndType 11 12), (0, u "com/example/lianzhuang/lianzhuang/tile/Suit"), (0, u "CHARACTERS"), (0, u "Lcom/example/lianzhuang/lianzhuang/tile/Suit;"), (0, .fieldref 8 14), (0, .nameAndType 15 12), (0, u "DOTS"), (0, .fieldref 8 17), (0, .nameAndType 18 12), (0, u "BAMBOO"), (0, .fieldref 8 20), (0, .nameAndType 21 12), (0, u "HONOURS"), (0, .methodref 8 23), (0, .nameAndType 24 25), (0, u "makesRuns"), (0, u "()Z"), (0, .class_ 27), (0, u "com/example/lianzhuang/lianzhuang/tile/SuitMakesRunsPinLaw"), (2, u "law"), (0, u "(I)Z")] 3

def k1m0 : Method := { name := "<init>", desc := "()V", sig := { parameters := [], returnType := none }, accessFlags := 1, code := none }
def k1c1 : Code := { maxStack := 2, maxLocals := 4, code := code, exceptionTable := #[], attributes := #[] }
def k1m1 : Method := { name := "law", desc := "(I)Z", sig := { parameters := [.int], returnType := some .boolean }, accessFlags := 9, code := some k1c1 }
/-- com/example/lianzhuang/lianzhuang/tile/SuitMakesRunsPinLaw -/
def k1 : Class := { plain "com/example/lianzhuang/lianzhuang/tile/SuitMakesRunsPinLaw" (some 0) with
  accessFlags := 49
  interfaces := #[]
  cf := some (fileOf pool1 26 #[] #[{ accessFlags := 1, nameIndex := 5, descriptorIndex := 6, attributes := #[] }, { accessFlags := 9, nameIndex := 30, descriptorIndex := 31, attributes := #[] }] 49 2 #[] #[])
  fields := #[]
  methods := #[k1m0, k1m1]
  instanceTypes := #[]
  staticTypes := #[]
  resolved := Array.replicate 35 none
  statics := none }

def pool2 : Array CpInfo := pool [(1, .class_ 2), (0, u "java/lang/constant/Constable"), (0, .class_ 4), (0, u "java/lang/Object")] 6

/-- java/lang/constant/Constable -/
def k2 : Class := { plain "java/lang/constant/Constable" (some 0) with
  accessFlags := 1537
  interfaces := #[]
  cf := some (fileOf pool2 1 #[] #[] 1537 3 #[] #[])
  fields := #[]
  methods := #[]
  instanceTypes := #[]
  staticTypes := #[]
  resolved := Array.replicate 11 none
  statics := none }

def pool3 : Array CpInfo := pool [(1, .class_ 2), (0, u "java/lang/Comparable"), (0, .class_ 4), (0, u "java/lang/Object")] 7

/-- java/lang/Comparable -/
def k3 : Class := { plain "java/lang/Comparable" (some 0) with
  accessFlags := 1537
  interfaces := #[]
  cf := some (fileOf pool3 1 #[] #[] 1537 3 #[] #[])
  fields := #[]
  methods := #[]
  instanceTypes := #[]
  staticTypes := #[]
  resolved := Array.replicate 12 none
  statics := none }

def pool4 : Array CpInfo := pool [(1, .class_ 2), (0, u "java/io/Serializable"), (0, .class_ 4), (0, u "java/lang/Object")] 2

/-- java/io/Serializable -/
def k4 : Class := { plain "java/io/Serializable" (some 0) with
  accessFlags := 1537
  interfaces := #[]
  cf := some (fileOf pool4 1 #[] #[] 1537 3 #[] #[])
  fields := #[]
  methods := #[]
  instanceTypes := #[]
  staticTypes := #[]
  resolved := Array.replicate 7 none
  statics := none }

def pool5 : Array CpInfo := pool [(2, .class_ 4), (1, u "java/lang/Enum"), (0, u "name"), (0, u "Ljava/lang/String;"), (2, u "ordinal"), (0, u "I"), (1, .class_ 14), (1, u "java/lang/Object"), (4, u "hash"), (86, .class_ 108), (1, u "java/lang/Enum$EnumDesc"), (2, .class_ 112), (0, u "java/lang/constant/Constable"), (0, .class_ 114), (0, u "java/lang/Comparable"), (0, .class_ 116), (0, u "java/io/Serializable")] 87

/-- java/lang/Enum -/
def k5 : Class := { plain "java/lang/Enum" (some 0) with
  accessFlags := 1057
  interfaces := #[2, 3, 4]
  cf := some (fileOf pool5 2 #[.nestMembers #[106]] #[] 1057 12 #[111, 113, 115] #[{ accessFlags := 18, nameIndex := 5, descriptorIndex := 6, attributes := #[] }, { accessFlags := 18, nameIndex := 9, descriptorIndex := 10, attributes := #[] }, { accessFlags := 2, nameIndex := 19, descriptorIndex := 10, attributes := #[] }])
  fields := #[{ name := "name", type := (.object "java/lang/String"), accessFlags := 18, slot := 0, constantValue := 0 }, { name := "ordinal", type := .int, accessFlags := 18, slot := 1, constantValue := 0 }, { name := "hash", type := .int, accessFlags := 2, slot := 2, constantValue := 0 }]
  methods := #[]
  instanceTypes := #[(.object "java/lang/String"), .int, .int]
  staticTypes := #[]
  resolved := Array.replicate 204 none
  statics := none }

def pool6 : Array CpInfo := pool [(1, .class_ 2), (0, u "com/example/lianzhuang/lianzhuang/tile/Suit"), (2, u "CHARACTERS"), (0, u "Lcom/example/lianzhuang/lianzhuang/tile/Suit;"), (2, u "DOTS"), (2, u "BAMBOO"), (0, .fieldref 1 14), (0, .nameAndType 15 6), (0, u "HONOURS"), (2, u "$VALUES"), (0, u "[Lcom/example/lianzhuang/lianzhuang/tile/Suit;"), (6, .class_ 28), (1, u "java/lang/Enum"), (8, u "letter"), (0, u "C"), (2, u "ranks"), (0, u "I"), (22, u "makesRuns"), (0, u "()Z")] 8

def k6c0 : Code := { maxStack := 2, maxLocals := 1, code := prog_42_method_6_code, exceptionTable := #[], attributes := #[] }
def k6m0 : Method := { name := "makesRuns", desc := "()Z", sig := { parameters := [], returnType := some .boolean }, accessFlags := 1, code := some k6c0 }
/-- com/example/lianzhuang/lianzhuang/tile/Suit -/
def k6 : Class := { plain "com/example/lianzhuang/lianzhuang/tile/Suit" (some 5) with
  accessFlags := 16433
  interfaces := #[]
  cf := some (fileOf pool6 1 #[] #[{ accessFlags := 1, nameIndex := 65, descriptorIndex := 66, attributes := #[] }] 16433 26 #[] #[{ accessFlags := 16409, nameIndex := 5, descriptorIndex := 6, attributes := #[] }, { accessFlags := 16409, nameIndex := 9, descriptorIndex := 6, attributes := #[] }, { accessFlags := 16409, nameIndex := 12, descriptorIndex := 6, attributes := #[] }, { accessFlags := 16409, nameIndex := 15, descriptorIndex := 6, attributes := #[] }, { accessFlags := 18, nameIndex := 37, descriptorIndex := 38, attributes := #[] }, { accessFlags := 18, nameIndex := 41, descriptorIndex := 42, attributes := #[] }, { accessFlags := 4122, nameIndex := 18, descriptorIndex := 19, attributes := #[] }])
  fields := #[{ name := "CHARACTERS", type := (.object "com/example/lianzhuang/lianzhuang/tile/Suit"), accessFlags := 16409, slot := 0, constantValue := 0 }, { name := "DOTS", type := (.object "com/example/lianzhuang/lianzhuang/tile/Suit"), accessFlags := 16409, slot := 1, constantValue := 0 }, { name := "BAMBOO", type := (.object "com/example/lianzhuang/lianzhuang/tile/Suit"), accessFlags := 16409, slot := 2, constantValue := 0 }, { name := "HONOURS", type := (.object "com/example/lianzhuang/lianzhuang/tile/Suit"), accessFlags := 16409, slot := 3, constantValue := 0 }, { name := "letter", type := .char, accessFlags := 18, slot := 3, constantValue := 0 }, { name := "ranks", type := .int, accessFlags := 18, slot := 4, constantValue := 0 }, { name := "$VALUES", type := (.array (.object "com/example/lianzhuang/lianzhuang/tile/Suit")), accessFlags := 4122, slot := 4, constantValue := 0 }]
  methods := #[k6m0]
  instanceTypes := #[(.object "java/lang/String"), .int, .int, .char, .int]
  staticTypes := #[(.object "com/example/lianzhuang/lianzhuang/tile/Suit"), (.object "com/example/lianzhuang/lianzhuang/tile/Suit"), (.object "com/example/lianzhuang/lianzhuang/tile/Suit"), (.object "com/example/lianzhuang/lianzhuang/tile/Suit"), (.array (.object "com/example/lianzhuang/lianzhuang/tile/Suit"))]
  resolved := Array.replicate 75 none
  statics := some 0 }

def pool7 : Array CpInfo := pool [(1, u "java/lang/Cloneable"), (0, .class_ 1), (0, u "java/lang/Object"), (0, .class_ 3)] 3

/-- java/lang/Cloneable -/
def k7 : Class := { plain "java/lang/Cloneable" (some 0) with
  accessFlags := 1537
  interfaces := #[]
  cf := some (fileOf pool7 2 #[] #[] 1537 4 #[] #[])
  fields := #[]
  methods := #[]
  instanceTypes := #[]
  staticTypes := #[]
  resolved := Array.replicate 8 none
  statics := none }

/-- the primitive byte -/
def k8 : Class := { plain "byte" none with kind := .primitive 'B', accessFlags := 0x411 }
/-- [B -/
def k9 : Class := { plain "[B" (some 0) with kind := .array 8 .byte, interfaces := #[7, 4], accessFlags := 1041 }

/-- the primitive int -/
def k10 : Class := { plain "int" none with kind := .primitive 'I', accessFlags := 0x411 }
/-- [I -/
def k11 : Class := { plain "[I" (some 0) with kind := .array 10 .int, interfaces := #[7, 4], accessFlags := 1041 }

def heap : Heap := #[{ cls := 6, slots := #[.ref 1, .ref 2, .ref 3, .ref 4, .null], vm := .statics 6 },
  { cls := 6, slots := #[.null, .int 0, .int 0, .int 109, .int 9], vm := .none },
  { cls := 6, slots := #[.null, .int 1, .int 0, .int 112, .int 9], vm := .none },
  { cls := 6, slots := #[.null, .int 2, .int 0, .int 115, .int 9], vm := .none },
  { cls := 6, slots := #[.null, .int 3, .int 0, .int 122, .int 9], vm := .none }]
def classes : Array Class := #[k0, k1, k2, k3, k4, k5, k6, k7, k8, k9, k10, k11]
def interned : List (Array UInt16 × Addr) := []
def slotsUsed : Nat := 25
def theMethod : MethodId := ⟨1, 1⟩
def args0 : Array Value := #[.int 2]
def aboutOver (below : List Frame) : State where
  vm := { classes := classes, interned := interned.toArray }
  heap := heap
  slotsUsed := slotsUsed
  threads := #[{ frames := .invoking theMethod args0 :: below }]
def below0 : List Frame := [.native { method := ⟨0, 0⟩, args := #[] }]
def about1 : State := aboutOver below0
def p0 : Program := .bare "" "" ""
def e0 : Env := launch0.env 0 0 0
theorem w_frames : about1.frames = Frame.invoking theMethod args0 :: below0 := rfl
set_option maxRecDepth 65536 in
theorem w_args : argsFit about1.vm theMethod args0 = true := by decide +kernel
set_option maxRecDepth 65536 in
theorem w_heap : heapFits about1 = true := by decide +kernel
set_option maxRecDepth 65536 in
theorem w_runnable : about1.curStatus? = some .runnable := by decide +kernel
set_option maxRecDepth 65536 in
theorem w_alone : about1.alone = true := by decide +kernel
set_option maxRecDepth 65536 in
theorem w_named : about1.methodNamed? x = some theMethod := by decide +kernel
set_option maxRecDepth 65536 in
theorem w_hears : about1.hears theMethod below0 = true := by decide +kernel
set_option maxRecDepth 65536 in
theorem w_ripe : about1.ripe theMethod args0 below0 = true := by decide +kernel
theorem w_running : about1.status = .running := rfl
set_option maxRecDepth 65536 in
theorem w_room : about1.hasRoom e0.platform room_1 = true :=
  launch0.hasRoom_least _ room_1 (by decide +kernel) (by decide +kernel) (by decide +kernel) (by decide +kernel) (by decide +kernel) (by decide +kernel)
theorem allAtoms_all (ts : List Jvm.Cond) (a : Array Jvm.Value) (st : Jvm.State) : (allAtoms ts).before a st = ts.all (fun c => c.before a st) := by
  induction ts with
  | nil => rfl
  | cons c t ih =>
    show (Jvm.Cond.and c (allAtoms t)).before a st = _
    rw [Jvm.Cond.before_and, ih, List.all_cons]
def words1 : List Jvm.Cond := Jvm.Cond.code x code maxLocals ret :: tables_1
/-- a 'code' word, met by the world's own term for the bytes: nothing is compared byte by byte -/
theorem code_word {y : MethodName} {bytes : ByteArray} {mx : Nat} {rt : Option FieldType} {a : Array Value} {s : State} {m : MethodId} {meth : Method} {c : Code} (h1 : s.methodNamed? y = some m) (h2 : s.vm.method? m = some meth) (h3 : meth.code = some c) (h4 : c.code = bytes)
    (h5 : (c.maxLocals == mx && c.exceptionTable.isEmpty && decide (c.maxStack ≤ mostOperands) && decide (meth.sig.returnType = rt) && !meth.locks && decide (parseMethodDescriptor y.desc = some meth.sig)) = true) : (Jvm.Cond.code y bytes mx rt).before a s = true := by
  simp only [Bool.and_eq_true, beq_iff_eq, Bool.not_eq_true', decide_eq_true_eq] at h5
  obtain ⟨⟨⟨⟨⟨g1, g2⟩, g3⟩, g4⟩, g5⟩, g6⟩ := h5
  simp [Cond.before, Cond.holds, Cond.value, h1, h2, h3, h4, g1, g2, g3, g4, g5, g6]
def isCode : Jvm.Cond → Bool
  | .code _ _ _ _ => true
  | _ => false
theorem all_split {L : List Jvm.Cond} {P : Jvm.Cond → Bool} (h1 : L.all (fun c => isCode c || P c) = true) (h2 : ∀ c ∈ L.filter isCode, P c = true) : L.all P = true := by
  refine List.all_eq_true.mpr fun c hc => ?_
  have h := List.all_eq_true.mp h1 c hc
  rcases Bool.eq_false_or_eq_true (isCode c) with hi | hi
  · exact h2 c (List.mem_filter.mpr ⟨hc, hi⟩)
  · simpa [hi] using h
set_option maxRecDepth 65536 in
theorem w_c0 : (Jvm.Cond.code x code maxLocals ret).before args0 about1 = true := code_word (m := ⟨1, 1⟩) (meth := k1m1) (c := k1c1) (by decide +kernel) rfl rfl rfl (by decide +kernel)
set_option maxRecDepth 65536 in
theorem w_c1 : (Jvm.Cond.code ({ cls := "com/example/lianzhuang/lianzhuang/tile/Suit", name := "makesRuns", desc := "()Z" } : Jvm.MethodName) prog_42_method_6_code (1 : Nat) (Option.some Jvm.ClassFile.FieldType.boolean)).before args0 about1 = true := code_word (m := ⟨6, 0⟩) (meth := k6m0) (c := k6c0) (by decide +kernel) rfl rfl rfl (by decide +kernel)
def codes1 : List Jvm.Cond := [Jvm.Cond.code x code maxLocals ret, Jvm.Cond.code ({ cls := "com/example/lianzhuang/lianzhuang/tile/Suit", name := "makesRuns", desc := "()Z" } : Jvm.MethodName) prog_42_method_6_code (1 : Nat) (Option.some Jvm.ClassFile.FieldType.boolean)]
set_option maxRecDepth 65536 in
theorem codes_eq : words1.filter isCode = codes1 := rfl
theorem w_codes : ∀ c ∈ words1.filter isCode, c.before args0 about1 = true := by
  rw [codes_eq]
  intro c hc
  simp only [codes1, List.mem_cons, List.not_mem_nil, or_false] at hc
  rcases hc with rfl | rfl
  · exact w_c0
  · exact w_c1
set_option maxRecDepth 65536 in
theorem w_t1 : words1.all (fun c => isCode c || c.before args0 about1) = true := by decide +kernel
theorem w_tables : (allAtoms (Jvm.Cond.code x code maxLocals ret :: tables_1)).before args0 about1 = true := by
  rw [allAtoms_all]
  show words1.all (fun c => c.before args0 about1) = true
  refine all_split ?_ w_codes
  rw [w_t1]
set_option maxRecDepth 65536 in
theorem w_case : (Jvm.Cond.and given_1 narrow_1).before args0 about1 = true := by decide +kernel
theorem w_applies : (headSpec (Jvm.Cond.code x code maxLocals ret :: tables_1) room_1).applies x e0.platform about1 = true :=
  (Spec.applies_iff w_frames).mpr ⟨w_running, w_runnable, w_alone, w_named, w_hears, w_ripe, w_room, w_tables⟩
theorem atStart : AtStart classFile x code maxLocals ret World_1 tables_1 room_1 Calls_1 rest_1 Pre_1 launch0 p0 e0 about1 theMethod args0 below0 :=
  ⟨lists_1, trivial, launch0.admits_env _ _ _, launch0.least_env, fairChoices_fair.cas, fairChoices_fair.clock, w_frames, w_args, w_heap, w_applies, trivial, trivial, w_case⟩
end start1
theorem witness_1 : WitnessClaimed_1 := ⟨start1.p0, start1.e0, start1.about1, start1.theMethod, start1.args0, start1.below0, start1.atStart⟩
end Jvm.Pilot.@@N@@
