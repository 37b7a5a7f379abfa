import JvmDerived
import JvmDerived.Pilot.@@N@@Statement
import JvmDerived.Pilot.@@N@@Code
set_option linter.unusedVariables false
set_option linter.unusedSimpArgs false
namespace Jvm.Pilot.@@N@@
open Jvm Jvm.ClassFile Sem Op Lib Jvm.Free Jvm.Stand Jvm.LawKit Jvm.RoadKit Bundle Jvm.Pilot.@@N@@.Jvm.D
section OwnKit
variable {p : Program} {l : Launch} {e : Env} {R : Room} {s : State} {m : MethodId} {args : Array Value} {below : List Frame} {meth : Method} {c : Code} {T : State} {locs : List Loc} {cells slots : Nat}
theorem own_retI (X : Stand p l e R s m args below meth c T locs cells slots) (hx : p.tables.exec = Jvm.exec) {pc : Nat} {Ls : Array Slot} {z : Int32} {rest : List Value} (hret : meth.sig.returnType = some .int) (hd : decode c.code pc = .ok (.ireturn, 1)) {fs : List Frame}
    (hl : ∀ (f : JFrame) (acts : List Action), f.method = m → f.locked = none → f.entered = [] → (doReturn e (T.setTop f) acts (some (.int z))).1 = T.setFrames fs) : Steps p.tables e below (T.setTop (mkF m pc Ls (.int z :: rest))) (T.setFrames fs) := by
  have hm' : T.vm.method? m = some meth := X.method'
  have hn : narrow .int (.int z) = .int z := rfl
  show Steps p.tables e below (T.setTop { method := m, pc := pc, locals := Ls, stack := _ :: rest, locked := none }) _
  jvm_step X.here [X.here.top, hx, hd, hm', hret, hn]
  first | (intro acts; rw [hl _ acts rfl rfl rfl]) | rw [hl _ _ rfl rfl rfl]
  exact Steps.refl _
theorem own_retJ (X : Stand p l e R s m args below meth c T locs cells slots) (hx : p.tables.exec = Jvm.exec) {pc : Nat} {Ls : Array Slot} {z : Int64} {rest : List Value} (hret : meth.sig.returnType = some .long) (hd : decode c.code pc = .ok (.lreturn, 1)) {fs : List Frame}
    (hl : ∀ (f : JFrame) (acts : List Action), f.method = m → f.locked = none → f.entered = [] → (doReturn e (T.setTop f) acts (some (.long z))).1 = T.setFrames fs) : Steps p.tables e below (T.setTop (mkF m pc Ls (.long z :: rest))) (T.setFrames fs) := by
  have hm' : T.vm.method? m = some meth := X.method'
  have hn : narrow .long (.long z) = .long z := rfl
  show Steps p.tables e below (T.setTop { method := m, pc := pc, locals := Ls, stack := _ :: rest, locked := none }) _
  jvm_step X.here [X.here.top, hx, hd, hm', hret, hn]
  first | (intro acts; rw [hl _ acts rfl rfl rfl]) | rw [hl _ _ rfl rfl rfl]
  exact Steps.refl _
theorem own_retA (X : Stand p l e R s m args below meth c T locs cells slots) (hx : p.tables.exec = Jvm.exec) {pc : Nat} {Ls : Array Slot} {w : Value} {t : FieldType} {rest : List Value} (hret : meth.sig.returnType = some t) (ht : t.isReference = true) (hw : w.isRef = true) (hd : decode c.code pc = .ok (.areturn, 1)) {fs : List Frame}
    (hl : ∀ (f : JFrame) (acts : List Action), f.method = m → f.locked = none → f.entered = [] → (doReturn e (T.setTop f) acts (some w)).1 = T.setFrames fs) : Steps p.tables e below (T.setTop (mkF m pc Ls (w :: rest))) (T.setFrames fs) :=
  retOut X hx hret (by cases t <;> first | (cases ht; done) | (cases w <;> first | rfl | (cases hw; done))) (Or.inr (Or.inr (Or.inr (Or.inr ⟨rfl, ht, hw⟩)))) hd hl
/-- the run from S ends, returned, as Q says -/
def OwnR (p : Program) (e : Env) (below : List Frame) (s : State) (Q : Option Value → Heap → List Loc → Prop) (kc ks : Nat) (S : State) : Prop :=
  ∃ s₂ o, Steps p.tables e below S s₂ ∧ s₂.status = .running ∧ Ended s₂ below o ∧ ∃ v L, o = .returned v ∧ Q v s₂.heap L ∧ FrameEnd s o s₂ L kc ks
theorem OwnR.of {Q : Option Value → Heap → List Loc → Prop} {kc ks : Nat} {S S' : State} (k : ∀ t, Steps p.tables e below S' t → Steps p.tables e below S t) (h : OwnR p e below s Q kc ks S') : OwnR p e below s Q kc ks S := by
  obtain ⟨a, o, h1, h2⟩ := h
  exact ⟨a, o, k a h1, h2⟩
theorem own_leafI (X : Stand p l e R s m args below meth c T locs cells slots) (hx : p.tables.exec = Jvm.exec) (hlk : meth.locks = false) (hret : meth.sig.returnType = some .int) {Q : Option Value → Heap → List Loc → Prop} {kc ks pc : Nat} {Ls : Array Slot} {z : Int32} {rest : List Value} (hd : decode c.code pc = .ok (.ireturn, 1)) (hk : cells ≤ kc) (hs : slots ≤ ks) (hQ : Q (some (.int z)) T.heap locs) :
    OwnR p e below s Q kc ks (T.setTop (mkF m pc Ls (.int z :: rest))) := by
  obtain ⟨fs, hr, hrun, hended, hW, hsame⟩ := X.leave (v := some (.int z)) (fun h => by rw [hret] at h; cases h) hlk
  exact ⟨_, _, own_retI X hx hret hd hr, hrun, hended, _, _, rfl, hQ, ⟨_, rfl⟩, hW, hsame.mono hk hs⟩
theorem own_leafN (X : Stand p l e R s m args below meth c T locs cells slots) (hx : p.tables.exec = Jvm.exec) (hlk : meth.locks = false) {t : FieldType} (hret : meth.sig.returnType = some t) (ht : t = .boolean ∨ t = .byte ∨ t = .char ∨ t = .short) {Q : Option Value → Heap → List Loc → Prop} {kc ks pc : Nat} {Ls : Array Slot} {z z' : Int32} {rest : List Value} (hd : decode c.code pc = .ok (.ireturn, 1)) (hz : nar t z = z') (hk : cells ≤ kc) (hs : slots ≤ ks) (hQ : Q (some (.int z')) T.heap locs) :
    OwnR p e below s Q kc ks (T.setTop (mkF m pc Ls (.int z :: rest))) := by
  subst hz
  obtain ⟨fs, hr, hrun, hended, hW, hsame⟩ := X.leave (v := some (.int (nar t z))) (fun h => by rw [hret] at h; cases h) hlk
  exact ⟨_, _, retN X hx hret ht hd hr, hrun, hended, _, _, rfl, hQ, ⟨_, rfl⟩, hW, hsame.mono hk hs⟩
theorem own_leafJ (X : Stand p l e R s m args below meth c T locs cells slots) (hx : p.tables.exec = Jvm.exec) (hlk : meth.locks = false) (hret : meth.sig.returnType = some .long) {Q : Option Value → Heap → List Loc → Prop} {kc ks pc : Nat} {Ls : Array Slot} {z : Int64} {rest : List Value} (hd : decode c.code pc = .ok (.lreturn, 1)) (hk : cells ≤ kc) (hs : slots ≤ ks) (hQ : Q (some (.long z)) T.heap locs) :
    OwnR p e below s Q kc ks (T.setTop (mkF m pc Ls (.long z :: rest))) := by
  obtain ⟨fs, hr, hrun, hended, hW, hsame⟩ := X.leave (v := some (.long z)) (fun h => by rw [hret] at h; cases h) hlk
  exact ⟨_, _, own_retJ X hx hret hd hr, hrun, hended, _, _, rfl, hQ, ⟨_, rfl⟩, hW, hsame.mono hk hs⟩
theorem own_leafA (X : Stand p l e R s m args below meth c T locs cells slots) (hx : p.tables.exec = Jvm.exec) (hlk : meth.locks = false) {t : FieldType} (hret : meth.sig.returnType = some t) (ht : t.isReference = true) {Q : Option Value → Heap → List Loc → Prop} {kc ks pc : Nat} {Ls : Array Slot} {w : Value} (hw : w.isRef = true) {rest : List Value} (hd : decode c.code pc = .ok (.areturn, 1)) (hk : cells ≤ kc) (hs : slots ≤ ks) (hQ : Q (some w) T.heap locs) :
    OwnR p e below s Q kc ks (T.setTop (mkF m pc Ls (w :: rest))) := by
  obtain ⟨fs, hr, hrun, hended, hW, hsame⟩ := X.leave (v := some w) (fun h => by rw [hret] at h; cases h) hlk
  exact ⟨_, _, own_retA X hx hret ht hw hd hr, hrun, hended, _, _, rfl, hQ, ⟨_, rfl⟩, hW, hsame.mono hk hs⟩
theorem own_leafV (X : Stand p l e R s m args below meth c T locs cells slots) (hx : p.tables.exec = Jvm.exec) (hlk : meth.locks = false) (hret : meth.sig.returnType = none) {Q : Option Value → Heap → List Loc → Prop} {kc ks pc : Nat} {Ls : Array Slot} (hd : decode c.code pc = .ok (.return_, 1)) (hk : cells ≤ kc) (hs : slots ≤ ks) (hQ : Q none T.heap locs) :
    OwnR p e below s Q kc ks (T.setTop (mkF m pc Ls [])) := by
  obtain ⟨fs, hr, hrun, hended, hW, hsame⟩ := X.leave (v := none) (fun _ => rfl) hlk
  exact ⟨_, _, X.returnOut hx hret hd hr, hrun, hended, _, _, rfl, hQ, ⟨_, rfl⟩, hW, hsame.mono hk hs⟩
theorem own_sta {Z : State} {h h' : Heap} {C n d : String} {v : Value} (F : Sta Z h C n d v) (K : Keep h h' []) : Sta Z h' C n d v := by
  obtain ⟨cf, i, k, f, st, cell, h1, h2, h3, h4, h5, r⟩ := F
  exact ⟨cf, i, k, f, st, cell, h1, h2, h3, h4, K.2.1 _ _ h5 nin0, r⟩
theorem own_arr {Z : State} {h h' : Heap} {a : Addr} {c : Cell} {ty : FieldType} {ws : List Addr} (A : Arr Z h a c ty) (K : Keep h h' ws) (q : a ∉ ws) : Arr Z h' a c ty := ⟨K.2.1 _ _ A.1 q, A.2⟩
theorem own_lclt (a b : Int64) : lcmpW a b < 0 ↔ a < b := by
  obtain ⟨h1, h2, h3⟩ := c_lcmp a b
  have e1 := @Int64.lt_iff_toInt_lt a b
  have e2 := @Int32.lt_iff_toInt_lt (lcmpW a b) 0
  have e0 : (0 : Int32).toInt = 0 := by decide
  rw [e1, e2, e0]; omega
theorem own_lcgt (a b : Int64) : 0 < lcmpW a b ↔ b < a := by
  obtain ⟨h1, h2, h3⟩ := c_lcmp a b
  have e1 := @Int64.lt_iff_toInt_lt b a
  have e2 := @Int32.lt_iff_toInt_lt 0 (lcmpW a b)
  have e0 : (0 : Int32).toInt = 0 := by decide
  rw [e1, e2, e0]; omega
theorem own_lceq (a b : Int64) : lcmpW a b = 0 ↔ a = b := by
  obtain ⟨h1, h2, h3⟩ := c_lcmp a b
  have e0 : (0 : Int32).toInt = 0 := by decide
  rw [← Int64.toInt_inj, ← Int32.toInt_inj, e0]; omega
end OwnKit
def own_turns (u r l : Int32) : Int32 := if 0 < u then (if l.toInt64 < u.toInt64 + r.toInt64 then 1 else 0) else 0
def own_exp (u r l : Int32) : Int32 := if 0 < u then (if l.toInt64 - u.toInt64 < r.toInt64 then 1 else 0) else 0
theorem own_law (u r l : Int32) : own_turns u r l = own_exp u r l := by
  have q : (l.toInt64 < u.toInt64 + r.toInt64) ↔ (l.toInt64 - u.toInt64 < r.toInt64) := by
    rw [Int64.lt_iff_toInt_lt, Int64.lt_iff_toInt_lt]
    have a := c_ladd u.toInt64 r.toInt64; have b := c_lsub l.toInt64 u.toInt64
    have u1 := c_i2l u; have r1 := c_i2l r; have l1 := c_i2l l
    have u2 := Int32.le_toInt u; have u3 := Int32.toInt_lt u; have r2 := Int32.le_toInt r; have r3 := Int32.toInt_lt r; have l2 := Int32.le_toInt l; have l3 := Int32.toInt_lt l
    have x1 := Int64.le_toInt (u.toInt64 + r.toInt64); have x2 := Int64.toInt_lt (u.toInt64 + r.toInt64); have y1 := Int64.le_toInt (l.toInt64 - u.toInt64); have y2 := Int64.toInt_lt (l.toInt64 - u.toInt64)
    omega
  simp only [own_turns, own_exp, q]
def own_imin (x y : Int32) : Int32 := if y < x then y else x
/-- the class C has its Class object at mr -/
def OwnMir (Z : State) (C : String) (mr : Addr) : Prop := ∃ (c : ClassId) (k : Class), Z.vm.findClass C = some c ∧ Z.vm.classes[c]? = some k ∧ k.mirror = some mr
section OwnMirror
variable {p : Program} {l : Launch} {e : Env} {R : Room} {s : State} {m : MethodId} {args : Array Value} {below : List Frame} {meth : Method} {c : Code} {T : State} {locs : List Loc} {cells slots : Nat} {Z : State} {h : Heap} {a0 : Array Value}
theorem OwnMir.at {C : String} {mr : Addr} (hZ : Z.Warmed39 s.vm) (M : OwnMir Z C mr) : ∃ (c : ClassId) (k : Class), s.vm.findClass C = some c ∧ s.vm.classes[c]? = some k ∧ k.mirror = some mr := by
  obtain ⟨c, k, h1, h2, h3⟩ := M
  obtain ⟨k', q, ek⟩ := hZ.alike.2.2 _ _ h2
  exact ⟨c, k', by rw [hZ.alike.findClass]; exact h1, q, by rw [ek]; exact h3⟩
theorem own_gcls (X : Stand p l e R s m args below meth c T locs cells slots) (hx : p.tables.exec = Jvm.exec) (hZ : Z.Warmed39 s.vm) {own C : String} {index : Nat} (hown : s.vm.findClass own = some m.cls)
    (w1 : (Jvm.Cond.methodLink own index Jvm.Stand.gcN).before a0 Z = true) (w2 : (Jvm.Cond.declares Jvm.Stand.gcN).before a0 Z = true) (w4 : (Jvm.Cond.selects C Jvm.Stand.gcN Jvm.Stand.gcN).before a0 Z = true) (w5 : (Jvm.Cond.instanceMethod Jvm.Stand.gcN).before a0 Z = true) (w6 : (Jvm.Cond.native Jvm.Stand.gcN).before a0 Z = true) (eT : T.heap = h) {a : Addr} (E : Exa Z h a C) {mr : Addr} (M : OwnMir Z C mr)
    {g : JFrame} (hg : g.method = m) (hsize : g.locals.size = c.maxLocals) {rest : List Value} (hs : g.stack = .ref a :: rest) (hd : decode c.code g.pc = .ok (.invokevirtual index, 3)) (hf : 1 ≤ R.frames) {W : Nat} (hW : 2 * g.monitorRoom + (rest.map fun v => v.category).sum ≤ W) (hl : W + (nativeFrameWords "java/lang/Object" "getClass" 1 + 11) ≤ R.locals) :
    ∃ T', Stand p l e R s m args below meth c T' locs cells slots ∧ T'.heap = h ∧ ∀ target, Steps p.tables e below (T'.setTop { g with pc := g.pc + 3, stack := .ref mr :: rest }) target → Steps p.tables e below (T.setTop g) target := by
  obtain ⟨cB, kB, i1, i2, i3⟩ := isOf hZ eT E
  obtain ⟨cc, kc, m1, m2, m3⟩ := M.at hZ
  cases i1.symm.trans m1
  obtain ⟨vm', X', st⟩ := X.getClassOf hx hown (mvT hZ w1) (mvT hZ w2) (notFace_of_selects (args := #[]) (mvT hZ w4)) (mvT hZ w4) (mvT hZ w5) (mvT hZ w6) m1 i3 m2 m3 hg hsize hs hd hf (Nat.le_trans (Nat.add_le_add_right hW _) hl)
  exact ⟨_, X', eT, st⟩
theorem own_ldcM (X : Stand p l e R s m args below meth c T locs cells slots) (hx : p.tables.exec = Jvm.exec) (hZ : Z.Warmed39 s.vm) {own C : String} {index : Nat} (hown : s.vm.findClass own = some m.cls) (w : (Jvm.Cond.classLink own index C).before a0 Z = true) (eT : T.heap = h) {mr : Addr} (M : OwnMir Z C mr)
    {g : JFrame} (hg : g.method = m) (hd : decode c.code g.pc = .ok (.ldc index, 2)) :
    ∃ T', Stand p l e R s m args below meth c T' locs cells slots ∧ T'.heap = h ∧ ∀ target, Steps p.tables e below (T'.setTop { g with pc := g.pc + 2, stack := .ref mr :: g.stack }) target → Steps p.tables e below (T.setTop g) target := by
  obtain ⟨cc, kc, m1, m2, m3⟩ := M.at hZ
  obtain ⟨vm', X', st⟩ := X.ldcMirror (a := mr) hx hown (mvT hZ w) (by simp [Jvm.Term.eval, m1, m2, m3]) hg hd
  exact ⟨_, X', eT, st⟩
end OwnMirror
theorem ef_rmMin (m : MethodId) (x0 : Int32) (x1 : Int32) : entryFrame m #[(.int x0), (.int x1)] 2 = mkF m 0 #[.val (.int x0), .val (.int x1)] [] := by first | (simp [entryFrame, mkF, argsToLocals, Value.category]; done) | rfl
theorem d8_0 : decode jdk_29_method_69_code 0 = .ok (.iload_n 0, 1) := by decide +kernel
theorem d8_1 : decode jdk_29_method_69_code 1 = .ok (.iload_n 1, 1) := by decide +kernel
theorem d8_2 : decode jdk_29_method_69_code 2 = .ok (.if_icmp .gt 7, 3) := by decide +kernel
theorem d8_9 : decode jdk_29_method_69_code 9 = .ok (.iload_n 1, 1) := by decide +kernel
theorem d8_10 : decode jdk_29_method_69_code 10 = .ok (.ireturn, 1) := by decide +kernel
theorem d8_5 : decode jdk_29_method_69_code 5 = .ok (.iload_n 0, 1) := by decide +kernel
theorem d8_6 : decode jdk_29_method_69_code 6 = .ok (.goto 4, 3) := by decide +kernel
def QMin (Z : State) (p1 : Int32) (p2 : Int32) (h0 : Heap) (n0 : Nat) (v : Option Value) (h : Heap) (L : List Loc) : Prop := v = some (.int (own_imin p1 p2)) ∧ Fr n0 L ∧ h = h0
set_option maxRecDepth 65536 in
set_option maxHeartbeats 40000000 in
theorem rmMin (l : Launch) (Z : State) (a0 : Array Value) (hw : ∀ d ∈ tables_1, d.before a0 Z = true) (ws : List Jvm.Cond) (p1 : Int32) (p2 : Int32) (h0 : Heap) (n0 : Nat) (Z0 : n0 ≤ h0.size) :
    MetFree l (⟨"java/lang/Math", "min", "(II)I"⟩ : MethodName) (head1 (Jvm.Cond.code (⟨"java/lang/Math", "min", "(II)I"⟩ : MethodName) jdk_29_method_69_code 2 (some .int) :: ws) ({ frames := 0, cells := 0, slots := 0, locals := 0 } : Room)) (fun a U => a = #[(.int p1), (.int p2)] ∧ Z.Warmed39 U.vm ∧ U.heap = h0) (fun _ _ _ _ _ => True) (fun _ U o U' => ∃ v L, o = .returned v ∧ QMin Z p1 p2 h0 n0 v U'.heap L ∧ FrameEnd U o U' L ({ frames := 0, cells := 0, slots := 0, locals := 0 } : Room).cells ({ frames := 0, cells := 0, slots := 0, locals := 0 } : Room).slots) := by
  refine MetFree.of_bodySF (Jvm.Free.JP.mathPlain rfl (by decide +kernel)) hisR ?_
  intro p e s m args below meth c s₁ Bd hml0 hP hK
  obtain ⟨rfl, hZ, hh⟩ := hP
  have hx := Bd.exec
  have hby := Bd.bytes
  have hlk := BodyLoose.notSynchronized Bd
  have hml : c.maxLocals = 2 := hml0
  have hown : s.vm.findClass "java/lang/Math" = some m.cls := findClass_of_methodNamed Bd.named
  have hnm := (name_of_methodNamed Bd.named Bd.method).1
  have X0 : Stand p l e ({ frames := 0, cells := 0, slots := 0, locals := 0 } : Room) s m #[(.int p1), (.int p2)] below meth c s₁ [] 0 0 := Stand.of_body Bd
  have e0 : s₁.heap = h0 := by rw [← hh, Bd.state]; rfl
  have N0 := Fr.nil n0
  refine OwnR.of (s := s) (Q := QMin Z p1 p2 h0 n0) (fun t k => castTop (ef_rmMin m p1 p2) k) ?_
  show OwnR _ _ _ _ _ _ _ (s₁.setTop (mkF m 0 #[.val (.int p1), .val (.int p2)] []))
  refine OwnR.of (fun _ hr => XS.iloadN X0.here hx rfl (hb hby d8_0) rfl hr) ?_
  show OwnR _ _ _ _ _ _ _ (s₁.setTop (mkF m 1 #[.val (.int p1), .val (.int p2)] [(.int p1)]))
  refine OwnR.of (fun _ hr => XS.iloadN X0.here hx rfl (hb hby d8_1) rfl hr) ?_
  show OwnR _ _ _ _ _ _ _ (s₁.setTop (mkF m 2 #[.val (.int p1), .val (.int p2)] [(.int p2), (.int p1)]))
  by_cases hc2_3 : p2 < p1
  · skip
    refine OwnR.of (fun _ hr => XS.icmpYes X0.here hx rfl (pc0 := 2) (pc' := 9) rfl (hb hby d8_2) rfl (tlt hc2_3).2.2.1 (by decide) (by decide) hr) ?_
    show OwnR _ _ _ _ _ _ _ (s₁.setTop (mkF m 9 #[.val (.int p1), .val (.int p2)] []))
    refine OwnR.of (fun _ hr => XS.iloadN X0.here hx rfl (hb hby d8_9) rfl hr) ?_
    show OwnR _ _ _ _ _ _ _ (s₁.setTop (mkF m 10 #[.val (.int p1), .val (.int p2)] [(.int p2)]))
    refine own_leafI X0 hx hlk Bd.returns (hb hby d8_10) (by decide) (by decide) ?_
    show QMin Z p1 p2 h0 n0 _ s₁.heap _
    rw [show s₁.heap = h0 from e0]
    refine ⟨?_, N0, rfl⟩
    show (some (.int p2) : Option Value) = some (.int (own_imin p1 p2))
    simp only [own_imin, if_pos hc2_3]
  · skip
    refine OwnR.of (fun _ hr => XS.icmpNo X0.here hx rfl (hb hby d8_2) rfl (flt hc2_3).2.2.1 hr) ?_
    show OwnR _ _ _ _ _ _ _ (s₁.setTop (mkF m 5 #[.val (.int p1), .val (.int p2)] []))
    refine OwnR.of (fun _ hr => XS.iloadN X0.here hx rfl (hb hby d8_5) rfl hr) ?_
    show OwnR _ _ _ _ _ _ _ (s₁.setTop (mkF m 6 #[.val (.int p1), .val (.int p2)] [(.int p1)]))
    refine OwnR.of (fun _ hr => XS.goto X0.here hx rfl (pc0 := 6) (pc' := 10) rfl (hb hby d8_6) (by decide) (by decide) hr) ?_
    show OwnR _ _ _ _ _ _ _ (s₁.setTop (mkF m 10 #[.val (.int p1), .val (.int p2)] [(.int p1)]))
    refine own_leafI X0 hx hlk Bd.returns (hb hby d8_10) (by decide) (by decide) ?_
    show QMin Z p1 p2 h0 n0 _ s₁.heap _
    rw [show s₁.heap = h0 from e0]
    refine ⟨?_, N0, rfl⟩
    show (some (.int p1) : Option Value) = some (.int (own_imin p1 p2))
    simp only [own_imin, if_neg hc2_3]
theorem pn_java_util_Arrays : plainName "java/util/Arrays" = true := by first | (simp [plainName, overriddenIn]; done) | decide +kernel
theorem ef_rmC3_1 (m : MethodId) (x0 : Addr) (x2 : Addr) : entryFrame m #[(.ref x0), (.int (2 : Int32)), (.ref x2)] 4 = mkF m 0 #[.val (.ref x0), .val (.int (2 : Int32)), .val (.ref x2), .unset] [] := by first | (simp [entryFrame, mkF, argsToLocals, Value.category]; done) | rfl
theorem d7_0 : decode jdk_65_method_120_code 0 = .ok (.aload_n 2, 1) := by decide +kernel
theorem d7_1 : decode jdk_65_method_120_code 1 = .ok (.ldc 110, 2) := by decide +kernel
theorem d7_3 : decode jdk_65_method_120_code 3 = .ok (.if_acmp .ne 10, 3) := by decide +kernel
theorem d7_6 : decode jdk_65_method_120_code 6 = .ok (.iload_n 1, 1) := by decide +kernel
theorem d7_7 : decode jdk_65_method_120_code 7 = .ok (.anewarray 2, 3) := by decide +kernel
theorem d7_10 : decode jdk_65_method_120_code 10 = .ok (.goto 14, 3) := by decide +kernel
theorem d7_24 : decode jdk_65_method_120_code 24 = .ok (.astore_n 3, 1) := by decide +kernel
theorem d7_25 : decode jdk_65_method_120_code 25 = .ok (.aload_n 0, 1) := by decide +kernel
theorem d7_26 : decode jdk_65_method_120_code 26 = .ok (.iconst 0, 1) := by decide +kernel
theorem d7_27 : decode jdk_65_method_120_code 27 = .ok (.aload_n 3, 1) := by decide +kernel
theorem d7_28 : decode jdk_65_method_120_code 28 = .ok (.iconst 0, 1) := by decide +kernel
theorem d7_29 : decode jdk_65_method_120_code 29 = .ok (.aload_n 0, 1) := by decide +kernel
theorem d7_30 : decode jdk_65_method_120_code 30 = .ok (.arraylength, 1) := by decide +kernel
theorem d7_31 : decode jdk_65_method_120_code 31 = .ok (.iload_n 1, 1) := by decide +kernel
theorem d7_32 : decode jdk_65_method_120_code 32 = .ok (.invokestatic 304, 3) := by decide +kernel
theorem pd__II_I : parseMethodDescriptor "(II)I" = some ⟨[.int, .int], some .int⟩ := by decide +kernel
theorem d7_35 : decode jdk_65_method_120_code 35 = .ok (.invokestatic 150, 3) := by decide +kernel
theorem d7_38 : decode jdk_65_method_120_code 38 = .ok (.aload_n 3, 1) := by decide +kernel
theorem d7_39 : decode jdk_65_method_120_code 39 = .ok (.areturn, 1) := by decide +kernel
def QC3_1 (Z : State) (el0 : Addr) (h0 : Heap) (n0 : Nat) (v : Option Value) (h : Heap) (L : List Loc) : Prop := ∃ (b : Addr) (kb : ClassId), v = some (.ref b) ∧ Fr n0 L ∧ Keep h0 h [] ∧ Arv Z h b kb (.object "java/lang/Object") (2 : Int32) [(.ref el0), .null] .null ∧ Ovr Z kb "java/lang/Object" ∧ Exa Z h b "[Ljava/lang/Object;" ∧ h0.size ≤ b ∧ n0 ≤ b
set_option maxRecDepth 65536 in
set_option maxHeartbeats 40000000 in
theorem rmC3_1 (l : Launch) (Z : State) (a0 : Array Value) (hw : ∀ d ∈ tables_1, d.before a0 Z = true) (ws : List Jvm.Cond) (a1 : Addr) (mo : Addr) (k1 : ClassId) (el0 : Addr) (h0 : Heap) (n0 : Nat) (Z0 : n0 ≤ h0.size) (V_a1 : Arv Z h0 a1 k1 (.object "java/lang/Object") (1 : Int32) [(.ref el0)] .null) (E_a1 : Exa Z h0 a1 "[Ljava/lang/Object;") (E_el0 : Exa Z h0 el0 "[I") (M_mo : OwnMir Z "[Ljava/lang/Object;" mo) :
    MetFree l (⟨"java/util/Arrays", "copyOf", "([Ljava/lang/Object;ILjava/lang/Class;)[Ljava/lang/Object;"⟩ : MethodName) (head1 (Jvm.Cond.code (⟨"java/util/Arrays", "copyOf", "([Ljava/lang/Object;ILjava/lang/Class;)[Ljava/lang/Object;"⟩ : MethodName) jdk_65_method_120_code 4 (some (.array (.object "java/lang/Object"))) :: ws) ({ frames := 1, cells := 1, slots := 2, locals := 48 } : Room)) (fun a U => a = #[(.ref a1), (.int (2 : Int32)), (.ref mo)] ∧ Z.Warmed39 U.vm ∧ U.heap = h0) (fun _ _ _ _ _ => True) (fun _ U o U' => ∃ v L, o = .returned v ∧ QC3_1 Z el0 h0 n0 v U'.heap L ∧ FrameEnd U o U' L ({ frames := 1, cells := 1, slots := 2, locals := 48 } : Room).cells ({ frames := 1, cells := 1, slots := 2, locals := 48 } : Room).slots) := by
  refine MetFree.of_bodySF (plainFor_of_name pn_java_util_Arrays) hisR ?_
  intro p e s m args below meth c s₁ Bd hml0 hP hK
  obtain ⟨rfl, hZ, hh⟩ := hP
  have hx := Bd.exec
  have hby := Bd.bytes
  have hlk := BodyLoose.notSynchronized Bd
  have hml : c.maxLocals = 4 := hml0
  have hown : s.vm.findClass "java/util/Arrays" = some m.cls := findClass_of_methodNamed Bd.named
  have hnm := (name_of_methodNamed Bd.named Bd.method).1
  have X0 : Stand p l e ({ frames := 1, cells := 1, slots := 2, locals := 48 } : Room) s m #[(.ref a1), (.int (2 : Int32)), (.ref mo)] below meth c s₁ [] 0 0 := Stand.of_body Bd
  have e0 : s₁.heap = h0 := by rw [← hh, Bd.state]; rfl
  have N0 := Fr.nil n0
  refine OwnR.of (s := s) (Q := QC3_1 Z el0 h0 n0) (fun t k => castTop (ef_rmC3_1 m a1 mo) k) ?_
  show OwnR _ _ _ _ _ _ _ (s₁.setTop (mkF m 0 #[.val (.ref a1), .val (.int (2 : Int32)), .val (.ref mo), .unset] []))
  refine OwnR.of (fun _ hr => XS.aloadN X0.here hx rfl (hb hby d7_0) rfl rfl hr) ?_
  show OwnR _ _ _ _ _ _ _ (s₁.setTop (mkF m 1 #[.val (.ref a1), .val (.int (2 : Int32)), .val (.ref mo), .unset] [(.ref mo)]))
  obtain ⟨T1, X1, e1, st1⟩ := own_ldcM X0 hx hZ hown (hw _ (List.mem_of_getElem? (i := 52) rfl)) e0 M_mo (g := (mkF m 1 #[.val (.ref a1), .val (.int (2 : Int32)), .val (.ref mo), .unset] [(.ref mo)])) rfl (hb hby d7_1)
  refine OwnR.of (st1) ?_
  show OwnR _ _ _ _ _ _ _ (T1.setTop (mkF m 3 #[.val (.ref a1), .val (.int (2 : Int32)), .val (.ref mo), .unset] [(.ref mo), (.ref mo)]))
  refine OwnR.of (fun _ hr => Jvm.RoadKit.acmp (g := (mkF m 3 #[.val (.ref a1), .val (.int (2 : Int32)), .val (.ref mo), .unset] [(.ref mo), (.ref mo)])) X1 hx rfl rfl rfl (pc0 := 3) (pc' := 6) (same := true) rfl (hb hby d7_3) rfl (decide_eq_true rfl) (by decide) (by decide) hr) ?_
  show OwnR _ _ _ _ _ _ _ (T1.setTop (mkF m 6 #[.val (.ref a1), .val (.int (2 : Int32)), .val (.ref mo), .unset] []))
  refine OwnR.of (fun _ hr => XS.iloadN X1.here hx rfl (hb hby d7_6) rfl hr) ?_
  show OwnR _ _ _ _ _ _ _ (T1.setTop (mkF m 7 #[.val (.ref a1), .val (.int (2 : Int32)), .val (.ref mo), .unset] [(.int (2 : Int32))]))
  obtain ⟨T2, h2, k2, X2, e2, E2, A2, AE2, O2, st2⟩ := newRE X1 hx hZ hown (hw _ (List.mem_of_getElem? (i := 53) rfl)) (hw _ (List.mem_of_getElem? (i := 17) rfl)) e1 (g := (mkF m 7 #[.val (.ref a1), .val (.int (2 : Int32)), .val (.ref mo), .unset] [(.int (2 : Int32))])) rfl (hb hby d7_7) rfl (by decide) (cap := 2) (by decide) (by decide) (by decide) (by decide) (ad := "[Ljava/lang/Object;") rfl
  obtain ⟨b2, g2⟩ : ∃ z, z = h0.size := ⟨_, rfl⟩
  rw [← g2] at A2 AE2 st2
  refine OwnR.of (st2) ?_
  have gn_b2 : n0 ≤ b2 := Nat.le_trans (Nat.le_trans Z0 (Keep.refl h0 []).1) (Nat.le_of_eq g2.symm)
  have sz_b2 : h0.size ≤ b2 := Nat.le_trans (Keep.refl h0 []).1 (Nat.le_of_eq g2.symm)
  have K2 : Keep h0 h2 [] := Keep.ext (Keep.refl h0 []) E2
  have V2 : Arv Z h2 b2 k2 (.object "java/lang/Object") (2 : Int32) [.null, .null] .null := (Arv.new A2 (by decide)).pad (pad_rep [] .null 2)
  show OwnR _ _ _ _ _ _ _ (T2.setTop (mkF m 10 #[.val (.ref a1), .val (.int (2 : Int32)), .val (.ref mo), .unset] [(.ref b2)]))
  refine OwnR.of (fun _ hr => XS.goto X2.here hx rfl (pc0 := 10) (pc' := 24) rfl (hb hby d7_10) (by decide) (by decide) hr) ?_
  show OwnR _ _ _ _ _ _ _ (T2.setTop (mkF m 24 #[.val (.ref a1), .val (.int (2 : Int32)), .val (.ref mo), .unset] [(.ref b2)]))
  refine OwnR.of (fun _ hr => XS.astoreN X2.here hx rfl (hb hby d7_24) rfl rfl (l' := #[.val (.ref a1), .val (.int (2 : Int32)), .val (.ref mo), .val (.ref b2)]) rfl hr) ?_
  show OwnR _ _ _ _ _ _ _ (T2.setTop (mkF m 25 #[.val (.ref a1), .val (.int (2 : Int32)), .val (.ref mo), .val (.ref b2)] []))
  refine OwnR.of (fun _ hr => XS.aloadN X2.here hx rfl (hb hby d7_25) rfl rfl hr) ?_
  show OwnR _ _ _ _ _ _ _ (T2.setTop (mkF m 26 #[.val (.ref a1), .val (.int (2 : Int32)), .val (.ref mo), .val (.ref b2)] [(.ref a1)]))
  refine OwnR.of (fun _ hr => XS.iconst X2.here hx rfl (hb hby d7_26) hr) ?_
  show OwnR _ _ _ _ _ _ _ (T2.setTop (mkF m 27 #[.val (.ref a1), .val (.int (2 : Int32)), .val (.ref mo), .val (.ref b2)] [(.int (0 : Int32)), (.ref a1)]))
  refine OwnR.of (fun _ hr => XS.aloadN X2.here hx rfl (hb hby d7_27) rfl rfl hr) ?_
  show OwnR _ _ _ _ _ _ _ (T2.setTop (mkF m 28 #[.val (.ref a1), .val (.int (2 : Int32)), .val (.ref mo), .val (.ref b2)] [(.ref b2), (.int (0 : Int32)), (.ref a1)]))
  refine OwnR.of (fun _ hr => XS.iconst X2.here hx rfl (hb hby d7_28) hr) ?_
  show OwnR _ _ _ _ _ _ _ (T2.setTop (mkF m 29 #[.val (.ref a1), .val (.int (2 : Int32)), .val (.ref mo), .val (.ref b2)] [(.int (0 : Int32)), (.ref b2), (.int (0 : Int32)), (.ref a1)]))
  refine OwnR.of (fun _ hr => XS.aloadN X2.here hx rfl (hb hby d7_29) rfl rfl hr) ?_
  show OwnR _ _ _ _ _ _ _ (T2.setTop (mkF m 30 #[.val (.ref a1), .val (.int (2 : Int32)), .val (.ref mo), .val (.ref b2)] [(.ref a1), (.int (0 : Int32)), (.ref b2), (.int (0 : Int32)), (.ref a1)]))
  obtain ⟨cl3, Ar3, -, S3, N3, -, -⟩ := id (Arv.keep V_a1 K2 nin0)
  refine OwnR.of (X2.arraylength hx (by rw [e2]; exact Ar3.1) (State.isArrayOf_alike hZ.alike Ar3.2.1) (g := (mkF m 30 #[.val (.ref a1), .val (.int (2 : Int32)), .val (.ref mo), .val (.ref b2)] [(.ref a1), (.int (0 : Int32)), (.ref b2), (.int (0 : Int32)), (.ref a1)])) rfl rfl (hb hby d7_30)) ?_
  show OwnR _ _ _ _ _ _ _ (T2.setTop (mkF m 31 #[.val (.ref a1), .val (.int (2 : Int32)), .val (.ref mo), .val (.ref b2)] [(.int cl3.slots.size.toInt32), (.int (0 : Int32)), (.ref b2), (.int (0 : Int32)), (.ref a1)]))
  rw [len_of S3 N3]
  show OwnR _ _ _ _ _ _ _ (T2.setTop (mkF m 31 #[.val (.ref a1), .val (.int (2 : Int32)), .val (.ref mo), .val (.ref b2)] [(.int (1 : Int32)), (.int (0 : Int32)), (.ref b2), (.int (0 : Int32)), (.ref a1)]))
  refine OwnR.of (fun _ hr => XS.iloadN X2.here hx rfl (hb hby d7_31) rfl hr) ?_
  show OwnR _ _ _ _ _ _ _ (T2.setTop (mkF m 32 #[.val (.ref a1), .val (.int (2 : Int32)), .val (.ref mo), .val (.ref b2)] [(.int (2 : Int32)), (.int (1 : Int32)), (.int (0 : Int32)), (.ref b2), (.int (0 : Int32)), (.ref a1)]))
  obtain ⟨_, _, ⟨T4, L4, kc4, ns4⟩, -, X4, ⟨Lc4, hQ4, l4, y4, z4⟩, st4⟩ := Jvm.LawKit.callS X2 hx (y := (⟨"java/lang/Math", "min", "(II)I"⟩ : MethodName)) hown (mvT hZ (hw _ (List.mem_of_getElem? (i := 54) rfl))) (mvT hZ (hw _ (List.mem_of_getElem? (i := 55) rfl))) (mvT hZ (hw _ (List.mem_of_getElem? (i := 56) rfl))) (mvT hZ (hw _ (List.mem_of_getElem? (i := 57) rfl))) (by decide) (backOf (W := 4) (rmMin l Z a0 hw [] (1 : Int32) (2 : Int32) h2 n0 (Nat.le_trans Z0 K2.1) ) hZ (hw _ (List.mem_of_getElem? (i := 57) rfl)) (hw _ (List.mem_of_getElem? (i := 56) rfl)) (by decide) (by decide)) (g := (mkF m 32 #[.val (.ref a1), .val (.int (2 : Int32)), .val (.ref mo), .val (.ref b2)] [(.int (2 : Int32)), (.int (1 : Int32)), (.int (0 : Int32)), (.ref b2), (.int (0 : Int32)), (.ref a1)])) rfl (by rw [hml]; rfl) (argsL := [(.int (1 : Int32)), (.int (2 : Int32))]) (rest := [(.int (0 : Int32)), (.ref b2), (.int (0 : Int32)), (.ref a1)]) (lenOf pd__II_I rfl) rfl (by show 2 * 0 + _ ≤ _; exact Nat.le_of_eq rfl) (hb hby d7_32) (fun _ _ => ⟨rfl, e2, (by decide : 1 + 0 ≤ _), (by decide : 2 + 0 ≤ _)⟩)
  dsimp only [Pt.U, Pt.locs, Pt.cells, Pt.slots] at X4 l4 y4 z4 st4 hQ4
  subst l4 y4 z4
  obtain ⟨rfl, N4q, e4⟩ := hQ4
  have N4 := Fr.app N0 N4q
  refine OwnR.of (st4) ?_
  show OwnR _ _ _ _ _ _ _ (T4.setTop (mkF m 35 #[.val (.ref a1), .val (.int (2 : Int32)), .val (.ref mo), .val (.ref b2)] [(.int (own_imin (1 : Int32) (2 : Int32))), (.int (0 : Int32)), (.ref b2), (.int (0 : Int32)), (.ref a1)]))
  rw [(by decide : (own_imin (1 : Int32) (2 : Int32)) = (1 : Int32))]
  show OwnR _ _ _ _ _ _ _ (T4.setTop (mkF m 35 #[.val (.ref a1), .val (.int (2 : Int32)), .val (.ref mo), .val (.ref b2)] [(.int (1 : Int32)), (.int (0 : Int32)), (.ref b2), (.int (0 : Int32)), (.ref a1)]))
  obtain ⟨cd5, Ard5, qd5, -⟩ := id V2
  obtain ⟨T5, h5, L5, X5, e5, N5, Kp5, V5, st5⟩ := cpA X4 hx hZ hown (hw _ (List.mem_of_getElem? (i := 58) rfl)) (hw _ (List.mem_of_getElem? (i := 61) rfl)) (hw _ (List.mem_of_getElem? (i := 59) rfl)) (hw _ (List.mem_of_getElem? (i := 60) rfl)) e4 (Arv.keep V_a1 K2 nin0) V2 (Or.inr ⟨rfl, rfl, ⟨Sto.ofV Ard5 qd5 O2 (Ins.of_exa (Exa.keep E_el0 K2) (hw _ (List.mem_of_getElem? (i := 18) rfl))), trivial⟩⟩) (us := [(.ref el0)]) (by decide) (by decide) (by decide) (by decide) (by decide) rfl (by decide) N4 gn_b2 (g := (mkF m 35 #[.val (.ref a1), .val (.int (2 : Int32)), .val (.ref mo), .val (.ref b2)] [(.int (1 : Int32)), (.int (0 : Int32)), (.ref b2), (.int (0 : Int32)), (.ref a1)])) rfl (by rw [hml]; rfl) rfl (hb hby d7_35) (by decide) (W := 0) (by show 2 * 0 + _ ≤ _; exact Nat.le_of_eq rfl) (by decide)
  refine OwnR.of (st5) ?_
  have K5 : Keep h0 h5 [] := Keep.trans K2 Kp5 (allS (Or.inr sz_b2) all0)
  have V5 : Arv Z h5 b2 k2 (.object "java/lang/Object") (2 : Int32) [(.ref el0), .null] .null := V5
  show OwnR _ _ _ _ _ _ _ (T5.setTop (mkF m 38 #[.val (.ref a1), .val (.int (2 : Int32)), .val (.ref mo), .val (.ref b2)] []))
  refine OwnR.of (fun _ hr => XS.aloadN X5.here hx rfl (hb hby d7_38) rfl rfl hr) ?_
  show OwnR _ _ _ _ _ _ _ (T5.setTop (mkF m 39 #[.val (.ref a1), .val (.int (2 : Int32)), .val (.ref mo), .val (.ref b2)] [(.ref b2)]))
  refine own_leafA X5 hx hlk Bd.returns rfl rfl (hb hby d7_39) (by decide) (by decide) ?_
  show QC3_1 Z el0 h0 n0 _ T5.heap _
  rw [show T5.heap = h5 from e5]
  refine ⟨b2, k2, ?_, N5, ⟨K5, V5, O2, (AE2.keep Kp5), sz_b2, gn_b2⟩⟩
  show (some (.ref b2) : Option Value) = some (.ref b2)
  rfl
theorem ef_rmC2_1 (m : MethodId) (x0 : Addr) : entryFrame m #[(.ref x0), (.int (2 : Int32))] 2 = mkF m 0 #[.val (.ref x0), .val (.int (2 : Int32))] [] := by first | (simp [entryFrame, mkF, argsToLocals, Value.category]; done) | rfl
theorem d6_0 : decode jdk_65_method_119_code 0 = .ok (.aload_n 0, 1) := by decide +kernel
theorem d6_1 : decode jdk_65_method_119_code 1 = .ok (.iload_n 1, 1) := by decide +kernel
theorem d6_2 : decode jdk_65_method_119_code 2 = .ok (.aload_n 0, 1) := by decide +kernel
theorem d6_3 : decode jdk_65_method_119_code 3 = .ok (.invokevirtual 86, 3) := by decide +kernel
theorem d6_6 : decode jdk_65_method_119_code 6 = .ok (.invokestatic 300, 3) := by decide +kernel
theorem pd___Ljava_lang_Object_ILjava_lang_Class___Ljava_lang_Object_ : parseMethodDescriptor "([Ljava/lang/Object;ILjava/lang/Class;)[Ljava/lang/Object;" = some ⟨[(.array (.object "java/lang/Object")), .int, (.object "java/lang/Class")], some (.array (.object "java/lang/Object"))⟩ := by decide +kernel
theorem d6_9 : decode jdk_65_method_119_code 9 = .ok (.areturn, 1) := by decide +kernel
def QC2_1 (Z : State) (el0 : Addr) (h0 : Heap) (n0 : Nat) (v : Option Value) (h : Heap) (L : List Loc) : Prop := ∃ (b : Addr) (kb : ClassId), v = some (.ref b) ∧ Fr n0 L ∧ Keep h0 h [] ∧ Arv Z h b kb (.object "java/lang/Object") (2 : Int32) [(.ref el0), .null] .null ∧ Ovr Z kb "java/lang/Object" ∧ Exa Z h b "[Ljava/lang/Object;" ∧ h0.size ≤ b ∧ n0 ≤ b
set_option maxRecDepth 65536 in
set_option maxHeartbeats 40000000 in
theorem rmC2_1 (l : Launch) (Z : State) (a0 : Array Value) (hw : ∀ d ∈ tables_1, d.before a0 Z = true) (ws : List Jvm.Cond) (a1 : Addr) (k1 : ClassId) (el0 : Addr) (mo : Addr) (h0 : Heap) (n0 : Nat) (Z0 : n0 ≤ h0.size) (V_a1 : Arv Z h0 a1 k1 (.object "java/lang/Object") (1 : Int32) [(.ref el0)] .null) (E_a1 : Exa Z h0 a1 "[Ljava/lang/Object;") (E_el0 : Exa Z h0 el0 "[I") (M_mo : OwnMir Z "[Ljava/lang/Object;" mo) :
    MetFree l (⟨"java/util/Arrays", "copyOf", "([Ljava/lang/Object;I)[Ljava/lang/Object;"⟩ : MethodName) (head1 (Jvm.Cond.code (⟨"java/util/Arrays", "copyOf", "([Ljava/lang/Object;I)[Ljava/lang/Object;"⟩ : MethodName) jdk_65_method_119_code 2 (some (.array (.object "java/lang/Object"))) :: ws) ({ frames := 2, cells := 1, slots := 2, locals := 64 } : Room)) (fun a U => a = #[(.ref a1), (.int (2 : Int32))] ∧ Z.Warmed39 U.vm ∧ U.heap = h0) (fun _ _ _ _ _ => True) (fun _ U o U' => ∃ v L, o = .returned v ∧ QC2_1 Z el0 h0 n0 v U'.heap L ∧ FrameEnd U o U' L ({ frames := 2, cells := 1, slots := 2, locals := 64 } : Room).cells ({ frames := 2, cells := 1, slots := 2, locals := 64 } : Room).slots) := by
  refine MetFree.of_bodySF (plainFor_of_name pn_java_util_Arrays) hisR ?_
  intro p e s m args below meth c s₁ Bd hml0 hP hK
  obtain ⟨rfl, hZ, hh⟩ := hP
  have hx := Bd.exec
  have hby := Bd.bytes
  have hlk := BodyLoose.notSynchronized Bd
  have hml : c.maxLocals = 2 := hml0
  have hown : s.vm.findClass "java/util/Arrays" = some m.cls := findClass_of_methodNamed Bd.named
  have hnm := (name_of_methodNamed Bd.named Bd.method).1
  have X0 : Stand p l e ({ frames := 2, cells := 1, slots := 2, locals := 64 } : Room) s m #[(.ref a1), (.int (2 : Int32))] below meth c s₁ [] 0 0 := Stand.of_body Bd
  have e0 : s₁.heap = h0 := by rw [← hh, Bd.state]; rfl
  have N0 := Fr.nil n0
  refine OwnR.of (s := s) (Q := QC2_1 Z el0 h0 n0) (fun t k => castTop (ef_rmC2_1 m a1) k) ?_
  show OwnR _ _ _ _ _ _ _ (s₁.setTop (mkF m 0 #[.val (.ref a1), .val (.int (2 : Int32))] []))
  refine OwnR.of (fun _ hr => XS.aloadN X0.here hx rfl (hb hby d6_0) rfl rfl hr) ?_
  show OwnR _ _ _ _ _ _ _ (s₁.setTop (mkF m 1 #[.val (.ref a1), .val (.int (2 : Int32))] [(.ref a1)]))
  refine OwnR.of (fun _ hr => XS.iloadN X0.here hx rfl (hb hby d6_1) rfl hr) ?_
  show OwnR _ _ _ _ _ _ _ (s₁.setTop (mkF m 2 #[.val (.ref a1), .val (.int (2 : Int32))] [(.int (2 : Int32)), (.ref a1)]))
  refine OwnR.of (fun _ hr => XS.aloadN X0.here hx rfl (hb hby d6_2) rfl rfl hr) ?_
  show OwnR _ _ _ _ _ _ _ (s₁.setTop (mkF m 3 #[.val (.ref a1), .val (.int (2 : Int32))] [(.ref a1), (.int (2 : Int32)), (.ref a1)]))
  obtain ⟨T1, X1, e1, st1⟩ := own_gcls X0 hx hZ hown (hw _ (List.mem_of_getElem? (i := 43) rfl)) (hw _ (List.mem_of_getElem? (i := 44) rfl)) (hw _ (List.mem_of_getElem? (i := 46) rfl)) (hw _ (List.mem_of_getElem? (i := 45) rfl)) (hw _ (List.mem_of_getElem? (i := 47) rfl)) e0 E_a1 M_mo (g := (mkF m 3 #[.val (.ref a1), .val (.int (2 : Int32))] [(.ref a1), (.int (2 : Int32)), (.ref a1)])) rfl (by rw [hml]; rfl) rfl (hb hby d6_3) (by decide) (W := 2) (by show 2 * 0 + _ ≤ _; exact Nat.le_of_eq rfl) (by decide)
  refine OwnR.of (st1) ?_
  show OwnR _ _ _ _ _ _ _ (T1.setTop (mkF m 6 #[.val (.ref a1), .val (.int (2 : Int32))] [(.ref mo), (.int (2 : Int32)), (.ref a1)]))
  obtain ⟨_, _, ⟨T2, L2, kc2, ns2⟩, -, X2, ⟨Lc2, hQ2, l2, y2, z2⟩, st2⟩ := Jvm.LawKit.callS X1 hx (y := (⟨"java/util/Arrays", "copyOf", "([Ljava/lang/Object;ILjava/lang/Class;)[Ljava/lang/Object;"⟩ : MethodName)) hown (mvT hZ (hw _ (List.mem_of_getElem? (i := 49) rfl))) (mvT hZ (hw _ (List.mem_of_getElem? (i := 50) rfl))) (mvT hZ (hw _ (List.mem_of_getElem? (i := 41) rfl))) (mvT hZ (hw _ (List.mem_of_getElem? (i := 51) rfl))) (by decide) (backOf (W := 0) (rmC3_1 l Z a0 hw [] a1 mo k1 el0 h0 n0 (Nat.le_trans Z0 (Keep.refl h0 []).1) V_a1 E_a1 E_el0 M_mo) hZ (hw _ (List.mem_of_getElem? (i := 51) rfl)) (hw _ (List.mem_of_getElem? (i := 41) rfl)) (by decide) (by decide)) (g := (mkF m 6 #[.val (.ref a1), .val (.int (2 : Int32))] [(.ref mo), (.int (2 : Int32)), (.ref a1)])) rfl (by rw [hml]; rfl) (argsL := [(.ref a1), (.int (2 : Int32)), (.ref mo)]) (rest := []) (lenOf pd___Ljava_lang_Object_ILjava_lang_Class___Ljava_lang_Object_ rfl) rfl (by show 2 * 0 + _ ≤ _; exact Nat.le_of_eq rfl) (hb hby d6_6) (fun _ _ => ⟨rfl, e1, (by decide : 0 + 1 ≤ _), (by decide : 0 + 2 ≤ _)⟩)
  dsimp only [Pt.U, Pt.locs, Pt.cells, Pt.slots] at X2 l2 y2 z2 st2 hQ2
  subst l2 y2 z2
  obtain ⟨b_2, kb_2, rfl, N2q, P2_0, P2_1, P2_2, P2_3, P2_4, P2_5⟩ := hQ2
  have K2 : Keep h0 T2.heap [] := Keep.trans (Keep.refl h0 []) P2_0 all0
  have sz_b_2 : h0.size ≤ b_2 := Nat.le_trans (Keep.refl h0 []).1 P2_4
  have N2 := Fr.app N0 N2q
  refine OwnR.of (st2) ?_
  show OwnR _ _ _ _ _ _ _ (T2.setTop (mkF m 9 #[.val (.ref a1), .val (.int (2 : Int32))] [(.ref b_2)]))
  refine own_leafA X2 hx hlk Bd.returns rfl rfl (hb hby d6_9) (by decide) (by decide) ?_
  show QC2_1 Z el0 h0 n0 _ T2.heap _
  skip
  refine ⟨b_2, kb_2, ?_, N2, ⟨K2, P2_1, P2_2, P2_3, sz_b_2, P2_5⟩⟩
  show (some (.ref b_2) : Option Value) = some (.ref b_2)
  rfl
theorem ef_rmCI_1 (m : MethodId) (x0 : Addr) : entryFrame m #[(.ref x0), (.int (2 : Int32))] 3 = mkF m 0 #[.val (.ref x0), .val (.int (2 : Int32)), .unset] [] := by first | (simp [entryFrame, mkF, argsToLocals, Value.category]; done) | rfl
theorem d9_0 : decode jdk_65_method_123_code 0 = .ok (.iload_n 1, 1) := by decide +kernel
theorem d9_1 : decode jdk_65_method_123_code 1 = .ok (.aload_n 0, 1) := by decide +kernel
theorem d9_2 : decode jdk_65_method_123_code 2 = .ok (.arraylength, 1) := by decide +kernel
theorem d9_3 : decode jdk_65_method_123_code 3 = .ok (.if_icmp .ne 11, 3) := by decide +kernel
theorem d9_14 : decode jdk_65_method_123_code 14 = .ok (.iload_n 1, 1) := by decide +kernel
theorem d9_15 : decode jdk_65_method_123_code 15 = .ok (.newarray .int, 2) := by decide +kernel
theorem d9_17 : decode jdk_65_method_123_code 17 = .ok (.astore_n 2, 1) := by decide +kernel
theorem d9_18 : decode jdk_65_method_123_code 18 = .ok (.aload_n 0, 1) := by decide +kernel
theorem d9_19 : decode jdk_65_method_123_code 19 = .ok (.iconst 0, 1) := by decide +kernel
theorem d9_20 : decode jdk_65_method_123_code 20 = .ok (.aload_n 2, 1) := by decide +kernel
theorem d9_21 : decode jdk_65_method_123_code 21 = .ok (.iconst 0, 1) := by decide +kernel
theorem d9_22 : decode jdk_65_method_123_code 22 = .ok (.aload_n 0, 1) := by decide +kernel
theorem d9_23 : decode jdk_65_method_123_code 23 = .ok (.arraylength, 1) := by decide +kernel
theorem d9_24 : decode jdk_65_method_123_code 24 = .ok (.iload_n 1, 1) := by decide +kernel
theorem d9_25 : decode jdk_65_method_123_code 25 = .ok (.invokestatic 304, 3) := by decide +kernel
theorem d9_28 : decode jdk_65_method_123_code 28 = .ok (.invokestatic 150, 3) := by decide +kernel
theorem d9_31 : decode jdk_65_method_123_code 31 = .ok (.aload_n 2, 1) := by decide +kernel
theorem d9_32 : decode jdk_65_method_123_code 32 = .ok (.areturn, 1) := by decide +kernel
def QCI_1 (Z : State) (f0 : Int32) (h0 : Heap) (n0 : Nat) (v : Option Value) (h : Heap) (L : List Loc) : Prop := ∃ (b : Addr) (kb : ClassId), v = some (.ref b) ∧ Fr n0 L ∧ Keep h0 h [] ∧ Arv Z h b kb .int (2 : Int32) [(.int f0), (.int (0 : Int32))] (.int (0 : Int32)) ∧ h0.size ≤ b ∧ n0 ≤ b
set_option maxRecDepth 65536 in
set_option maxHeartbeats 40000000 in
theorem rmCI_1 (l : Launch) (Z : State) (a0 : Array Value) (hw : ∀ d ∈ tables_1, d.before a0 Z = true) (ws : List Jvm.Cond) (a1 : Addr) (k1 : ClassId) (f0 : Int32) (h0 : Heap) (n0 : Nat) (Z0 : n0 ≤ h0.size) (V_a1 : Arv Z h0 a1 k1 .int (1 : Int32) [(.int f0)] (.int (0 : Int32))) :
    MetFree l (⟨"java/util/Arrays", "copyOf", "([II)[I"⟩ : MethodName) (head1 (Jvm.Cond.code (⟨"java/util/Arrays", "copyOf", "([II)[I"⟩ : MethodName) jdk_65_method_123_code 3 (some (.array .int)) :: ws) ({ frames := 1, cells := 1, slots := 2, locals := 48 } : Room)) (fun a U => a = #[(.ref a1), (.int (2 : Int32))] ∧ Z.Warmed39 U.vm ∧ U.heap = h0) (fun _ _ _ _ _ => True) (fun _ U o U' => ∃ v L, o = .returned v ∧ QCI_1 Z f0 h0 n0 v U'.heap L ∧ FrameEnd U o U' L ({ frames := 1, cells := 1, slots := 2, locals := 48 } : Room).cells ({ frames := 1, cells := 1, slots := 2, locals := 48 } : Room).slots) := by
  refine MetFree.of_bodySF (plainFor_of_name pn_java_util_Arrays) hisR ?_
  intro p e s m args below meth c s₁ Bd hml0 hP hK
  obtain ⟨rfl, hZ, hh⟩ := hP
  have hx := Bd.exec
  have hby := Bd.bytes
  have hlk := BodyLoose.notSynchronized Bd
  have hml : c.maxLocals = 3 := hml0
  have hown : s.vm.findClass "java/util/Arrays" = some m.cls := findClass_of_methodNamed Bd.named
  have hnm := (name_of_methodNamed Bd.named Bd.method).1
  have X0 : Stand p l e ({ frames := 1, cells := 1, slots := 2, locals := 48 } : Room) s m #[(.ref a1), (.int (2 : Int32))] below meth c s₁ [] 0 0 := Stand.of_body Bd
  have e0 : s₁.heap = h0 := by rw [← hh, Bd.state]; rfl
  have N0 := Fr.nil n0
  refine OwnR.of (s := s) (Q := QCI_1 Z f0 h0 n0) (fun t k => castTop (ef_rmCI_1 m a1) k) ?_
  show OwnR _ _ _ _ _ _ _ (s₁.setTop (mkF m 0 #[.val (.ref a1), .val (.int (2 : Int32)), .unset] []))
  refine OwnR.of (fun _ hr => XS.iloadN X0.here hx rfl (hb hby d9_0) rfl hr) ?_
  show OwnR _ _ _ _ _ _ _ (s₁.setTop (mkF m 1 #[.val (.ref a1), .val (.int (2 : Int32)), .unset] [(.int (2 : Int32))]))
  refine OwnR.of (fun _ hr => XS.aloadN X0.here hx rfl (hb hby d9_1) rfl rfl hr) ?_
  show OwnR _ _ _ _ _ _ _ (s₁.setTop (mkF m 2 #[.val (.ref a1), .val (.int (2 : Int32)), .unset] [(.ref a1), (.int (2 : Int32))]))
  obtain ⟨cl1, Ar1, -, S1, N1, -, -⟩ := id V_a1
  refine OwnR.of (X0.arraylength hx (by rw [e0]; exact Ar1.1) (State.isArrayOf_alike hZ.alike Ar1.2.1) (g := (mkF m 2 #[.val (.ref a1), .val (.int (2 : Int32)), .unset] [(.ref a1), (.int (2 : Int32))])) rfl rfl (hb hby d9_2)) ?_
  show OwnR _ _ _ _ _ _ _ (s₁.setTop (mkF m 3 #[.val (.ref a1), .val (.int (2 : Int32)), .unset] [(.int cl1.slots.size.toInt32), (.int (2 : Int32))]))
  rw [len_of S1 N1]
  show OwnR _ _ _ _ _ _ _ (s₁.setTop (mkF m 3 #[.val (.ref a1), .val (.int (2 : Int32)), .unset] [(.int (1 : Int32)), (.int (2 : Int32))]))
  refine OwnR.of (fun _ hr => XS.icmpYes X0.here hx rfl (pc0 := 3) (pc' := 14) rfl (hb hby d9_3) rfl (feq (by decide : ¬ ((2 : Int32) = (1 : Int32)))).2 (by decide) (by decide) hr) ?_
  show OwnR _ _ _ _ _ _ _ (s₁.setTop (mkF m 14 #[.val (.ref a1), .val (.int (2 : Int32)), .unset] []))
  refine OwnR.of (fun _ hr => XS.iloadN X0.here hx rfl (hb hby d9_14) rfl hr) ?_
  show OwnR _ _ _ _ _ _ _ (s₁.setTop (mkF m 15 #[.val (.ref a1), .val (.int (2 : Int32)), .unset] [(.int (2 : Int32))]))
  obtain ⟨T2, h2, k2, X2, e2, E2, A2, AE2, st2⟩ := newPE X0 hx hZ (hw _ (List.mem_of_getElem? (i := 3) rfl)) e0 (g := (mkF m 15 #[.val (.ref a1), .val (.int (2 : Int32)), .unset] [(.int (2 : Int32))])) rfl (hb hby d9_15) rfl (by decide) (cap := 2) (by decide) (by decide) (by decide) (by decide) (ad := "[I") rfl
  obtain ⟨b2, g2⟩ : ∃ z, z = h0.size := ⟨_, rfl⟩
  rw [← g2] at A2 AE2 st2
  refine OwnR.of (st2) ?_
  have gn_b2 : n0 ≤ b2 := Nat.le_trans (Nat.le_trans Z0 (Keep.refl h0 []).1) (Nat.le_of_eq g2.symm)
  have sz_b2 : h0.size ≤ b2 := Nat.le_trans (Keep.refl h0 []).1 (Nat.le_of_eq g2.symm)
  have K2 : Keep h0 h2 [] := Keep.ext (Keep.refl h0 []) E2
  have V2 : Arv Z h2 b2 k2 .int (2 : Int32) [(.int (0 : Int32)), (.int (0 : Int32))] (.int (0 : Int32)) := (Arv.new A2 (by decide)).pad (pad_rep [] (.int (0 : Int32)) 2)
  show OwnR _ _ _ _ _ _ _ (T2.setTop (mkF m 17 #[.val (.ref a1), .val (.int (2 : Int32)), .unset] [(.ref b2)]))
  refine OwnR.of (fun _ hr => XS.astoreN X2.here hx rfl (hb hby d9_17) rfl rfl (l' := #[.val (.ref a1), .val (.int (2 : Int32)), .val (.ref b2)]) rfl hr) ?_
  show OwnR _ _ _ _ _ _ _ (T2.setTop (mkF m 18 #[.val (.ref a1), .val (.int (2 : Int32)), .val (.ref b2)] []))
  refine OwnR.of (fun _ hr => XS.aloadN X2.here hx rfl (hb hby d9_18) rfl rfl hr) ?_
  show OwnR _ _ _ _ _ _ _ (T2.setTop (mkF m 19 #[.val (.ref a1), .val (.int (2 : Int32)), .val (.ref b2)] [(.ref a1)]))
  refine OwnR.of (fun _ hr => XS.iconst X2.here hx rfl (hb hby d9_19) hr) ?_
  show OwnR _ _ _ _ _ _ _ (T2.setTop (mkF m 20 #[.val (.ref a1), .val (.int (2 : Int32)), .val (.ref b2)] [(.int (0 : Int32)), (.ref a1)]))
  refine OwnR.of (fun _ hr => XS.aloadN X2.here hx rfl (hb hby d9_20) rfl rfl hr) ?_
  show OwnR _ _ _ _ _ _ _ (T2.setTop (mkF m 21 #[.val (.ref a1), .val (.int (2 : Int32)), .val (.ref b2)] [(.ref b2), (.int (0 : Int32)), (.ref a1)]))
  refine OwnR.of (fun _ hr => XS.iconst X2.here hx rfl (hb hby d9_21) hr) ?_
  show OwnR _ _ _ _ _ _ _ (T2.setTop (mkF m 22 #[.val (.ref a1), .val (.int (2 : Int32)), .val (.ref b2)] [(.int (0 : Int32)), (.ref b2), (.int (0 : Int32)), (.ref a1)]))
  refine OwnR.of (fun _ hr => XS.aloadN X2.here hx rfl (hb hby d9_22) rfl rfl hr) ?_
  show OwnR _ _ _ _ _ _ _ (T2.setTop (mkF m 23 #[.val (.ref a1), .val (.int (2 : Int32)), .val (.ref b2)] [(.ref a1), (.int (0 : Int32)), (.ref b2), (.int (0 : Int32)), (.ref a1)]))
  obtain ⟨cl3, Ar3, -, S3, N3, -, -⟩ := id (Arv.keep V_a1 K2 nin0)
  refine OwnR.of (X2.arraylength hx (by rw [e2]; exact Ar3.1) (State.isArrayOf_alike hZ.alike Ar3.2.1) (g := (mkF m 23 #[.val (.ref a1), .val (.int (2 : Int32)), .val (.ref b2)] [(.ref a1), (.int (0 : Int32)), (.ref b2), (.int (0 : Int32)), (.ref a1)])) rfl rfl (hb hby d9_23)) ?_
  show OwnR _ _ _ _ _ _ _ (T2.setTop (mkF m 24 #[.val (.ref a1), .val (.int (2 : Int32)), .val (.ref b2)] [(.int cl3.slots.size.toInt32), (.int (0 : Int32)), (.ref b2), (.int (0 : Int32)), (.ref a1)]))
  rw [len_of S3 N3]
  show OwnR _ _ _ _ _ _ _ (T2.setTop (mkF m 24 #[.val (.ref a1), .val (.int (2 : Int32)), .val (.ref b2)] [(.int (1 : Int32)), (.int (0 : Int32)), (.ref b2), (.int (0 : Int32)), (.ref a1)]))
  refine OwnR.of (fun _ hr => XS.iloadN X2.here hx rfl (hb hby d9_24) rfl hr) ?_
  show OwnR _ _ _ _ _ _ _ (T2.setTop (mkF m 25 #[.val (.ref a1), .val (.int (2 : Int32)), .val (.ref b2)] [(.int (2 : Int32)), (.int (1 : Int32)), (.int (0 : Int32)), (.ref b2), (.int (0 : Int32)), (.ref a1)]))
  obtain ⟨_, _, ⟨T4, L4, kc4, ns4⟩, -, X4, ⟨Lc4, hQ4, l4, y4, z4⟩, st4⟩ := Jvm.LawKit.callS X2 hx (y := (⟨"java/lang/Math", "min", "(II)I"⟩ : MethodName)) hown (mvT hZ (hw _ (List.mem_of_getElem? (i := 54) rfl))) (mvT hZ (hw _ (List.mem_of_getElem? (i := 55) rfl))) (mvT hZ (hw _ (List.mem_of_getElem? (i := 56) rfl))) (mvT hZ (hw _ (List.mem_of_getElem? (i := 57) rfl))) (by decide) (backOf (W := 4) (rmMin l Z a0 hw [] (1 : Int32) (2 : Int32) h2 n0 (Nat.le_trans Z0 K2.1) ) hZ (hw _ (List.mem_of_getElem? (i := 57) rfl)) (hw _ (List.mem_of_getElem? (i := 56) rfl)) (by decide) (by decide)) (g := (mkF m 25 #[.val (.ref a1), .val (.int (2 : Int32)), .val (.ref b2)] [(.int (2 : Int32)), (.int (1 : Int32)), (.int (0 : Int32)), (.ref b2), (.int (0 : Int32)), (.ref a1)])) rfl (by rw [hml]; rfl) (argsL := [(.int (1 : Int32)), (.int (2 : Int32))]) (rest := [(.int (0 : Int32)), (.ref b2), (.int (0 : Int32)), (.ref a1)]) (lenOf pd__II_I rfl) rfl (by show 2 * 0 + _ ≤ _; exact Nat.le_of_eq rfl) (hb hby d9_25) (fun _ _ => ⟨rfl, e2, (by decide : 1 + 0 ≤ _), (by decide : 2 + 0 ≤ _)⟩)
  dsimp only [Pt.U, Pt.locs, Pt.cells, Pt.slots] at X4 l4 y4 z4 st4 hQ4
  subst l4 y4 z4
  obtain ⟨rfl, N4q, e4⟩ := hQ4
  have N4 := Fr.app N0 N4q
  refine OwnR.of (st4) ?_
  show OwnR _ _ _ _ _ _ _ (T4.setTop (mkF m 28 #[.val (.ref a1), .val (.int (2 : Int32)), .val (.ref b2)] [(.int (own_imin (1 : Int32) (2 : Int32))), (.int (0 : Int32)), (.ref b2), (.int (0 : Int32)), (.ref a1)]))
  rw [(by decide : (own_imin (1 : Int32) (2 : Int32)) = (1 : Int32))]
  show OwnR _ _ _ _ _ _ _ (T4.setTop (mkF m 28 #[.val (.ref a1), .val (.int (2 : Int32)), .val (.ref b2)] [(.int (1 : Int32)), (.int (0 : Int32)), (.ref b2), (.int (0 : Int32)), (.ref a1)]))
  obtain ⟨T5, h5, L5, X5, e5, N5, Kp5, V5, st5⟩ := cpA X4 hx hZ hown (hw _ (List.mem_of_getElem? (i := 58) rfl)) (hw _ (List.mem_of_getElem? (i := 61) rfl)) (hw _ (List.mem_of_getElem? (i := 59) rfl)) (hw _ (List.mem_of_getElem? (i := 60) rfl)) e4 (Arv.keep V_a1 K2 nin0) V2 (Or.inl ⟨rfl, rfl⟩) (us := [(.int f0)]) (by decide) (by decide) (by decide) (by decide) (by decide) rfl (by decide) N4 gn_b2 (g := (mkF m 28 #[.val (.ref a1), .val (.int (2 : Int32)), .val (.ref b2)] [(.int (1 : Int32)), (.int (0 : Int32)), (.ref b2), (.int (0 : Int32)), (.ref a1)])) rfl (by rw [hml]; rfl) rfl (hb hby d9_28) (by decide) (W := 0) (by show 2 * 0 + _ ≤ _; exact Nat.le_of_eq rfl) (by decide)
  refine OwnR.of (st5) ?_
  have K5 : Keep h0 h5 [] := Keep.trans K2 Kp5 (allS (Or.inr sz_b2) all0)
  have V5 : Arv Z h5 b2 k2 .int (2 : Int32) [(.int f0), (.int (0 : Int32))] (.int (0 : Int32)) := V5
  show OwnR _ _ _ _ _ _ _ (T5.setTop (mkF m 31 #[.val (.ref a1), .val (.int (2 : Int32)), .val (.ref b2)] []))
  refine OwnR.of (fun _ hr => XS.aloadN X5.here hx rfl (hb hby d9_31) rfl rfl hr) ?_
  show OwnR _ _ _ _ _ _ _ (T5.setTop (mkF m 32 #[.val (.ref a1), .val (.int (2 : Int32)), .val (.ref b2)] [(.ref b2)]))
  refine own_leafA X5 hx hlk Bd.returns rfl rfl (hb hby d9_32) (by decide) (by decide) ?_
  show QCI_1 Z f0 h0 n0 _ T5.heap _
  rw [show T5.heap = h5 from e5]
  refine ⟨b2, k2, ?_, N5, ⟨K5, V5, sz_b2, gn_b2⟩⟩
  show (some (.ref b2) : Option Value) = some (.ref b2)
  rfl
theorem pn_com_example_tercet_tercet_core_Pages : plainName "com/example/tercet/tercet/core/Pages" = true := by first | (simp [plainName, overriddenIn]; done) | decide +kernel
theorem ef_rmT_1 (m : MethodId) (x0 : Addr) (x1 : Int32) (x2 : Addr) : entryFrame m #[(.ref x0), (.int x1), (.ref x2)] 3 = mkF m 0 #[.val (.ref x0), .val (.int x1), .val (.ref x2)] [] := by first | (simp [entryFrame, mkF, argsToLocals, Value.category]; done) | rfl
theorem d5_0 : decode prog_34_method_4_code 0 = .ok (.aload_n 0, 1) := by decide +kernel
theorem d5_1 : decode prog_34_method_4_code 1 = .ok (.getfield 28, 3) := by decide +kernel
theorem d5_4 : decode prog_34_method_4_code 4 = .ok (.aload_n 0, 1) := by decide +kernel
theorem d5_5 : decode prog_34_method_4_code 5 = .ok (.getfield 20, 3) := by decide +kernel
theorem d5_8 : decode prog_34_method_4_code 8 = .ok (.arraylength, 1) := by decide +kernel
theorem d5_9 : decode prog_34_method_4_code 9 = .ok (.if_icmp .ne 37, 3) := by decide +kernel
theorem d5_12 : decode prog_34_method_4_code 12 = .ok (.aload_n 0, 1) := by decide +kernel
theorem d5_13 : decode prog_34_method_4_code 13 = .ok (.aload_n 0, 1) := by decide +kernel
theorem d5_14 : decode prog_34_method_4_code 14 = .ok (.getfield 20, 3) := by decide +kernel
theorem d5_17 : decode prog_34_method_4_code 17 = .ok (.iconst 2, 1) := by decide +kernel
theorem d5_18 : decode prog_34_method_4_code 18 = .ok (.aload_n 0, 1) := by decide +kernel
theorem d5_19 : decode prog_34_method_4_code 19 = .ok (.getfield 28, 3) := by decide +kernel
theorem d5_22 : decode prog_34_method_4_code 22 = .ok (.imul, 1) := by decide +kernel
theorem d5_23 : decode prog_34_method_4_code 23 = .ok (.invokestatic 37, 3) := by decide +kernel
theorem pd___Ljava_lang_Object_I__Ljava_lang_Object_ : parseMethodDescriptor "([Ljava/lang/Object;I)[Ljava/lang/Object;" = some ⟨[(.array (.object "java/lang/Object")), .int], some (.array (.object "java/lang/Object"))⟩ := by decide +kernel
theorem d5_26 : decode prog_34_method_4_code 26 = .ok (.putfield 20, 3) := by decide +kernel
theorem d5_29 : decode prog_34_method_4_code 29 = .ok (.aload_n 0, 1) := by decide +kernel
theorem d5_30 : decode prog_34_method_4_code 30 = .ok (.aload_n 0, 1) := by decide +kernel
theorem d5_31 : decode prog_34_method_4_code 31 = .ok (.getfield 24, 3) := by decide +kernel
theorem d5_34 : decode prog_34_method_4_code 34 = .ok (.iconst 2, 1) := by decide +kernel
theorem d5_35 : decode prog_34_method_4_code 35 = .ok (.aload_n 0, 1) := by decide +kernel
theorem d5_36 : decode prog_34_method_4_code 36 = .ok (.getfield 28, 3) := by decide +kernel
theorem d5_39 : decode prog_34_method_4_code 39 = .ok (.imul, 1) := by decide +kernel
theorem d5_40 : decode prog_34_method_4_code 40 = .ok (.invokestatic 43, 3) := by decide +kernel
theorem pd___II__I : parseMethodDescriptor "([II)[I" = some ⟨[(.array .int), .int], some (.array .int)⟩ := by decide +kernel
theorem d5_43 : decode prog_34_method_4_code 43 = .ok (.putfield 24, 3) := by decide +kernel
theorem d5_46 : decode prog_34_method_4_code 46 = .ok (.aload_n 0, 1) := by decide +kernel
theorem d5_47 : decode prog_34_method_4_code 47 = .ok (.getfield 20, 3) := by decide +kernel
theorem d5_50 : decode prog_34_method_4_code 50 = .ok (.aload_n 0, 1) := by decide +kernel
theorem d5_51 : decode prog_34_method_4_code 51 = .ok (.getfield 28, 3) := by decide +kernel
theorem d5_54 : decode prog_34_method_4_code 54 = .ok (.aload_n 2, 1) := by decide +kernel
theorem d5_55 : decode prog_34_method_4_code 55 = .ok (.aastore, 1) := by decide +kernel
theorem d5_56 : decode prog_34_method_4_code 56 = .ok (.aload_n 0, 1) := by decide +kernel
theorem d5_57 : decode prog_34_method_4_code 57 = .ok (.getfield 24, 3) := by decide +kernel
theorem d5_60 : decode prog_34_method_4_code 60 = .ok (.aload_n 0, 1) := by decide +kernel
theorem d5_61 : decode prog_34_method_4_code 61 = .ok (.getfield 28, 3) := by decide +kernel
theorem d5_64 : decode prog_34_method_4_code 64 = .ok (.iload_n 1, 1) := by decide +kernel
theorem d5_65 : decode prog_34_method_4_code 65 = .ok (.iastore, 1) := by decide +kernel
theorem d5_66 : decode prog_34_method_4_code 66 = .ok (.aload_n 0, 1) := by decide +kernel
theorem d5_67 : decode prog_34_method_4_code 67 = .ok (.dup, 1) := by decide +kernel
theorem d5_68 : decode prog_34_method_4_code 68 = .ok (.getfield 28, 3) := by decide +kernel
theorem d5_71 : decode prog_34_method_4_code 71 = .ok (.iconst 1, 1) := by decide +kernel
theorem d5_72 : decode prog_34_method_4_code 72 = .ok (.iadd, 1) := by decide +kernel
theorem d5_73 : decode prog_34_method_4_code 73 = .ok (.putfield 28, 3) := by decide +kernel
theorem d5_76 : decode prog_34_method_4_code 76 = .ok (.aload_n 0, 1) := by decide +kernel
theorem d5_77 : decode prog_34_method_4_code 77 = .ok (.aload_n 0, 1) := by decide +kernel
theorem d5_78 : decode prog_34_method_4_code 78 = .ok (.getfield 7, 3) := by decide +kernel
theorem d5_81 : decode prog_34_method_4_code 81 = .ok (.putfield 13, 3) := by decide +kernel
theorem d5_84 : decode prog_34_method_4_code 84 = .ok (.aload_n 0, 1) := by decide +kernel
theorem d5_85 : decode prog_34_method_4_code 85 = .ok (.aload_n 2, 1) := by decide +kernel
theorem d5_86 : decode prog_34_method_4_code 86 = .ok (.putfield 16, 3) := by decide +kernel
theorem d5_89 : decode prog_34_method_4_code 89 = .ok (.return_, 1) := by decide +kernel
def QT_1 (Z : State) (a1 : Addr) (p2 : Int32) (a3 : Addr) (pl : Int32) (el0 : Addr) (f0 : Int32) (h0 : Heap) (n0 : Nat) (v : Option Value) (h : Heap) (L : List Loc) : Prop := ∃ (b : Addr) (kb : ClassId) (c : Addr) (kc : ClassId), v = none ∧ Fr n0 L ∧ Keep h0 h [a1] ∧ Exa Z h a1 "com/example/tercet/tercet/core/Pages" ∧ Fld Z h a1 "com/example/tercet/tercet/core/Pages" "pageLength" "I" (.int pl) ∧ Fld Z h a1 "com/example/tercet/tercet/core/Pages" "limit" "I" (.int pl) ∧ Fld Z h a1 "com/example/tercet/tercet/core/Pages" "last" "Ljava/lang/Object;" (.ref a3) ∧ Fld Z h a1 "com/example/tercet/tercet/core/Pages" "pages" "[Ljava/lang/Object;" (.ref b) ∧ Fld Z h a1 "com/example/tercet/tercet/core/Pages" "firsts" "[I" (.ref c) ∧ Fld Z h a1 "com/example/tercet/tercet/core/Pages" "count" "I" (.int (2 : Int32)) ∧ Arv Z h b kb (.object "java/lang/Object") (2 : Int32) [(.ref el0), (.ref a3)] .null ∧ Ovr Z kb "java/lang/Object" ∧ Exa Z h b "[Ljava/lang/Object;" ∧ Arv Z h c kc .int (2 : Int32) [(.int f0), (.int p2)] (.int (0 : Int32)) ∧ h0.size ≤ b ∧ n0 ≤ b ∧ h0.size ≤ c ∧ n0 ≤ c
set_option maxRecDepth 65536 in
set_option maxHeartbeats 40000000 in
theorem rmT_1 (l : Launch) (Z : State) (a0 : Array Value) (hw : ∀ d ∈ tables_1, d.before a0 Z = true) (ws : List Jvm.Cond) (a1 : Addr) (p2 : Int32) (a3 : Addr) (pl lm : Int32) (ls bp bf : Addr) (kp kf : ClassId) (el0 : Addr) (f0 : Int32) (mo : Addr) (h0 : Heap) (n0 : Nat) (Z0 : n0 ≤ h0.size) (E_a1 : Exa Z h0 a1 "com/example/tercet/tercet/core/Pages") (F_pageLength_a1 : Fld Z h0 a1 "com/example/tercet/tercet/core/Pages" "pageLength" "I" (.int pl)) (F_limit_a1 : Fld Z h0 a1 "com/example/tercet/tercet/core/Pages" "limit" "I" (.int lm)) (F_last_a1 : Fld Z h0 a1 "com/example/tercet/tercet/core/Pages" "last" "Ljava/lang/Object;" (.ref ls)) (F_pages_a1 : Fld Z h0 a1 "com/example/tercet/tercet/core/Pages" "pages" "[Ljava/lang/Object;" (.ref bp)) (F_firsts_a1 : Fld Z h0 a1 "com/example/tercet/tercet/core/Pages" "firsts" "[I" (.ref bf)) (F_count_a1 : Fld Z h0 a1 "com/example/tercet/tercet/core/Pages" "count" "I" (.int (1 : Int32))) (V_bp : Arv Z h0 bp kp (.object "java/lang/Object") (1 : Int32) [(.ref el0)] .null) (V_bf : Arv Z h0 bf kf .int (1 : Int32) [(.int f0)] (.int (0 : Int32))) (E_bp : Exa Z h0 bp "[Ljava/lang/Object;") (E_a3 : Exa Z h0 a3 "[I") (E_el0 : Exa Z h0 el0 "[I") (M_mo : OwnMir Z "[Ljava/lang/Object;" mo) (g_a1 : n0 ≤ a1) (ne_1p : a1 ≠ bp) (ne_1f : a1 ≠ bf) :
    MetFree l (⟨"com/example/tercet/tercet/core/Pages", "turn", "(ILjava/lang/Object;)V"⟩ : MethodName) (head1 (Jvm.Cond.code (⟨"com/example/tercet/tercet/core/Pages", "turn", "(ILjava/lang/Object;)V"⟩ : MethodName) prog_34_method_4_code 3 none :: ws) ({ frames := 3, cells := 2, slots := 4, locals := 96 } : Room)) (fun a U => a = #[(.ref a1), (.int p2), (.ref a3)] ∧ Z.Warmed39 U.vm ∧ U.heap = h0) (fun _ _ _ _ _ => True) (fun _ U o U' => ∃ v L, o = .returned v ∧ QT_1 Z a1 p2 a3 pl el0 f0 h0 n0 v U'.heap L ∧ FrameEnd U o U' L ({ frames := 3, cells := 2, slots := 4, locals := 96 } : Room).cells ({ frames := 3, cells := 2, slots := 4, locals := 96 } : Room).slots) := by
  refine MetFree.of_bodySF (plainFor_of_name pn_com_example_tercet_tercet_core_Pages) hisR ?_
  intro p e s m args below meth c s₁ Bd hml0 hP hK
  obtain ⟨rfl, hZ, hh⟩ := hP
  have hx := Bd.exec
  have hby := Bd.bytes
  have hlk := BodyLoose.notSynchronized Bd
  have hml : c.maxLocals = 3 := hml0
  have hown : s.vm.findClass "com/example/tercet/tercet/core/Pages" = some m.cls := findClass_of_methodNamed Bd.named
  have hnm := (name_of_methodNamed Bd.named Bd.method).1
  have X0 : Stand p l e ({ frames := 3, cells := 2, slots := 4, locals := 96 } : Room) s m #[(.ref a1), (.int p2), (.ref a3)] below meth c s₁ [] 0 0 := Stand.of_body Bd
  have e0 : s₁.heap = h0 := by rw [← hh, Bd.state]; rfl
  have N0 := Fr.nil n0
  refine OwnR.of (s := s) (Q := QT_1 Z a1 p2 a3 pl el0 f0 h0 n0) (fun t k => castTop (ef_rmT_1 m a1 p2 a3) k) ?_
  show OwnR _ _ _ _ _ _ _ (s₁.setTop (mkF m 0 #[.val (.ref a1), .val (.int p2), .val (.ref a3)] []))
  refine OwnR.of (fun _ hr => XS.aloadN X0.here hx rfl (hb hby d5_0) rfl rfl hr) ?_
  show OwnR _ _ _ _ _ _ _ (s₁.setTop (mkF m 1 #[.val (.ref a1), .val (.int p2), .val (.ref a3)] [(.ref a1)]))
  obtain ⟨T1, X1, e1, st1⟩ := getF X0 hx hZ hown (host := "") (Or.inl (hw _ (List.mem_of_getElem? (i := 23) rfl))) Via.refl e0 F_count_a1 (g := (mkF m 1 #[.val (.ref a1), .val (.int p2), .val (.ref a3)] [(.ref a1)])) rfl rfl (hb hby d5_1)
  refine OwnR.of (st1) ?_
  show OwnR _ _ _ _ _ _ _ (T1.setTop (mkF m 4 #[.val (.ref a1), .val (.int p2), .val (.ref a3)] [(.int (1 : Int32))]))
  refine OwnR.of (fun _ hr => XS.aloadN X1.here hx rfl (hb hby d5_4) rfl rfl hr) ?_
  show OwnR _ _ _ _ _ _ _ (T1.setTop (mkF m 5 #[.val (.ref a1), .val (.int p2), .val (.ref a3)] [(.ref a1), (.int (1 : Int32))]))
  obtain ⟨T2, X2, e2, st2⟩ := getF X1 hx hZ hown (host := "") (Or.inl (hw _ (List.mem_of_getElem? (i := 19) rfl))) Via.refl e1 F_pages_a1 (g := (mkF m 5 #[.val (.ref a1), .val (.int p2), .val (.ref a3)] [(.ref a1), (.int (1 : Int32))])) rfl rfl (hb hby d5_5)
  refine OwnR.of (st2) ?_
  show OwnR _ _ _ _ _ _ _ (T2.setTop (mkF m 8 #[.val (.ref a1), .val (.int p2), .val (.ref a3)] [(.ref bp), (.int (1 : Int32))]))
  obtain ⟨cl3, Ar3, -, S3, N3, -, -⟩ := id V_bp
  refine OwnR.of (X2.arraylength hx (by rw [e2]; exact Ar3.1) (State.isArrayOf_alike hZ.alike Ar3.2.1) (g := (mkF m 8 #[.val (.ref a1), .val (.int p2), .val (.ref a3)] [(.ref bp), (.int (1 : Int32))])) rfl rfl (hb hby d5_8)) ?_
  show OwnR _ _ _ _ _ _ _ (T2.setTop (mkF m 9 #[.val (.ref a1), .val (.int p2), .val (.ref a3)] [(.int cl3.slots.size.toInt32), (.int (1 : Int32))]))
  rw [len_of S3 N3]
  show OwnR _ _ _ _ _ _ _ (T2.setTop (mkF m 9 #[.val (.ref a1), .val (.int p2), .val (.ref a3)] [(.int (1 : Int32)), (.int (1 : Int32))]))
  refine OwnR.of (fun _ hr => XS.icmpNo X2.here hx rfl (hb hby d5_9) rfl (teq (by decide : (1 : Int32) = (1 : Int32))).2 hr) ?_
  show OwnR _ _ _ _ _ _ _ (T2.setTop (mkF m 12 #[.val (.ref a1), .val (.int p2), .val (.ref a3)] []))
  refine OwnR.of (fun _ hr => XS.aloadN X2.here hx rfl (hb hby d5_12) rfl rfl hr) ?_
  show OwnR _ _ _ _ _ _ _ (T2.setTop (mkF m 13 #[.val (.ref a1), .val (.int p2), .val (.ref a3)] [(.ref a1)]))
  refine OwnR.of (fun _ hr => XS.aloadN X2.here hx rfl (hb hby d5_13) rfl rfl hr) ?_
  show OwnR _ _ _ _ _ _ _ (T2.setTop (mkF m 14 #[.val (.ref a1), .val (.int p2), .val (.ref a3)] [(.ref a1), (.ref a1)]))
  obtain ⟨T4, X4, e4, st4⟩ := getF X2 hx hZ hown (host := "") (Or.inl (hw _ (List.mem_of_getElem? (i := 19) rfl))) Via.refl e2 F_pages_a1 (g := (mkF m 14 #[.val (.ref a1), .val (.int p2), .val (.ref a3)] [(.ref a1), (.ref a1)])) rfl rfl (hb hby d5_14)
  refine OwnR.of (st4) ?_
  show OwnR _ _ _ _ _ _ _ (T4.setTop (mkF m 17 #[.val (.ref a1), .val (.int p2), .val (.ref a3)] [(.ref bp), (.ref a1)]))
  refine OwnR.of (fun _ hr => XS.iconst X4.here hx rfl (hb hby d5_17) hr) ?_
  show OwnR _ _ _ _ _ _ _ (T4.setTop (mkF m 18 #[.val (.ref a1), .val (.int p2), .val (.ref a3)] [(.int (2 : Int32)), (.ref bp), (.ref a1)]))
  refine OwnR.of (fun _ hr => XS.aloadN X4.here hx rfl (hb hby d5_18) rfl rfl hr) ?_
  show OwnR _ _ _ _ _ _ _ (T4.setTop (mkF m 19 #[.val (.ref a1), .val (.int p2), .val (.ref a3)] [(.ref a1), (.int (2 : Int32)), (.ref bp), (.ref a1)]))
  obtain ⟨T5, X5, e5, st5⟩ := getF X4 hx hZ hown (host := "") (Or.inl (hw _ (List.mem_of_getElem? (i := 23) rfl))) Via.refl e4 F_count_a1 (g := (mkF m 19 #[.val (.ref a1), .val (.int p2), .val (.ref a3)] [(.ref a1), (.int (2 : Int32)), (.ref bp), (.ref a1)])) rfl rfl (hb hby d5_19)
  refine OwnR.of (st5) ?_
  show OwnR _ _ _ _ _ _ _ (T5.setTop (mkF m 22 #[.val (.ref a1), .val (.int p2), .val (.ref a3)] [(.int (1 : Int32)), (.int (2 : Int32)), (.ref bp), (.ref a1)]))
  refine OwnR.of (fun _ hr => XS.imul X5.here hx rfl (hb hby d5_22) rfl hr) ?_
  show OwnR _ _ _ _ _ _ _ (T5.setTop (mkF m 23 #[.val (.ref a1), .val (.int p2), .val (.ref a3)] [(.int ((2 : Int32) * (1 : Int32))), (.ref bp), (.ref a1)]))
  rw [(by decide : ((2 : Int32) * (1 : Int32)) = (2 : Int32))]
  show OwnR _ _ _ _ _ _ _ (T5.setTop (mkF m 23 #[.val (.ref a1), .val (.int p2), .val (.ref a3)] [(.int (2 : Int32)), (.ref bp), (.ref a1)]))
  obtain ⟨_, _, ⟨T6, L6, kc6, ns6⟩, -, X6, ⟨Lc6, hQ6, l6, y6, z6⟩, st6⟩ := Jvm.LawKit.callS X5 hx (y := (⟨"java/util/Arrays", "copyOf", "([Ljava/lang/Object;I)[Ljava/lang/Object;"⟩ : MethodName)) hown (mvT hZ (hw _ (List.mem_of_getElem? (i := 39) rfl))) (mvT hZ (hw _ (List.mem_of_getElem? (i := 40) rfl))) (mvT hZ (hw _ (List.mem_of_getElem? (i := 41) rfl))) (mvT hZ (hw _ (List.mem_of_getElem? (i := 42) rfl))) (by decide) (backOf (W := 1) (rmC2_1 l Z a0 hw [] bp kp el0 mo h0 n0 (Nat.le_trans Z0 (Keep.refl h0 [a1]).1) V_bp E_bp E_el0 M_mo) hZ (hw _ (List.mem_of_getElem? (i := 42) rfl)) (hw _ (List.mem_of_getElem? (i := 41) rfl)) (by decide) (by decide)) (g := (mkF m 23 #[.val (.ref a1), .val (.int p2), .val (.ref a3)] [(.int (2 : Int32)), (.ref bp), (.ref a1)])) rfl (by rw [hml]; rfl) (argsL := [(.ref bp), (.int (2 : Int32))]) (rest := [(.ref a1)]) (lenOf pd___Ljava_lang_Object_I__Ljava_lang_Object_ rfl) rfl (by show 2 * 0 + _ ≤ _; exact Nat.le_of_eq rfl) (hb hby d5_23) (fun _ _ => ⟨rfl, e5, (by decide : 0 + 1 ≤ _), (by decide : 0 + 2 ≤ _)⟩)
  dsimp only [Pt.U, Pt.locs, Pt.cells, Pt.slots] at X6 l6 y6 z6 st6 hQ6
  subst l6 y6 z6
  obtain ⟨b_6, kb_6, rfl, N6q, P6_0, P6_1, P6_2, P6_3, P6_4, P6_5⟩ := hQ6
  have K6 : Keep h0 T6.heap [a1] := Keep.trans (Keep.refl h0 [a1]) P6_0 all0
  have sz_b_6 : h0.size ≤ b_6 := Nat.le_trans (Keep.refl h0 [a1]).1 P6_4
  have N6 := Fr.app N0 N6q
  refine OwnR.of (st6) ?_
  show OwnR _ _ _ _ _ _ _ (T6.setTop (mkF m 26 #[.val (.ref a1), .val (.int p2), .val (.ref a3)] [(.ref b_6), (.ref a1)]))
  obtain ⟨T7, h7, X7, e7, W7, st7⟩ := putF X6 hx hZ hown (host := "") (Or.inl (hw _ (List.mem_of_getElem? (i := 19) rfl))) Via.refl rfl (F_pages_a1.keep P6_0 nin0) (Exa.keep E_a1 K6) (Or.inl (hw _ (List.mem_of_getElem? (i := 20) rfl))) (hw _ (List.mem_of_getElem? (i := 1) rfl)) (ty := (.array (.object "java/lang/Object"))) (by decide) rfl rfl (g := (mkF m 26 #[.val (.ref a1), .val (.int p2), .val (.ref a3)] [(.ref b_6), (.ref a1)])) rfl rfl (hb hby d5_26)
  refine OwnR.of (st7) ?_
  have F7 := Fld.same W7 (F_pages_a1.keep P6_0 nin0)
  have K7 : Keep h0 h7 [a1] := Keep.wr K6 W7 (Or.inl (List.mem_of_getElem? (i := 0) rfl))
  have N7 := Fr.snoc X7 N6 g_a1
  show OwnR _ _ _ _ _ _ _ (T7.setTop (mkF m 29 #[.val (.ref a1), .val (.int p2), .val (.ref a3)] []))
  refine OwnR.of (fun _ hr => XS.aloadN X7.here hx rfl (hb hby d5_29) rfl rfl hr) ?_
  show OwnR _ _ _ _ _ _ _ (T7.setTop (mkF m 30 #[.val (.ref a1), .val (.int p2), .val (.ref a3)] [(.ref a1)]))
  refine OwnR.of (fun _ hr => XS.aloadN X7.here hx rfl (hb hby d5_30) rfl rfl hr) ?_
  show OwnR _ _ _ _ _ _ _ (T7.setTop (mkF m 31 #[.val (.ref a1), .val (.int p2), .val (.ref a3)] [(.ref a1), (.ref a1)]))
  obtain ⟨T8, X8, e8, st8⟩ := getF X7 hx hZ hown (host := "") (Or.inl (hw _ (List.mem_of_getElem? (i := 21) rfl))) Via.refl e7 (Fld.other W7 (F_firsts_a1.keep P6_0 nin0) (Or.inr (slot_ne (Or.inl (hw _ (List.mem_of_getElem? (i := 22) rfl))) (Or.inl (hw _ (List.mem_of_getElem? (i := 20) rfl))) (by decide) (t := (.array .int)) (t' := (.array (.object "java/lang/Object"))) (by decide) (by decide)))) (g := (mkF m 31 #[.val (.ref a1), .val (.int p2), .val (.ref a3)] [(.ref a1), (.ref a1)])) rfl rfl (hb hby d5_31)
  refine OwnR.of (st8) ?_
  show OwnR _ _ _ _ _ _ _ (T8.setTop (mkF m 34 #[.val (.ref a1), .val (.int p2), .val (.ref a3)] [(.ref bf), (.ref a1)]))
  refine OwnR.of (fun _ hr => XS.iconst X8.here hx rfl (hb hby d5_34) hr) ?_
  show OwnR _ _ _ _ _ _ _ (T8.setTop (mkF m 35 #[.val (.ref a1), .val (.int p2), .val (.ref a3)] [(.int (2 : Int32)), (.ref bf), (.ref a1)]))
  refine OwnR.of (fun _ hr => XS.aloadN X8.here hx rfl (hb hby d5_35) rfl rfl hr) ?_
  show OwnR _ _ _ _ _ _ _ (T8.setTop (mkF m 36 #[.val (.ref a1), .val (.int p2), .val (.ref a3)] [(.ref a1), (.int (2 : Int32)), (.ref bf), (.ref a1)]))
  obtain ⟨T9, X9, e9, st9⟩ := getF X8 hx hZ hown (host := "") (Or.inl (hw _ (List.mem_of_getElem? (i := 23) rfl))) Via.refl e8 (Fld.other W7 (F_count_a1.keep P6_0 nin0) (Or.inr (slot_ne (Or.inl (hw _ (List.mem_of_getElem? (i := 24) rfl))) (Or.inl (hw _ (List.mem_of_getElem? (i := 20) rfl))) (by decide) (t := .int) (t' := (.array (.object "java/lang/Object"))) (by decide) (by decide)))) (g := (mkF m 36 #[.val (.ref a1), .val (.int p2), .val (.ref a3)] [(.ref a1), (.int (2 : Int32)), (.ref bf), (.ref a1)])) rfl rfl (hb hby d5_36)
  refine OwnR.of (st9) ?_
  show OwnR _ _ _ _ _ _ _ (T9.setTop (mkF m 39 #[.val (.ref a1), .val (.int p2), .val (.ref a3)] [(.int (1 : Int32)), (.int (2 : Int32)), (.ref bf), (.ref a1)]))
  refine OwnR.of (fun _ hr => XS.imul X9.here hx rfl (hb hby d5_39) rfl hr) ?_
  show OwnR _ _ _ _ _ _ _ (T9.setTop (mkF m 40 #[.val (.ref a1), .val (.int p2), .val (.ref a3)] [(.int ((2 : Int32) * (1 : Int32))), (.ref bf), (.ref a1)]))
  rw [(by decide : ((2 : Int32) * (1 : Int32)) = (2 : Int32))]
  show OwnR _ _ _ _ _ _ _ (T9.setTop (mkF m 40 #[.val (.ref a1), .val (.int p2), .val (.ref a3)] [(.int (2 : Int32)), (.ref bf), (.ref a1)]))
  obtain ⟨_, _, ⟨T10, L10, kc10, ns10⟩, -, X10, ⟨Lc10, hQ10, l10, y10, z10⟩, st10⟩ := Jvm.LawKit.callS X9 hx (y := (⟨"java/util/Arrays", "copyOf", "([II)[I"⟩ : MethodName)) hown (mvT hZ (hw _ (List.mem_of_getElem? (i := 62) rfl))) (mvT hZ (hw _ (List.mem_of_getElem? (i := 63) rfl))) (mvT hZ (hw _ (List.mem_of_getElem? (i := 41) rfl))) (mvT hZ (hw _ (List.mem_of_getElem? (i := 64) rfl))) (by decide) (backOf (W := 1) (rmCI_1 l Z a0 hw [] bf kf f0 h7 n0 (Nat.le_trans Z0 K7.1) (Arv.keep V_bf K7 (ninS (Ne.symm ne_1f) nin0))) hZ (hw _ (List.mem_of_getElem? (i := 64) rfl)) (hw _ (List.mem_of_getElem? (i := 41) rfl)) (by decide) (by decide)) (g := (mkF m 40 #[.val (.ref a1), .val (.int p2), .val (.ref a3)] [(.int (2 : Int32)), (.ref bf), (.ref a1)])) rfl (by rw [hml]; rfl) (argsL := [(.ref bf), (.int (2 : Int32))]) (rest := [(.ref a1)]) (lenOf pd___II__I rfl) rfl (by show 2 * 0 + _ ≤ _; exact Nat.le_of_eq rfl) (hb hby d5_40) (fun _ _ => ⟨rfl, e9, (by decide : 1 + 1 ≤ _), (by decide : 2 + 2 ≤ _)⟩)
  dsimp only [Pt.U, Pt.locs, Pt.cells, Pt.slots] at X10 l10 y10 z10 st10 hQ10
  subst l10 y10 z10
  obtain ⟨b_10, kb_10, rfl, N10q, P10_0, P10_1, P10_2, P10_3⟩ := hQ10
  have K10 : Keep h0 T10.heap [a1] := Keep.trans K7 P10_0 all0
  have sz_b_10 : h0.size ≤ b_10 := Nat.le_trans K7.1 P10_2
  have N10 := Fr.app N7 N10q
  refine OwnR.of (st10) ?_
  show OwnR _ _ _ _ _ _ _ (T10.setTop (mkF m 43 #[.val (.ref a1), .val (.int p2), .val (.ref a3)] [(.ref b_10), (.ref a1)]))
  obtain ⟨T11, h11, X11, e11, W11, st11⟩ := putF X10 hx hZ hown (host := "") (Or.inl (hw _ (List.mem_of_getElem? (i := 21) rfl))) Via.refl rfl ((Fld.other W7 (F_firsts_a1.keep P6_0 nin0) (Or.inr (slot_ne (Or.inl (hw _ (List.mem_of_getElem? (i := 22) rfl))) (Or.inl (hw _ (List.mem_of_getElem? (i := 20) rfl))) (by decide) (t := (.array .int)) (t' := (.array (.object "java/lang/Object"))) (by decide) (by decide)))).keep P10_0 nin0) (Exa.keep E_a1 K10) (Or.inl (hw _ (List.mem_of_getElem? (i := 22) rfl))) (hw _ (List.mem_of_getElem? (i := 1) rfl)) (ty := (.array .int)) (by decide) rfl rfl (g := (mkF m 43 #[.val (.ref a1), .val (.int p2), .val (.ref a3)] [(.ref b_10), (.ref a1)])) rfl rfl (hb hby d5_43)
  refine OwnR.of (st11) ?_
  have F11 := Fld.same W11 ((Fld.other W7 (F_firsts_a1.keep P6_0 nin0) (Or.inr (slot_ne (Or.inl (hw _ (List.mem_of_getElem? (i := 22) rfl))) (Or.inl (hw _ (List.mem_of_getElem? (i := 20) rfl))) (by decide) (t := (.array .int)) (t' := (.array (.object "java/lang/Object"))) (by decide) (by decide)))).keep P10_0 nin0)
  have K11 : Keep h0 h11 [a1] := Keep.wr K10 W11 (Or.inl (List.mem_of_getElem? (i := 0) rfl))
  have N11 := Fr.snoc X11 N10 g_a1
  show OwnR _ _ _ _ _ _ _ (T11.setTop (mkF m 46 #[.val (.ref a1), .val (.int p2), .val (.ref a3)] []))
  refine OwnR.of (fun _ hr => XS.aloadN X11.here hx rfl (hb hby d5_46) rfl rfl hr) ?_
  show OwnR _ _ _ _ _ _ _ (T11.setTop (mkF m 47 #[.val (.ref a1), .val (.int p2), .val (.ref a3)] [(.ref a1)]))
  obtain ⟨T12, X12, e12, st12⟩ := getF X11 hx hZ hown (host := "") (Or.inl (hw _ (List.mem_of_getElem? (i := 19) rfl))) Via.refl e11 (Fld.other W11 (F7.keep P10_0 nin0) (Or.inr (slot_ne (Or.inl (hw _ (List.mem_of_getElem? (i := 20) rfl))) (Or.inl (hw _ (List.mem_of_getElem? (i := 22) rfl))) (by decide) (t := (.array (.object "java/lang/Object"))) (t' := (.array .int)) (by decide) (by decide)))) (g := (mkF m 47 #[.val (.ref a1), .val (.int p2), .val (.ref a3)] [(.ref a1)])) rfl rfl (hb hby d5_47)
  refine OwnR.of (st12) ?_
  show OwnR _ _ _ _ _ _ _ (T12.setTop (mkF m 50 #[.val (.ref a1), .val (.int p2), .val (.ref a3)] [(.ref b_6)]))
  refine OwnR.of (fun _ hr => XS.aloadN X12.here hx rfl (hb hby d5_50) rfl rfl hr) ?_
  show OwnR _ _ _ _ _ _ _ (T12.setTop (mkF m 51 #[.val (.ref a1), .val (.int p2), .val (.ref a3)] [(.ref a1), (.ref b_6)]))
  obtain ⟨T13, X13, e13, st13⟩ := getF X12 hx hZ hown (host := "") (Or.inl (hw _ (List.mem_of_getElem? (i := 23) rfl))) Via.refl e12 (Fld.other W11 ((Fld.other W7 (F_count_a1.keep P6_0 nin0) (Or.inr (slot_ne (Or.inl (hw _ (List.mem_of_getElem? (i := 24) rfl))) (Or.inl (hw _ (List.mem_of_getElem? (i := 20) rfl))) (by decide) (t := .int) (t' := (.array (.object "java/lang/Object"))) (by decide) (by decide)))).keep P10_0 nin0) (Or.inr (slot_ne (Or.inl (hw _ (List.mem_of_getElem? (i := 24) rfl))) (Or.inl (hw _ (List.mem_of_getElem? (i := 22) rfl))) (by decide) (t := .int) (t' := (.array .int)) (by decide) (by decide)))) (g := (mkF m 51 #[.val (.ref a1), .val (.int p2), .val (.ref a3)] [(.ref a1), (.ref b_6)])) rfl rfl (hb hby d5_51)
  refine OwnR.of (st13) ?_
  show OwnR _ _ _ _ _ _ _ (T13.setTop (mkF m 54 #[.val (.ref a1), .val (.int p2), .val (.ref a3)] [(.int (1 : Int32)), (.ref b_6)]))
  refine OwnR.of (fun _ hr => XS.aloadN X13.here hx rfl (hb hby d5_54) rfl rfl hr) ?_
  show OwnR _ _ _ _ _ _ _ (T13.setTop (mkF m 55 #[.val (.ref a1), .val (.int p2), .val (.ref a3)] [(.ref a3), (.int (1 : Int32)), (.ref b_6)]))
  obtain ⟨cl14, Ar14, q14, S14, N14q, H14, G14⟩ := id (Arv.other ((Arv.other P6_1 W7 (Ne.symm (Nat.ne_of_lt (Nat.lt_of_lt_of_le E_a1.lt P6_4)))).keep P10_0 nin0) W11 (Ne.symm (Nat.ne_of_lt (Nat.lt_of_lt_of_le E_a1.lt P6_4))))
  have hin14 : ¬ ((1 : Int32) < 0 ∨ cl14.slots.size ≤ ((1 : Int32)).toNatClampNeg) := (inb_of S14 ⟨by decide, by decide⟩)
  obtain ⟨T14, h14, X14, e14, W14, st14⟩ := stR X13 hx hZ e13 Ar14 (j := (1 : Int32)) hin14 rfl (Sto.ofV Ar14 q14 P6_2 (Ins.of_exa (Exa.keep E_a3 K11) (hw _ (List.mem_of_getElem? (i := 18) rfl)))) (g := (mkF m 55 #[.val (.ref a1), .val (.int p2), .val (.ref a3)] [(.ref a3), (.int (1 : Int32)), (.ref b_6)])) rfl rfl (hb hby d5_55)
  refine OwnR.of (st14) ?_
  have V14 := Arv.set Ar14 q14 S14 N14q H14 G14 rfl W14 1 rfl (Nat.le_of_ble_eq_true rfl)
  have V14 : Arv Z h14 b_6 kb_6 (.object "java/lang/Object") (2 : Int32) [(.ref el0), (.ref a3)] .null := V14
  have K14 : Keep h0 h14 [a1] := Keep.wr K11 W14 (Or.inr sz_b_6)
  have N14 := Fr.snoc X14 N11 P6_5
  show OwnR _ _ _ _ _ _ _ (T14.setTop (mkF m 56 #[.val (.ref a1), .val (.int p2), .val (.ref a3)] []))
  refine OwnR.of (fun _ hr => XS.aloadN X14.here hx rfl (hb hby d5_56) rfl rfl hr) ?_
  show OwnR _ _ _ _ _ _ _ (T14.setTop (mkF m 57 #[.val (.ref a1), .val (.int p2), .val (.ref a3)] [(.ref a1)]))
  obtain ⟨T15, X15, e15, st15⟩ := getF X14 hx hZ hown (host := "") (Or.inl (hw _ (List.mem_of_getElem? (i := 21) rfl))) Via.refl e14 (Fld.other W14 F11 (Or.inl (Nat.ne_of_lt (Nat.lt_of_lt_of_le E_a1.lt P6_4)))) (g := (mkF m 57 #[.val (.ref a1), .val (.int p2), .val (.ref a3)] [(.ref a1)])) rfl rfl (hb hby d5_57)
  refine OwnR.of (st15) ?_
  show OwnR _ _ _ _ _ _ _ (T15.setTop (mkF m 60 #[.val (.ref a1), .val (.int p2), .val (.ref a3)] [(.ref b_10)]))
  refine OwnR.of (fun _ hr => XS.aloadN X15.here hx rfl (hb hby d5_60) rfl rfl hr) ?_
  show OwnR _ _ _ _ _ _ _ (T15.setTop (mkF m 61 #[.val (.ref a1), .val (.int p2), .val (.ref a3)] [(.ref a1), (.ref b_10)]))
  obtain ⟨T16, X16, e16, st16⟩ := getF X15 hx hZ hown (host := "") (Or.inl (hw _ (List.mem_of_getElem? (i := 23) rfl))) Via.refl e15 (Fld.other W14 (Fld.other W11 ((Fld.other W7 (F_count_a1.keep P6_0 nin0) (Or.inr (slot_ne (Or.inl (hw _ (List.mem_of_getElem? (i := 24) rfl))) (Or.inl (hw _ (List.mem_of_getElem? (i := 20) rfl))) (by decide) (t := .int) (t' := (.array (.object "java/lang/Object"))) (by decide) (by decide)))).keep P10_0 nin0) (Or.inr (slot_ne (Or.inl (hw _ (List.mem_of_getElem? (i := 24) rfl))) (Or.inl (hw _ (List.mem_of_getElem? (i := 22) rfl))) (by decide) (t := .int) (t' := (.array .int)) (by decide) (by decide)))) (Or.inl (Nat.ne_of_lt (Nat.lt_of_lt_of_le E_a1.lt P6_4)))) (g := (mkF m 61 #[.val (.ref a1), .val (.int p2), .val (.ref a3)] [(.ref a1), (.ref b_10)])) rfl rfl (hb hby d5_61)
  refine OwnR.of (st16) ?_
  show OwnR _ _ _ _ _ _ _ (T16.setTop (mkF m 64 #[.val (.ref a1), .val (.int p2), .val (.ref a3)] [(.int (1 : Int32)), (.ref b_10)]))
  refine OwnR.of (fun _ hr => XS.iloadN X16.here hx rfl (hb hby d5_64) rfl hr) ?_
  show OwnR _ _ _ _ _ _ _ (T16.setTop (mkF m 65 #[.val (.ref a1), .val (.int p2), .val (.ref a3)] [(.int p2), (.int (1 : Int32)), (.ref b_10)]))
  obtain ⟨cl17, Ar17, q17, S17, N17q, H17, G17⟩ := id (Arv.other (Arv.other P10_1 W11 (Ne.symm (Nat.ne_of_lt (Nat.lt_of_lt_of_le (Exa.keep E_a1 K7).lt P10_2)))) W14 (Ne.symm (Nat.ne_of_lt (Nat.lt_of_lt_of_le (Exa.wr W7 P6_3).lt P10_2))))
  have hin17 : ¬ ((1 : Int32) < 0 ∨ cl17.slots.size ≤ ((1 : Int32)).toNatClampNeg) := (inb_of S17 ⟨by decide, by decide⟩)
  obtain ⟨T17, h17, X17, e17, W17, st17⟩ := stI X16 hx hZ e16 Ar17 (j := (1 : Int32)) hin17 (g := (mkF m 65 #[.val (.ref a1), .val (.int p2), .val (.ref a3)] [(.int p2), (.int (1 : Int32)), (.ref b_10)])) rfl rfl (hb hby d5_65)
  refine OwnR.of (st17) ?_
  have V17 := Arv.set Ar17 q17 S17 N17q H17 G17 rfl W17 1 rfl (Nat.le_of_ble_eq_true rfl)
  have V17 : Arv Z h17 b_10 kb_10 .int (2 : Int32) [(.int f0), (.int p2)] (.int (0 : Int32)) := V17
  have K17 : Keep h0 h17 [a1] := Keep.wr K14 W17 (Or.inr sz_b_10)
  have N17 := Fr.snoc X17 N14 P10_3
  show OwnR _ _ _ _ _ _ _ (T17.setTop (mkF m 66 #[.val (.ref a1), .val (.int p2), .val (.ref a3)] []))
  refine OwnR.of (fun _ hr => XS.aloadN X17.here hx rfl (hb hby d5_66) rfl rfl hr) ?_
  show OwnR _ _ _ _ _ _ _ (T17.setTop (mkF m 67 #[.val (.ref a1), .val (.int p2), .val (.ref a3)] [(.ref a1)]))
  refine OwnR.of (fun _ hr => XS.dup X17.here hx rfl (hb hby d5_67) rfl rfl hr) ?_
  show OwnR _ _ _ _ _ _ _ (T17.setTop (mkF m 68 #[.val (.ref a1), .val (.int p2), .val (.ref a3)] [(.ref a1), (.ref a1)]))
  obtain ⟨T18, X18, e18, st18⟩ := getF X17 hx hZ hown (host := "") (Or.inl (hw _ (List.mem_of_getElem? (i := 23) rfl))) Via.refl e17 (Fld.other W17 (Fld.other W14 (Fld.other W11 ((Fld.other W7 (F_count_a1.keep P6_0 nin0) (Or.inr (slot_ne (Or.inl (hw _ (List.mem_of_getElem? (i := 24) rfl))) (Or.inl (hw _ (List.mem_of_getElem? (i := 20) rfl))) (by decide) (t := .int) (t' := (.array (.object "java/lang/Object"))) (by decide) (by decide)))).keep P10_0 nin0) (Or.inr (slot_ne (Or.inl (hw _ (List.mem_of_getElem? (i := 24) rfl))) (Or.inl (hw _ (List.mem_of_getElem? (i := 22) rfl))) (by decide) (t := .int) (t' := (.array .int)) (by decide) (by decide)))) (Or.inl (Nat.ne_of_lt (Nat.lt_of_lt_of_le E_a1.lt P6_4)))) (Or.inl (Nat.ne_of_lt (Nat.lt_of_lt_of_le (Exa.keep E_a1 K7).lt P10_2)))) (g := (mkF m 68 #[.val (.ref a1), .val (.int p2), .val (.ref a3)] [(.ref a1), (.ref a1)])) rfl rfl (hb hby d5_68)
  refine OwnR.of (st18) ?_
  show OwnR _ _ _ _ _ _ _ (T18.setTop (mkF m 71 #[.val (.ref a1), .val (.int p2), .val (.ref a3)] [(.int (1 : Int32)), (.ref a1)]))
  refine OwnR.of (fun _ hr => XS.iconst X18.here hx rfl (hb hby d5_71) hr) ?_
  show OwnR _ _ _ _ _ _ _ (T18.setTop (mkF m 72 #[.val (.ref a1), .val (.int p2), .val (.ref a3)] [(.int (1 : Int32)), (.int (1 : Int32)), (.ref a1)]))
  refine OwnR.of (fun _ hr => XS.iadd X18.here hx rfl (hb hby d5_72) rfl hr) ?_
  show OwnR _ _ _ _ _ _ _ (T18.setTop (mkF m 73 #[.val (.ref a1), .val (.int p2), .val (.ref a3)] [(.int ((1 : Int32) + (1 : Int32))), (.ref a1)]))
  rw [(by decide : ((1 : Int32) + (1 : Int32)) = (2 : Int32))]
  show OwnR _ _ _ _ _ _ _ (T18.setTop (mkF m 73 #[.val (.ref a1), .val (.int p2), .val (.ref a3)] [(.int (2 : Int32)), (.ref a1)]))
  obtain ⟨T19, h19, X19, e19, W19, st19⟩ := putF X18 hx hZ hown (host := "") (Or.inl (hw _ (List.mem_of_getElem? (i := 23) rfl))) Via.refl e18 (Fld.other W17 (Fld.other W14 (Fld.other W11 ((Fld.other W7 (F_count_a1.keep P6_0 nin0) (Or.inr (slot_ne (Or.inl (hw _ (List.mem_of_getElem? (i := 24) rfl))) (Or.inl (hw _ (List.mem_of_getElem? (i := 20) rfl))) (by decide) (t := .int) (t' := (.array (.object "java/lang/Object"))) (by decide) (by decide)))).keep P10_0 nin0) (Or.inr (slot_ne (Or.inl (hw _ (List.mem_of_getElem? (i := 24) rfl))) (Or.inl (hw _ (List.mem_of_getElem? (i := 22) rfl))) (by decide) (t := .int) (t' := (.array .int)) (by decide) (by decide)))) (Or.inl (Nat.ne_of_lt (Nat.lt_of_lt_of_le E_a1.lt P6_4)))) (Or.inl (Nat.ne_of_lt (Nat.lt_of_lt_of_le (Exa.keep E_a1 K7).lt P10_2)))) (Exa.keep E_a1 K17) (Or.inl (hw _ (List.mem_of_getElem? (i := 24) rfl))) (hw _ (List.mem_of_getElem? (i := 1) rfl)) (ty := .int) (by decide) rfl rfl (g := (mkF m 73 #[.val (.ref a1), .val (.int p2), .val (.ref a3)] [(.int (2 : Int32)), (.ref a1)])) rfl rfl (hb hby d5_73)
  refine OwnR.of (st19) ?_
  have F19 := Fld.same W19 (Fld.other W17 (Fld.other W14 (Fld.other W11 ((Fld.other W7 (F_count_a1.keep P6_0 nin0) (Or.inr (slot_ne (Or.inl (hw _ (List.mem_of_getElem? (i := 24) rfl))) (Or.inl (hw _ (List.mem_of_getElem? (i := 20) rfl))) (by decide) (t := .int) (t' := (.array (.object "java/lang/Object"))) (by decide) (by decide)))).keep P10_0 nin0) (Or.inr (slot_ne (Or.inl (hw _ (List.mem_of_getElem? (i := 24) rfl))) (Or.inl (hw _ (List.mem_of_getElem? (i := 22) rfl))) (by decide) (t := .int) (t' := (.array .int)) (by decide) (by decide)))) (Or.inl (Nat.ne_of_lt (Nat.lt_of_lt_of_le E_a1.lt P6_4)))) (Or.inl (Nat.ne_of_lt (Nat.lt_of_lt_of_le (Exa.keep E_a1 K7).lt P10_2))))
  have K19 : Keep h0 h19 [a1] := Keep.wr K17 W19 (Or.inl (List.mem_of_getElem? (i := 0) rfl))
  have N19 := Fr.snoc X19 N17 g_a1
  show OwnR _ _ _ _ _ _ _ (T19.setTop (mkF m 76 #[.val (.ref a1), .val (.int p2), .val (.ref a3)] []))
  refine OwnR.of (fun _ hr => XS.aloadN X19.here hx rfl (hb hby d5_76) rfl rfl hr) ?_
  show OwnR _ _ _ _ _ _ _ (T19.setTop (mkF m 77 #[.val (.ref a1), .val (.int p2), .val (.ref a3)] [(.ref a1)]))
  refine OwnR.of (fun _ hr => XS.aloadN X19.here hx rfl (hb hby d5_77) rfl rfl hr) ?_
  show OwnR _ _ _ _ _ _ _ (T19.setTop (mkF m 78 #[.val (.ref a1), .val (.int p2), .val (.ref a3)] [(.ref a1), (.ref a1)]))
  obtain ⟨T20, X20, e20, st20⟩ := getF X19 hx hZ hown (host := "") (Or.inl (hw _ (List.mem_of_getElem? (i := 10) rfl))) Via.refl e19 (Fld.other W19 (Fld.other W17 (Fld.other W14 (Fld.other W11 ((Fld.other W7 (F_pageLength_a1.keep P6_0 nin0) (Or.inr (slot_ne (Or.inr (hw _ (List.mem_of_getElem? (i := 11) rfl))) (Or.inl (hw _ (List.mem_of_getElem? (i := 20) rfl))) (by decide) (t := .int) (t' := (.array (.object "java/lang/Object"))) (by decide) (by decide)))).keep P10_0 nin0) (Or.inr (slot_ne (Or.inr (hw _ (List.mem_of_getElem? (i := 11) rfl))) (Or.inl (hw _ (List.mem_of_getElem? (i := 22) rfl))) (by decide) (t := .int) (t' := (.array .int)) (by decide) (by decide)))) (Or.inl (Nat.ne_of_lt (Nat.lt_of_lt_of_le E_a1.lt P6_4)))) (Or.inl (Nat.ne_of_lt (Nat.lt_of_lt_of_le (Exa.keep E_a1 K7).lt P10_2)))) (Or.inr (slot_ne (Or.inr (hw _ (List.mem_of_getElem? (i := 11) rfl))) (Or.inl (hw _ (List.mem_of_getElem? (i := 24) rfl))) (by decide) (t := .int) (t' := .int) (by decide) (by decide)))) (g := (mkF m 78 #[.val (.ref a1), .val (.int p2), .val (.ref a3)] [(.ref a1), (.ref a1)])) rfl rfl (hb hby d5_78)
  refine OwnR.of (st20) ?_
  show OwnR _ _ _ _ _ _ _ (T20.setTop (mkF m 81 #[.val (.ref a1), .val (.int p2), .val (.ref a3)] [(.int pl), (.ref a1)]))
  obtain ⟨T21, h21, X21, e21, W21, st21⟩ := putF X20 hx hZ hown (host := "") (Or.inl (hw _ (List.mem_of_getElem? (i := 12) rfl))) Via.refl e20 (Fld.other W19 (Fld.other W17 (Fld.other W14 (Fld.other W11 ((Fld.other W7 (F_limit_a1.keep P6_0 nin0) (Or.inr (slot_ne (Or.inl (hw _ (List.mem_of_getElem? (i := 13) rfl))) (Or.inl (hw _ (List.mem_of_getElem? (i := 20) rfl))) (by decide) (t := .int) (t' := (.array (.object "java/lang/Object"))) (by decide) (by decide)))).keep P10_0 nin0) (Or.inr (slot_ne (Or.inl (hw _ (List.mem_of_getElem? (i := 13) rfl))) (Or.inl (hw _ (List.mem_of_getElem? (i := 22) rfl))) (by decide) (t := .int) (t' := (.array .int)) (by decide) (by decide)))) (Or.inl (Nat.ne_of_lt (Nat.lt_of_lt_of_le E_a1.lt P6_4)))) (Or.inl (Nat.ne_of_lt (Nat.lt_of_lt_of_le (Exa.keep E_a1 K7).lt P10_2)))) (Or.inr (slot_ne (Or.inl (hw _ (List.mem_of_getElem? (i := 13) rfl))) (Or.inl (hw _ (List.mem_of_getElem? (i := 24) rfl))) (by decide) (t := .int) (t' := .int) (by decide) (by decide)))) (Exa.keep E_a1 K19) (Or.inl (hw _ (List.mem_of_getElem? (i := 13) rfl))) (hw _ (List.mem_of_getElem? (i := 1) rfl)) (ty := .int) (by decide) rfl rfl (g := (mkF m 81 #[.val (.ref a1), .val (.int p2), .val (.ref a3)] [(.int pl), (.ref a1)])) rfl rfl (hb hby d5_81)
  refine OwnR.of (st21) ?_
  have F21 := Fld.same W21 (Fld.other W19 (Fld.other W17 (Fld.other W14 (Fld.other W11 ((Fld.other W7 (F_limit_a1.keep P6_0 nin0) (Or.inr (slot_ne (Or.inl (hw _ (List.mem_of_getElem? (i := 13) rfl))) (Or.inl (hw _ (List.mem_of_getElem? (i := 20) rfl))) (by decide) (t := .int) (t' := (.array (.object "java/lang/Object"))) (by decide) (by decide)))).keep P10_0 nin0) (Or.inr (slot_ne (Or.inl (hw _ (List.mem_of_getElem? (i := 13) rfl))) (Or.inl (hw _ (List.mem_of_getElem? (i := 22) rfl))) (by decide) (t := .int) (t' := (.array .int)) (by decide) (by decide)))) (Or.inl (Nat.ne_of_lt (Nat.lt_of_lt_of_le E_a1.lt P6_4)))) (Or.inl (Nat.ne_of_lt (Nat.lt_of_lt_of_le (Exa.keep E_a1 K7).lt P10_2)))) (Or.inr (slot_ne (Or.inl (hw _ (List.mem_of_getElem? (i := 13) rfl))) (Or.inl (hw _ (List.mem_of_getElem? (i := 24) rfl))) (by decide) (t := .int) (t' := .int) (by decide) (by decide))))
  have K21 : Keep h0 h21 [a1] := Keep.wr K19 W21 (Or.inl (List.mem_of_getElem? (i := 0) rfl))
  have N21 := Fr.snoc X21 N19 g_a1
  show OwnR _ _ _ _ _ _ _ (T21.setTop (mkF m 84 #[.val (.ref a1), .val (.int p2), .val (.ref a3)] []))
  refine OwnR.of (fun _ hr => XS.aloadN X21.here hx rfl (hb hby d5_84) rfl rfl hr) ?_
  show OwnR _ _ _ _ _ _ _ (T21.setTop (mkF m 85 #[.val (.ref a1), .val (.int p2), .val (.ref a3)] [(.ref a1)]))
  refine OwnR.of (fun _ hr => XS.aloadN X21.here hx rfl (hb hby d5_85) rfl rfl hr) ?_
  show OwnR _ _ _ _ _ _ _ (T21.setTop (mkF m 86 #[.val (.ref a1), .val (.int p2), .val (.ref a3)] [(.ref a3), (.ref a1)]))
  obtain ⟨T22, h22, X22, e22, W22, st22⟩ := putF X21 hx hZ hown (host := "") (Or.inl (hw _ (List.mem_of_getElem? (i := 14) rfl))) Via.refl e21 (Fld.other W21 (Fld.other W19 (Fld.other W17 (Fld.other W14 (Fld.other W11 ((Fld.other W7 (F_last_a1.keep P6_0 nin0) (Or.inr (slot_ne (Or.inl (hw _ (List.mem_of_getElem? (i := 15) rfl))) (Or.inl (hw _ (List.mem_of_getElem? (i := 20) rfl))) (by decide) (t := (.object "java/lang/Object")) (t' := (.array (.object "java/lang/Object"))) (by decide) (by decide)))).keep P10_0 nin0) (Or.inr (slot_ne (Or.inl (hw _ (List.mem_of_getElem? (i := 15) rfl))) (Or.inl (hw _ (List.mem_of_getElem? (i := 22) rfl))) (by decide) (t := (.object "java/lang/Object")) (t' := (.array .int)) (by decide) (by decide)))) (Or.inl (Nat.ne_of_lt (Nat.lt_of_lt_of_le E_a1.lt P6_4)))) (Or.inl (Nat.ne_of_lt (Nat.lt_of_lt_of_le (Exa.keep E_a1 K7).lt P10_2)))) (Or.inr (slot_ne (Or.inl (hw _ (List.mem_of_getElem? (i := 15) rfl))) (Or.inl (hw _ (List.mem_of_getElem? (i := 24) rfl))) (by decide) (t := (.object "java/lang/Object")) (t' := .int) (by decide) (by decide)))) (Or.inr (slot_ne (Or.inl (hw _ (List.mem_of_getElem? (i := 15) rfl))) (Or.inl (hw _ (List.mem_of_getElem? (i := 13) rfl))) (by decide) (t := (.object "java/lang/Object")) (t' := .int) (by decide) (by decide)))) (Exa.keep E_a1 K21) (Or.inl (hw _ (List.mem_of_getElem? (i := 15) rfl))) (hw _ (List.mem_of_getElem? (i := 1) rfl)) (ty := (.object "java/lang/Object")) (by decide) rfl rfl (g := (mkF m 86 #[.val (.ref a1), .val (.int p2), .val (.ref a3)] [(.ref a3), (.ref a1)])) rfl rfl (hb hby d5_86)
  refine OwnR.of (st22) ?_
  have F22 := Fld.same W22 (Fld.other W21 (Fld.other W19 (Fld.other W17 (Fld.other W14 (Fld.other W11 ((Fld.other W7 (F_last_a1.keep P6_0 nin0) (Or.inr (slot_ne (Or.inl (hw _ (List.mem_of_getElem? (i := 15) rfl))) (Or.inl (hw _ (List.mem_of_getElem? (i := 20) rfl))) (by decide) (t := (.object "java/lang/Object")) (t' := (.array (.object "java/lang/Object"))) (by decide) (by decide)))).keep P10_0 nin0) (Or.inr (slot_ne (Or.inl (hw _ (List.mem_of_getElem? (i := 15) rfl))) (Or.inl (hw _ (List.mem_of_getElem? (i := 22) rfl))) (by decide) (t := (.object "java/lang/Object")) (t' := (.array .int)) (by decide) (by decide)))) (Or.inl (Nat.ne_of_lt (Nat.lt_of_lt_of_le E_a1.lt P6_4)))) (Or.inl (Nat.ne_of_lt (Nat.lt_of_lt_of_le (Exa.keep E_a1 K7).lt P10_2)))) (Or.inr (slot_ne (Or.inl (hw _ (List.mem_of_getElem? (i := 15) rfl))) (Or.inl (hw _ (List.mem_of_getElem? (i := 24) rfl))) (by decide) (t := (.object "java/lang/Object")) (t' := .int) (by decide) (by decide)))) (Or.inr (slot_ne (Or.inl (hw _ (List.mem_of_getElem? (i := 15) rfl))) (Or.inl (hw _ (List.mem_of_getElem? (i := 13) rfl))) (by decide) (t := (.object "java/lang/Object")) (t' := .int) (by decide) (by decide))))
  have K22 : Keep h0 h22 [a1] := Keep.wr K21 W22 (Or.inl (List.mem_of_getElem? (i := 0) rfl))
  have N22 := Fr.snoc X22 N21 g_a1
  show OwnR _ _ _ _ _ _ _ (T22.setTop (mkF m 89 #[.val (.ref a1), .val (.int p2), .val (.ref a3)] []))
  refine own_leafV X22 hx hlk Bd.returns (hb hby d5_89) (by decide) (by decide) ?_
  show QT_1 Z a1 p2 a3 pl el0 f0 h0 n0 _ T22.heap _
  rw [show T22.heap = h22 from e22]
  refine ⟨b_6, kb_6, b_10, kb_10, rfl, N22, ⟨K22, (Exa.keep E_a1 K22), (Fld.other W22 (Fld.other W21 (Fld.other W19 (Fld.other W17 (Fld.other W14 (Fld.other W11 ((Fld.other W7 (F_pageLength_a1.keep P6_0 nin0) (Or.inr (slot_ne (Or.inr (hw _ (List.mem_of_getElem? (i := 11) rfl))) (Or.inl (hw _ (List.mem_of_getElem? (i := 20) rfl))) (by decide) (t := .int) (t' := (.array (.object "java/lang/Object"))) (by decide) (by decide)))).keep P10_0 nin0) (Or.inr (slot_ne (Or.inr (hw _ (List.mem_of_getElem? (i := 11) rfl))) (Or.inl (hw _ (List.mem_of_getElem? (i := 22) rfl))) (by decide) (t := .int) (t' := (.array .int)) (by decide) (by decide)))) (Or.inl (Nat.ne_of_lt (Nat.lt_of_lt_of_le E_a1.lt P6_4)))) (Or.inl (Nat.ne_of_lt (Nat.lt_of_lt_of_le (Exa.keep E_a1 K7).lt P10_2)))) (Or.inr (slot_ne (Or.inr (hw _ (List.mem_of_getElem? (i := 11) rfl))) (Or.inl (hw _ (List.mem_of_getElem? (i := 24) rfl))) (by decide) (t := .int) (t' := .int) (by decide) (by decide)))) (Or.inr (slot_ne (Or.inr (hw _ (List.mem_of_getElem? (i := 11) rfl))) (Or.inl (hw _ (List.mem_of_getElem? (i := 13) rfl))) (by decide) (t := .int) (t' := .int) (by decide) (by decide)))) (Or.inr (slot_ne (Or.inr (hw _ (List.mem_of_getElem? (i := 11) rfl))) (Or.inl (hw _ (List.mem_of_getElem? (i := 15) rfl))) (by decide) (t := .int) (t' := (.object "java/lang/Object")) (by decide) (by decide)))), (Fld.other W22 F21 (Or.inr (slot_ne (Or.inl (hw _ (List.mem_of_getElem? (i := 13) rfl))) (Or.inl (hw _ (List.mem_of_getElem? (i := 15) rfl))) (by decide) (t := .int) (t' := (.object "java/lang/Object")) (by decide) (by decide)))), F22, (Fld.other W22 (Fld.other W21 (Fld.other W19 (Fld.other W17 (Fld.other W14 (Fld.other W11 (F7.keep P10_0 nin0) (Or.inr (slot_ne (Or.inl (hw _ (List.mem_of_getElem? (i := 20) rfl))) (Or.inl (hw _ (List.mem_of_getElem? (i := 22) rfl))) (by decide) (t := (.array (.object "java/lang/Object"))) (t' := (.array .int)) (by decide) (by decide)))) (Or.inl (Nat.ne_of_lt (Nat.lt_of_lt_of_le E_a1.lt P6_4)))) (Or.inl (Nat.ne_of_lt (Nat.lt_of_lt_of_le (Exa.keep E_a1 K7).lt P10_2)))) (Or.inr (slot_ne (Or.inl (hw _ (List.mem_of_getElem? (i := 20) rfl))) (Or.inl (hw _ (List.mem_of_getElem? (i := 24) rfl))) (by decide) (t := (.array (.object "java/lang/Object"))) (t' := .int) (by decide) (by decide)))) (Or.inr (slot_ne (Or.inl (hw _ (List.mem_of_getElem? (i := 20) rfl))) (Or.inl (hw _ (List.mem_of_getElem? (i := 13) rfl))) (by decide) (t := (.array (.object "java/lang/Object"))) (t' := .int) (by decide) (by decide)))) (Or.inr (slot_ne (Or.inl (hw _ (List.mem_of_getElem? (i := 20) rfl))) (Or.inl (hw _ (List.mem_of_getElem? (i := 15) rfl))) (by decide) (t := (.array (.object "java/lang/Object"))) (t' := (.object "java/lang/Object")) (by decide) (by decide)))), (Fld.other W22 (Fld.other W21 (Fld.other W19 (Fld.other W17 (Fld.other W14 F11 (Or.inl (Nat.ne_of_lt (Nat.lt_of_lt_of_le E_a1.lt P6_4)))) (Or.inl (Nat.ne_of_lt (Nat.lt_of_lt_of_le (Exa.keep E_a1 K7).lt P10_2)))) (Or.inr (slot_ne (Or.inl (hw _ (List.mem_of_getElem? (i := 22) rfl))) (Or.inl (hw _ (List.mem_of_getElem? (i := 24) rfl))) (by decide) (t := (.array .int)) (t' := .int) (by decide) (by decide)))) (Or.inr (slot_ne (Or.inl (hw _ (List.mem_of_getElem? (i := 22) rfl))) (Or.inl (hw _ (List.mem_of_getElem? (i := 13) rfl))) (by decide) (t := (.array .int)) (t' := .int) (by decide) (by decide)))) (Or.inr (slot_ne (Or.inl (hw _ (List.mem_of_getElem? (i := 22) rfl))) (Or.inl (hw _ (List.mem_of_getElem? (i := 15) rfl))) (by decide) (t := (.array .int)) (t' := (.object "java/lang/Object")) (by decide) (by decide)))), (Fld.other W22 (Fld.other W21 F19 (Or.inr (slot_ne (Or.inl (hw _ (List.mem_of_getElem? (i := 24) rfl))) (Or.inl (hw _ (List.mem_of_getElem? (i := 13) rfl))) (by decide) (t := .int) (t' := .int) (by decide) (by decide)))) (Or.inr (slot_ne (Or.inl (hw _ (List.mem_of_getElem? (i := 24) rfl))) (Or.inl (hw _ (List.mem_of_getElem? (i := 15) rfl))) (by decide) (t := .int) (t' := (.object "java/lang/Object")) (by decide) (by decide)))), (Arv.other (Arv.other (Arv.other (Arv.other V14 W17 (Nat.ne_of_lt (Nat.lt_of_lt_of_le (Exa.wr W7 P6_3).lt P10_2))) W19 (Ne.symm (Nat.ne_of_lt (Nat.lt_of_lt_of_le E_a1.lt P6_4)))) W21 (Ne.symm (Nat.ne_of_lt (Nat.lt_of_lt_of_le E_a1.lt P6_4)))) W22 (Ne.symm (Nat.ne_of_lt (Nat.lt_of_lt_of_le E_a1.lt P6_4)))), P6_2, (Exa.wr W22 (Exa.wr W21 (Exa.wr W19 (Exa.wr W17 (Exa.wr W14 (Exa.wr W11 ((Exa.wr W7 P6_3).keep P10_0))))))), (Arv.other (Arv.other (Arv.other V17 W19 (Ne.symm (Nat.ne_of_lt (Nat.lt_of_lt_of_le (Exa.keep E_a1 K7).lt P10_2)))) W21 (Ne.symm (Nat.ne_of_lt (Nat.lt_of_lt_of_le (Exa.keep E_a1 K7).lt P10_2)))) W22 (Ne.symm (Nat.ne_of_lt (Nat.lt_of_lt_of_le (Exa.keep E_a1 K7).lt P10_2)))), sz_b_6, P6_5, sz_b_10, P10_3⟩⟩
theorem ef_rmI (m : MethodId) (x0 : Addr) (x1 : Addr) (x2 : Int32) (x3 : Int32) : entryFrame m #[(.ref x0), (.ref x1), (.int x2), (.int x3)] 4 = mkF m 0 #[.val (.ref x0), .val (.ref x1), .val (.int x2), .val (.int x3)] [] := by first | (simp [entryFrame, mkF, argsToLocals, Value.category]; done) | rfl
theorem d1_0 : decode prog_34_method_1_code 0 = .ok (.aload_n 0, 1) := by decide +kernel
theorem d1_1 : decode prog_34_method_1_code 1 = .ok (.invokespecial 1, 3) := by decide +kernel
theorem d1_4 : decode prog_34_method_1_code 4 = .ok (.aload_n 0, 1) := by decide +kernel
theorem d1_5 : decode prog_34_method_1_code 5 = .ok (.iload_n 3, 1) := by decide +kernel
theorem d1_6 : decode prog_34_method_1_code 6 = .ok (.putfield 7, 3) := by decide +kernel
theorem d1_9 : decode prog_34_method_1_code 9 = .ok (.aload_n 0, 1) := by decide +kernel
theorem d1_10 : decode prog_34_method_1_code 10 = .ok (.iload_n 2, 1) := by decide +kernel
theorem d1_11 : decode prog_34_method_1_code 11 = .ok (.putfield 13, 3) := by decide +kernel
theorem d1_14 : decode prog_34_method_1_code 14 = .ok (.aload_n 0, 1) := by decide +kernel
theorem d1_15 : decode prog_34_method_1_code 15 = .ok (.aload_n 1, 1) := by decide +kernel
theorem d1_16 : decode prog_34_method_1_code 16 = .ok (.putfield 16, 3) := by decide +kernel
theorem d1_19 : decode prog_34_method_1_code 19 = .ok (.aload_n 0, 1) := by decide +kernel
theorem d1_20 : decode prog_34_method_1_code 20 = .ok (.iconst 1, 1) := by decide +kernel
theorem d1_21 : decode prog_34_method_1_code 21 = .ok (.anewarray 2, 3) := by decide +kernel
theorem d1_24 : decode prog_34_method_1_code 24 = .ok (.dup, 1) := by decide +kernel
theorem d1_25 : decode prog_34_method_1_code 25 = .ok (.iconst 0, 1) := by decide +kernel
theorem d1_26 : decode prog_34_method_1_code 26 = .ok (.aload_n 1, 1) := by decide +kernel
theorem d1_27 : decode prog_34_method_1_code 27 = .ok (.aastore, 1) := by decide +kernel
theorem d1_28 : decode prog_34_method_1_code 28 = .ok (.putfield 20, 3) := by decide +kernel
theorem d1_31 : decode prog_34_method_1_code 31 = .ok (.aload_n 0, 1) := by decide +kernel
theorem d1_32 : decode prog_34_method_1_code 32 = .ok (.iconst 1, 1) := by decide +kernel
theorem d1_33 : decode prog_34_method_1_code 33 = .ok (.newarray .int, 2) := by decide +kernel
theorem d1_35 : decode prog_34_method_1_code 35 = .ok (.putfield 24, 3) := by decide +kernel
theorem d1_38 : decode prog_34_method_1_code 38 = .ok (.aload_n 0, 1) := by decide +kernel
theorem d1_39 : decode prog_34_method_1_code 39 = .ok (.iconst 1, 1) := by decide +kernel
theorem d1_40 : decode prog_34_method_1_code 40 = .ok (.putfield 28, 3) := by decide +kernel
theorem d1_43 : decode prog_34_method_1_code 43 = .ok (.return_, 1) := by decide +kernel
def QI (Z : State) (a1 : Addr) (a2 : Addr) (p3 : Int32) (p4 : Int32) (h0 : Heap) (n0 : Nat) (v : Option Value) (h : Heap) (L : List Loc) : Prop := ∃ (b : Addr) (kb : ClassId) (c : Addr) (kc : ClassId), v = none ∧ Fr n0 L ∧ Keep h0 h [a1] ∧ Exa Z h a1 "com/example/tercet/tercet/core/Pages" ∧ Fld Z h a1 "com/example/tercet/tercet/core/Pages" "pageLength" "I" (.int p4) ∧ Fld Z h a1 "com/example/tercet/tercet/core/Pages" "limit" "I" (.int p3) ∧ Fld Z h a1 "com/example/tercet/tercet/core/Pages" "last" "Ljava/lang/Object;" (.ref a2) ∧ Fld Z h a1 "com/example/tercet/tercet/core/Pages" "pages" "[Ljava/lang/Object;" (.ref b) ∧ Fld Z h a1 "com/example/tercet/tercet/core/Pages" "firsts" "[I" (.ref c) ∧ Fld Z h a1 "com/example/tercet/tercet/core/Pages" "count" "I" (.int (1 : Int32)) ∧ Arv Z h b kb (.object "java/lang/Object") (1 : Int32) [(.ref a2)] .null ∧ Exa Z h b "[Ljava/lang/Object;" ∧ Arv Z h c kc .int (1 : Int32) [(.int (0 : Int32))] (.int (0 : Int32)) ∧ h0.size ≤ b ∧ n0 ≤ b ∧ h0.size ≤ c ∧ n0 ≤ c
set_option maxRecDepth 65536 in
set_option maxHeartbeats 40000000 in
theorem rmI (l : Launch) (Z : State) (a0 : Array Value) (hw : ∀ d ∈ tables_1, d.before a0 Z = true) (ws : List Jvm.Cond) (a1 : Addr) (a2 : Addr) (p3 : Int32) (p4 : Int32) (h0 : Heap) (n0 : Nat) (Z0 : n0 ≤ h0.size) (E_a1 : Exa Z h0 a1 "com/example/tercet/tercet/core/Pages") (F_pageLength_a1 : Fld Z h0 a1 "com/example/tercet/tercet/core/Pages" "pageLength" "I" (.int (0 : Int32))) (F_limit_a1 : Fld Z h0 a1 "com/example/tercet/tercet/core/Pages" "limit" "I" (.int (0 : Int32))) (F_last_a1 : Fld Z h0 a1 "com/example/tercet/tercet/core/Pages" "last" "Ljava/lang/Object;" .null) (F_pages_a1 : Fld Z h0 a1 "com/example/tercet/tercet/core/Pages" "pages" "[Ljava/lang/Object;" .null) (F_firsts_a1 : Fld Z h0 a1 "com/example/tercet/tercet/core/Pages" "firsts" "[I" .null) (F_count_a1 : Fld Z h0 a1 "com/example/tercet/tercet/core/Pages" "count" "I" (.int (0 : Int32))) (E_a2 : Exa Z h0 a2 "[I") (g_a1 : n0 ≤ a1) :
    MetFree l (⟨"com/example/tercet/tercet/core/Pages", "<init>", "(Ljava/lang/Object;II)V"⟩ : MethodName) (head1 (Jvm.Cond.code (⟨"com/example/tercet/tercet/core/Pages", "<init>", "(Ljava/lang/Object;II)V"⟩ : MethodName) prog_34_method_1_code 4 none :: ws) ({ frames := 1, cells := 2, slots := 2, locals := 16 } : Room)) (fun a U => a = #[(.ref a1), (.ref a2), (.int p3), (.int p4)] ∧ Z.Warmed39 U.vm ∧ U.heap = h0) (fun _ _ _ _ _ => True) (fun _ U o U' => ∃ v L, o = .returned v ∧ QI Z a1 a2 p3 p4 h0 n0 v U'.heap L ∧ FrameEnd U o U' L ({ frames := 1, cells := 2, slots := 2, locals := 16 } : Room).cells ({ frames := 1, cells := 2, slots := 2, locals := 16 } : Room).slots) := by
  refine MetFree.of_bodySF (plainFor_of_name pn_com_example_tercet_tercet_core_Pages) hisR ?_
  intro p e s m args below meth c s₁ Bd hml0 hP hK
  obtain ⟨rfl, hZ, hh⟩ := hP
  have hx := Bd.exec
  have hby := Bd.bytes
  have hlk := BodyLoose.notSynchronized Bd
  have hml : c.maxLocals = 4 := hml0
  have hown : s.vm.findClass "com/example/tercet/tercet/core/Pages" = some m.cls := findClass_of_methodNamed Bd.named
  have hnm := (name_of_methodNamed Bd.named Bd.method).1
  have X0 : Stand p l e ({ frames := 1, cells := 2, slots := 2, locals := 16 } : Room) s m #[(.ref a1), (.ref a2), (.int p3), (.int p4)] below meth c s₁ [] 0 0 := Stand.of_body Bd
  have e0 : s₁.heap = h0 := by rw [← hh, Bd.state]; rfl
  have N0 := Fr.nil n0
  refine OwnR.of (s := s) (Q := QI Z a1 a2 p3 p4 h0 n0) (fun t k => castTop (ef_rmI m a1 a2 p3 p4) k) ?_
  show OwnR _ _ _ _ _ _ _ (s₁.setTop (mkF m 0 #[.val (.ref a1), .val (.ref a2), .val (.int p3), .val (.int p4)] []))
  refine OwnR.of (fun _ hr => XS.aloadN X0.here hx rfl (hb hby d1_0) rfl rfl hr) ?_
  show OwnR _ _ _ _ _ _ _ (s₁.setTop (mkF m 1 #[.val (.ref a1), .val (.ref a2), .val (.int p3), .val (.int p4)] [(.ref a1)]))
  obtain ⟨T1, X1, e1, st1⟩ := initO X0 hx hZ hown (hw _ (List.mem_of_getElem? (i := 7) rfl)) (hw _ (List.mem_of_getElem? (i := 8) rfl)) (hw _ (List.mem_of_getElem? (i := 9) rfl)) e0 (g := (mkF m 1 #[.val (.ref a1), .val (.ref a2), .val (.int p3), .val (.int p4)] [(.ref a1)])) rfl (by rw [hml]; rfl) rfl (hb hby d1_1) (by decide) (W := 0) (by show 2 * 0 + _ ≤ _; exact Nat.le_of_eq rfl) (by decide)
  refine OwnR.of (st1) ?_
  show OwnR _ _ _ _ _ _ _ (T1.setTop (mkF m 4 #[.val (.ref a1), .val (.ref a2), .val (.int p3), .val (.int p4)] []))
  refine OwnR.of (fun _ hr => XS.aloadN X1.here hx rfl (hb hby d1_4) rfl rfl hr) ?_
  show OwnR _ _ _ _ _ _ _ (T1.setTop (mkF m 5 #[.val (.ref a1), .val (.ref a2), .val (.int p3), .val (.int p4)] [(.ref a1)]))
  refine OwnR.of (fun _ hr => XS.iloadN X1.here hx rfl (hb hby d1_5) rfl hr) ?_
  show OwnR _ _ _ _ _ _ _ (T1.setTop (mkF m 6 #[.val (.ref a1), .val (.ref a2), .val (.int p3), .val (.int p4)] [(.int p4), (.ref a1)]))
  obtain ⟨T2, h2, X2, e2, W2, st2⟩ := putF X1 hx hZ hown (host := "") (Or.inl (hw _ (List.mem_of_getElem? (i := 10) rfl))) Via.refl e1 F_pageLength_a1 E_a1 (Or.inr ⟨(hw _ (List.mem_of_getElem? (i := 11) rfl)), rfl, hnm⟩) (hw _ (List.mem_of_getElem? (i := 1) rfl)) (ty := .int) (by decide) rfl rfl (g := (mkF m 6 #[.val (.ref a1), .val (.ref a2), .val (.int p3), .val (.int p4)] [(.int p4), (.ref a1)])) rfl rfl (hb hby d1_6)
  refine OwnR.of (st2) ?_
  have F2 := Fld.same W2 F_pageLength_a1
  have K2 : Keep h0 h2 [a1] := Keep.wr (Keep.refl h0 [a1]) W2 (Or.inl (List.mem_of_getElem? (i := 0) rfl))
  have N2 := Fr.snoc X2 N0 g_a1
  show OwnR _ _ _ _ _ _ _ (T2.setTop (mkF m 9 #[.val (.ref a1), .val (.ref a2), .val (.int p3), .val (.int p4)] []))
  refine OwnR.of (fun _ hr => XS.aloadN X2.here hx rfl (hb hby d1_9) rfl rfl hr) ?_
  show OwnR _ _ _ _ _ _ _ (T2.setTop (mkF m 10 #[.val (.ref a1), .val (.ref a2), .val (.int p3), .val (.int p4)] [(.ref a1)]))
  refine OwnR.of (fun _ hr => XS.iloadN X2.here hx rfl (hb hby d1_10) rfl hr) ?_
  show OwnR _ _ _ _ _ _ _ (T2.setTop (mkF m 11 #[.val (.ref a1), .val (.ref a2), .val (.int p3), .val (.int p4)] [(.int p3), (.ref a1)]))
  obtain ⟨T3, h3, X3, e3, W3, st3⟩ := putF X2 hx hZ hown (host := "") (Or.inl (hw _ (List.mem_of_getElem? (i := 12) rfl))) Via.refl e2 (Fld.other W2 F_limit_a1 (Or.inr (slot_ne (Or.inl (hw _ (List.mem_of_getElem? (i := 13) rfl))) (Or.inr (hw _ (List.mem_of_getElem? (i := 11) rfl))) (by decide) (t := .int) (t' := .int) (by decide) (by decide)))) (Exa.keep E_a1 K2) (Or.inl (hw _ (List.mem_of_getElem? (i := 13) rfl))) (hw _ (List.mem_of_getElem? (i := 1) rfl)) (ty := .int) (by decide) rfl rfl (g := (mkF m 11 #[.val (.ref a1), .val (.ref a2), .val (.int p3), .val (.int p4)] [(.int p3), (.ref a1)])) rfl rfl (hb hby d1_11)
  refine OwnR.of (st3) ?_
  have F3 := Fld.same W3 (Fld.other W2 F_limit_a1 (Or.inr (slot_ne (Or.inl (hw _ (List.mem_of_getElem? (i := 13) rfl))) (Or.inr (hw _ (List.mem_of_getElem? (i := 11) rfl))) (by decide) (t := .int) (t' := .int) (by decide) (by decide))))
  have K3 : Keep h0 h3 [a1] := Keep.wr K2 W3 (Or.inl (List.mem_of_getElem? (i := 0) rfl))
  have N3 := Fr.snoc X3 N2 g_a1
  show OwnR _ _ _ _ _ _ _ (T3.setTop (mkF m 14 #[.val (.ref a1), .val (.ref a2), .val (.int p3), .val (.int p4)] []))
  refine OwnR.of (fun _ hr => XS.aloadN X3.here hx rfl (hb hby d1_14) rfl rfl hr) ?_
  show OwnR _ _ _ _ _ _ _ (T3.setTop (mkF m 15 #[.val (.ref a1), .val (.ref a2), .val (.int p3), .val (.int p4)] [(.ref a1)]))
  refine OwnR.of (fun _ hr => XS.aloadN X3.here hx rfl (hb hby d1_15) rfl rfl hr) ?_
  show OwnR _ _ _ _ _ _ _ (T3.setTop (mkF m 16 #[.val (.ref a1), .val (.ref a2), .val (.int p3), .val (.int p4)] [(.ref a2), (.ref a1)]))
  obtain ⟨T4, h4, X4, e4, W4, st4⟩ := putF X3 hx hZ hown (host := "") (Or.inl (hw _ (List.mem_of_getElem? (i := 14) rfl))) Via.refl e3 (Fld.other W3 (Fld.other W2 F_last_a1 (Or.inr (slot_ne (Or.inl (hw _ (List.mem_of_getElem? (i := 15) rfl))) (Or.inr (hw _ (List.mem_of_getElem? (i := 11) rfl))) (by decide) (t := (.object "java/lang/Object")) (t' := .int) (by decide) (by decide)))) (Or.inr (slot_ne (Or.inl (hw _ (List.mem_of_getElem? (i := 15) rfl))) (Or.inl (hw _ (List.mem_of_getElem? (i := 13) rfl))) (by decide) (t := (.object "java/lang/Object")) (t' := .int) (by decide) (by decide)))) (Exa.keep E_a1 K3) (Or.inl (hw _ (List.mem_of_getElem? (i := 15) rfl))) (hw _ (List.mem_of_getElem? (i := 1) rfl)) (ty := (.object "java/lang/Object")) (by decide) rfl rfl (g := (mkF m 16 #[.val (.ref a1), .val (.ref a2), .val (.int p3), .val (.int p4)] [(.ref a2), (.ref a1)])) rfl rfl (hb hby d1_16)
  refine OwnR.of (st4) ?_
  have F4 := Fld.same W4 (Fld.other W3 (Fld.other W2 F_last_a1 (Or.inr (slot_ne (Or.inl (hw _ (List.mem_of_getElem? (i := 15) rfl))) (Or.inr (hw _ (List.mem_of_getElem? (i := 11) rfl))) (by decide) (t := (.object "java/lang/Object")) (t' := .int) (by decide) (by decide)))) (Or.inr (slot_ne (Or.inl (hw _ (List.mem_of_getElem? (i := 15) rfl))) (Or.inl (hw _ (List.mem_of_getElem? (i := 13) rfl))) (by decide) (t := (.object "java/lang/Object")) (t' := .int) (by decide) (by decide))))
  have K4 : Keep h0 h4 [a1] := Keep.wr K3 W4 (Or.inl (List.mem_of_getElem? (i := 0) rfl))
  have N4 := Fr.snoc X4 N3 g_a1
  show OwnR _ _ _ _ _ _ _ (T4.setTop (mkF m 19 #[.val (.ref a1), .val (.ref a2), .val (.int p3), .val (.int p4)] []))
  refine OwnR.of (fun _ hr => XS.aloadN X4.here hx rfl (hb hby d1_19) rfl rfl hr) ?_
  show OwnR _ _ _ _ _ _ _ (T4.setTop (mkF m 20 #[.val (.ref a1), .val (.ref a2), .val (.int p3), .val (.int p4)] [(.ref a1)]))
  refine OwnR.of (fun _ hr => XS.iconst X4.here hx rfl (hb hby d1_20) hr) ?_
  show OwnR _ _ _ _ _ _ _ (T4.setTop (mkF m 21 #[.val (.ref a1), .val (.ref a2), .val (.int p3), .val (.int p4)] [(.int (1 : Int32)), (.ref a1)]))
  obtain ⟨T5, h5, k5, X5, e5, E5, A5, AE5, O5, st5⟩ := newRE X4 hx hZ hown (hw _ (List.mem_of_getElem? (i := 16) rfl)) (hw _ (List.mem_of_getElem? (i := 17) rfl)) e4 (g := (mkF m 21 #[.val (.ref a1), .val (.ref a2), .val (.int p3), .val (.int p4)] [(.int (1 : Int32)), (.ref a1)])) rfl (hb hby d1_21) rfl (by decide) (cap := 1) (by decide) (by decide) (by decide) (by decide) (ad := "[Ljava/lang/Object;") rfl
  obtain ⟨b5, g5⟩ : ∃ z, z = h4.size := ⟨_, rfl⟩
  rw [← g5] at A5 AE5 st5
  refine OwnR.of (st5) ?_
  have gn_b5 : n0 ≤ b5 := Nat.le_trans (Nat.le_trans Z0 K4.1) (Nat.le_of_eq g5.symm)
  have sz_b5 : h0.size ≤ b5 := Nat.le_trans K4.1 (Nat.le_of_eq g5.symm)
  have K5 : Keep h0 h5 [a1] := Keep.ext K4 E5
  have V5 : Arv Z h5 b5 k5 (.object "java/lang/Object") (1 : Int32) [.null] .null := (Arv.new A5 (by decide)).pad (pad_rep [] .null 1)
  show OwnR _ _ _ _ _ _ _ (T5.setTop (mkF m 24 #[.val (.ref a1), .val (.ref a2), .val (.int p3), .val (.int p4)] [(.ref b5), (.ref a1)]))
  refine OwnR.of (fun _ hr => XS.dup X5.here hx rfl (hb hby d1_24) rfl rfl hr) ?_
  show OwnR _ _ _ _ _ _ _ (T5.setTop (mkF m 25 #[.val (.ref a1), .val (.ref a2), .val (.int p3), .val (.int p4)] [(.ref b5), (.ref b5), (.ref a1)]))
  refine OwnR.of (fun _ hr => XS.iconst X5.here hx rfl (hb hby d1_25) hr) ?_
  show OwnR _ _ _ _ _ _ _ (T5.setTop (mkF m 26 #[.val (.ref a1), .val (.ref a2), .val (.int p3), .val (.int p4)] [(.int (0 : Int32)), (.ref b5), (.ref b5), (.ref a1)]))
  refine OwnR.of (fun _ hr => XS.aloadN X5.here hx rfl (hb hby d1_26) rfl rfl hr) ?_
  show OwnR _ _ _ _ _ _ _ (T5.setTop (mkF m 27 #[.val (.ref a1), .val (.ref a2), .val (.int p3), .val (.int p4)] [(.ref a2), (.int (0 : Int32)), (.ref b5), (.ref b5), (.ref a1)]))
  obtain ⟨cl6, Ar6, q6, S6, N6q, H6, G6⟩ := id V5
  have hin6 : ¬ ((0 : Int32) < 0 ∨ cl6.slots.size ≤ ((0 : Int32)).toNatClampNeg) := (inb_of S6 ⟨by decide, by decide⟩)
  obtain ⟨T6, h6, X6, e6, W6, st6⟩ := stR X5 hx hZ e5 Ar6 (j := (0 : Int32)) hin6 rfl (Sto.ofV Ar6 q6 O5 (Ins.of_exa (Exa.keep E_a2 K5) (hw _ (List.mem_of_getElem? (i := 18) rfl)))) (g := (mkF m 27 #[.val (.ref a1), .val (.ref a2), .val (.int p3), .val (.int p4)] [(.ref a2), (.int (0 : Int32)), (.ref b5), (.ref b5), (.ref a1)])) rfl rfl (hb hby d1_27)
  refine OwnR.of (st6) ?_
  have V6 := Arv.set Ar6 q6 S6 N6q H6 G6 rfl W6 0 rfl (Nat.le_of_ble_eq_true rfl)
  have V6 : Arv Z h6 b5 k5 (.object "java/lang/Object") (1 : Int32) [(.ref a2)] .null := V6
  have K6 : Keep h0 h6 [a1] := Keep.wr K5 W6 (Or.inr sz_b5)
  have N6 := Fr.snoc X6 N4 gn_b5
  show OwnR _ _ _ _ _ _ _ (T6.setTop (mkF m 28 #[.val (.ref a1), .val (.ref a2), .val (.int p3), .val (.int p4)] [(.ref b5), (.ref a1)]))
  obtain ⟨T7, h7, X7, e7, W7, st7⟩ := putF X6 hx hZ hown (host := "") (Or.inl (hw _ (List.mem_of_getElem? (i := 19) rfl))) Via.refl e6 (Fld.other W6 (Fld.ext E5 (Fld.other W4 (Fld.other W3 (Fld.other W2 F_pages_a1 (Or.inr (slot_ne (Or.inl (hw _ (List.mem_of_getElem? (i := 20) rfl))) (Or.inr (hw _ (List.mem_of_getElem? (i := 11) rfl))) (by decide) (t := (.array (.object "java/lang/Object"))) (t' := .int) (by decide) (by decide)))) (Or.inr (slot_ne (Or.inl (hw _ (List.mem_of_getElem? (i := 20) rfl))) (Or.inl (hw _ (List.mem_of_getElem? (i := 13) rfl))) (by decide) (t := (.array (.object "java/lang/Object"))) (t' := .int) (by decide) (by decide)))) (Or.inr (slot_ne (Or.inl (hw _ (List.mem_of_getElem? (i := 20) rfl))) (Or.inl (hw _ (List.mem_of_getElem? (i := 15) rfl))) (by decide) (t := (.array (.object "java/lang/Object"))) (t' := (.object "java/lang/Object")) (by decide) (by decide))))) (Or.inl (Nat.ne_of_lt (Nat.lt_of_lt_of_le (Exa.keep E_a1 K4).lt (Nat.le_of_eq g5.symm))))) (Exa.keep E_a1 K6) (Or.inl (hw _ (List.mem_of_getElem? (i := 20) rfl))) (hw _ (List.mem_of_getElem? (i := 1) rfl)) (ty := (.array (.object "java/lang/Object"))) (by decide) rfl rfl (g := (mkF m 28 #[.val (.ref a1), .val (.ref a2), .val (.int p3), .val (.int p4)] [(.ref b5), (.ref a1)])) rfl rfl (hb hby d1_28)
  refine OwnR.of (st7) ?_
  have F7 := Fld.same W7 (Fld.other W6 (Fld.ext E5 (Fld.other W4 (Fld.other W3 (Fld.other W2 F_pages_a1 (Or.inr (slot_ne (Or.inl (hw _ (List.mem_of_getElem? (i := 20) rfl))) (Or.inr (hw _ (List.mem_of_getElem? (i := 11) rfl))) (by decide) (t := (.array (.object "java/lang/Object"))) (t' := .int) (by decide) (by decide)))) (Or.inr (slot_ne (Or.inl (hw _ (List.mem_of_getElem? (i := 20) rfl))) (Or.inl (hw _ (List.mem_of_getElem? (i := 13) rfl))) (by decide) (t := (.array (.object "java/lang/Object"))) (t' := .int) (by decide) (by decide)))) (Or.inr (slot_ne (Or.inl (hw _ (List.mem_of_getElem? (i := 20) rfl))) (Or.inl (hw _ (List.mem_of_getElem? (i := 15) rfl))) (by decide) (t := (.array (.object "java/lang/Object"))) (t' := (.object "java/lang/Object")) (by decide) (by decide))))) (Or.inl (Nat.ne_of_lt (Nat.lt_of_lt_of_le (Exa.keep E_a1 K4).lt (Nat.le_of_eq g5.symm)))))
  have K7 : Keep h0 h7 [a1] := Keep.wr K6 W7 (Or.inl (List.mem_of_getElem? (i := 0) rfl))
  have N7 := Fr.snoc X7 N6 g_a1
  show OwnR _ _ _ _ _ _ _ (T7.setTop (mkF m 31 #[.val (.ref a1), .val (.ref a2), .val (.int p3), .val (.int p4)] []))
  refine OwnR.of (fun _ hr => XS.aloadN X7.here hx rfl (hb hby d1_31) rfl rfl hr) ?_
  show OwnR _ _ _ _ _ _ _ (T7.setTop (mkF m 32 #[.val (.ref a1), .val (.ref a2), .val (.int p3), .val (.int p4)] [(.ref a1)]))
  refine OwnR.of (fun _ hr => XS.iconst X7.here hx rfl (hb hby d1_32) hr) ?_
  show OwnR _ _ _ _ _ _ _ (T7.setTop (mkF m 33 #[.val (.ref a1), .val (.ref a2), .val (.int p3), .val (.int p4)] [(.int (1 : Int32)), (.ref a1)]))
  obtain ⟨T8, h8, k8, X8, e8, E8, A8, AE8, st8⟩ := newPE X7 hx hZ (hw _ (List.mem_of_getElem? (i := 3) rfl)) e7 (g := (mkF m 33 #[.val (.ref a1), .val (.ref a2), .val (.int p3), .val (.int p4)] [(.int (1 : Int32)), (.ref a1)])) rfl (hb hby d1_33) rfl (by decide) (cap := 1) (by decide) (by decide) (by decide) (by decide) (ad := "[I") rfl
  obtain ⟨b8, g8⟩ : ∃ z, z = h7.size := ⟨_, rfl⟩
  rw [← g8] at A8 AE8 st8
  refine OwnR.of (st8) ?_
  have gn_b8 : n0 ≤ b8 := Nat.le_trans (Nat.le_trans Z0 K7.1) (Nat.le_of_eq g8.symm)
  have sz_b8 : h0.size ≤ b8 := Nat.le_trans K7.1 (Nat.le_of_eq g8.symm)
  have K8 : Keep h0 h8 [a1] := Keep.ext K7 E8
  have V8 : Arv Z h8 b8 k8 .int (1 : Int32) [(.int (0 : Int32))] (.int (0 : Int32)) := (Arv.new A8 (by decide)).pad (pad_rep [] (.int (0 : Int32)) 1)
  show OwnR _ _ _ _ _ _ _ (T8.setTop (mkF m 35 #[.val (.ref a1), .val (.ref a2), .val (.int p3), .val (.int p4)] [(.ref b8), (.ref a1)]))
  obtain ⟨T9, h9, X9, e9, W9, st9⟩ := putF X8 hx hZ hown (host := "") (Or.inl (hw _ (List.mem_of_getElem? (i := 21) rfl))) Via.refl e8 (Fld.ext E8 (Fld.other W7 (Fld.other W6 (Fld.ext E5 (Fld.other W4 (Fld.other W3 (Fld.other W2 F_firsts_a1 (Or.inr (slot_ne (Or.inl (hw _ (List.mem_of_getElem? (i := 22) rfl))) (Or.inr (hw _ (List.mem_of_getElem? (i := 11) rfl))) (by decide) (t := (.array .int)) (t' := .int) (by decide) (by decide)))) (Or.inr (slot_ne (Or.inl (hw _ (List.mem_of_getElem? (i := 22) rfl))) (Or.inl (hw _ (List.mem_of_getElem? (i := 13) rfl))) (by decide) (t := (.array .int)) (t' := .int) (by decide) (by decide)))) (Or.inr (slot_ne (Or.inl (hw _ (List.mem_of_getElem? (i := 22) rfl))) (Or.inl (hw _ (List.mem_of_getElem? (i := 15) rfl))) (by decide) (t := (.array .int)) (t' := (.object "java/lang/Object")) (by decide) (by decide))))) (Or.inl (Nat.ne_of_lt (Nat.lt_of_lt_of_le (Exa.keep E_a1 K4).lt (Nat.le_of_eq g5.symm))))) (Or.inr (slot_ne (Or.inl (hw _ (List.mem_of_getElem? (i := 22) rfl))) (Or.inl (hw _ (List.mem_of_getElem? (i := 20) rfl))) (by decide) (t := (.array .int)) (t' := (.array (.object "java/lang/Object"))) (by decide) (by decide))))) (Exa.keep E_a1 K8) (Or.inl (hw _ (List.mem_of_getElem? (i := 22) rfl))) (hw _ (List.mem_of_getElem? (i := 1) rfl)) (ty := (.array .int)) (by decide) rfl rfl (g := (mkF m 35 #[.val (.ref a1), .val (.ref a2), .val (.int p3), .val (.int p4)] [(.ref b8), (.ref a1)])) rfl rfl (hb hby d1_35)
  refine OwnR.of (st9) ?_
  have F9 := Fld.same W9 (Fld.ext E8 (Fld.other W7 (Fld.other W6 (Fld.ext E5 (Fld.other W4 (Fld.other W3 (Fld.other W2 F_firsts_a1 (Or.inr (slot_ne (Or.inl (hw _ (List.mem_of_getElem? (i := 22) rfl))) (Or.inr (hw _ (List.mem_of_getElem? (i := 11) rfl))) (by decide) (t := (.array .int)) (t' := .int) (by decide) (by decide)))) (Or.inr (slot_ne (Or.inl (hw _ (List.mem_of_getElem? (i := 22) rfl))) (Or.inl (hw _ (List.mem_of_getElem? (i := 13) rfl))) (by decide) (t := (.array .int)) (t' := .int) (by decide) (by decide)))) (Or.inr (slot_ne (Or.inl (hw _ (List.mem_of_getElem? (i := 22) rfl))) (Or.inl (hw _ (List.mem_of_getElem? (i := 15) rfl))) (by decide) (t := (.array .int)) (t' := (.object "java/lang/Object")) (by decide) (by decide))))) (Or.inl (Nat.ne_of_lt (Nat.lt_of_lt_of_le (Exa.keep E_a1 K4).lt (Nat.le_of_eq g5.symm))))) (Or.inr (slot_ne (Or.inl (hw _ (List.mem_of_getElem? (i := 22) rfl))) (Or.inl (hw _ (List.mem_of_getElem? (i := 20) rfl))) (by decide) (t := (.array .int)) (t' := (.array (.object "java/lang/Object"))) (by decide) (by decide)))))
  have K9 : Keep h0 h9 [a1] := Keep.wr K8 W9 (Or.inl (List.mem_of_getElem? (i := 0) rfl))
  have N9 := Fr.snoc X9 N7 g_a1
  show OwnR _ _ _ _ _ _ _ (T9.setTop (mkF m 38 #[.val (.ref a1), .val (.ref a2), .val (.int p3), .val (.int p4)] []))
  refine OwnR.of (fun _ hr => XS.aloadN X9.here hx rfl (hb hby d1_38) rfl rfl hr) ?_
  show OwnR _ _ _ _ _ _ _ (T9.setTop (mkF m 39 #[.val (.ref a1), .val (.ref a2), .val (.int p3), .val (.int p4)] [(.ref a1)]))
  refine OwnR.of (fun _ hr => XS.iconst X9.here hx rfl (hb hby d1_39) hr) ?_
  show OwnR _ _ _ _ _ _ _ (T9.setTop (mkF m 40 #[.val (.ref a1), .val (.ref a2), .val (.int p3), .val (.int p4)] [(.int (1 : Int32)), (.ref a1)]))
  obtain ⟨T10, h10, X10, e10, W10, st10⟩ := putF X9 hx hZ hown (host := "") (Or.inl (hw _ (List.mem_of_getElem? (i := 23) rfl))) Via.refl e9 (Fld.other W9 (Fld.ext E8 (Fld.other W7 (Fld.other W6 (Fld.ext E5 (Fld.other W4 (Fld.other W3 (Fld.other W2 F_count_a1 (Or.inr (slot_ne (Or.inl (hw _ (List.mem_of_getElem? (i := 24) rfl))) (Or.inr (hw _ (List.mem_of_getElem? (i := 11) rfl))) (by decide) (t := .int) (t' := .int) (by decide) (by decide)))) (Or.inr (slot_ne (Or.inl (hw _ (List.mem_of_getElem? (i := 24) rfl))) (Or.inl (hw _ (List.mem_of_getElem? (i := 13) rfl))) (by decide) (t := .int) (t' := .int) (by decide) (by decide)))) (Or.inr (slot_ne (Or.inl (hw _ (List.mem_of_getElem? (i := 24) rfl))) (Or.inl (hw _ (List.mem_of_getElem? (i := 15) rfl))) (by decide) (t := .int) (t' := (.object "java/lang/Object")) (by decide) (by decide))))) (Or.inl (Nat.ne_of_lt (Nat.lt_of_lt_of_le (Exa.keep E_a1 K4).lt (Nat.le_of_eq g5.symm))))) (Or.inr (slot_ne (Or.inl (hw _ (List.mem_of_getElem? (i := 24) rfl))) (Or.inl (hw _ (List.mem_of_getElem? (i := 20) rfl))) (by decide) (t := .int) (t' := (.array (.object "java/lang/Object"))) (by decide) (by decide))))) (Or.inr (slot_ne (Or.inl (hw _ (List.mem_of_getElem? (i := 24) rfl))) (Or.inl (hw _ (List.mem_of_getElem? (i := 22) rfl))) (by decide) (t := .int) (t' := (.array .int)) (by decide) (by decide)))) (Exa.keep E_a1 K9) (Or.inl (hw _ (List.mem_of_getElem? (i := 24) rfl))) (hw _ (List.mem_of_getElem? (i := 1) rfl)) (ty := .int) (by decide) rfl rfl (g := (mkF m 40 #[.val (.ref a1), .val (.ref a2), .val (.int p3), .val (.int p4)] [(.int (1 : Int32)), (.ref a1)])) rfl rfl (hb hby d1_40)
  refine OwnR.of (st10) ?_
  have F10 := Fld.same W10 (Fld.other W9 (Fld.ext E8 (Fld.other W7 (Fld.other W6 (Fld.ext E5 (Fld.other W4 (Fld.other W3 (Fld.other W2 F_count_a1 (Or.inr (slot_ne (Or.inl (hw _ (List.mem_of_getElem? (i := 24) rfl))) (Or.inr (hw _ (List.mem_of_getElem? (i := 11) rfl))) (by decide) (t := .int) (t' := .int) (by decide) (by decide)))) (Or.inr (slot_ne (Or.inl (hw _ (List.mem_of_getElem? (i := 24) rfl))) (Or.inl (hw _ (List.mem_of_getElem? (i := 13) rfl))) (by decide) (t := .int) (t' := .int) (by decide) (by decide)))) (Or.inr (slot_ne (Or.inl (hw _ (List.mem_of_getElem? (i := 24) rfl))) (Or.inl (hw _ (List.mem_of_getElem? (i := 15) rfl))) (by decide) (t := .int) (t' := (.object "java/lang/Object")) (by decide) (by decide))))) (Or.inl (Nat.ne_of_lt (Nat.lt_of_lt_of_le (Exa.keep E_a1 K4).lt (Nat.le_of_eq g5.symm))))) (Or.inr (slot_ne (Or.inl (hw _ (List.mem_of_getElem? (i := 24) rfl))) (Or.inl (hw _ (List.mem_of_getElem? (i := 20) rfl))) (by decide) (t := .int) (t' := (.array (.object "java/lang/Object"))) (by decide) (by decide))))) (Or.inr (slot_ne (Or.inl (hw _ (List.mem_of_getElem? (i := 24) rfl))) (Or.inl (hw _ (List.mem_of_getElem? (i := 22) rfl))) (by decide) (t := .int) (t' := (.array .int)) (by decide) (by decide))))
  have K10 : Keep h0 h10 [a1] := Keep.wr K9 W10 (Or.inl (List.mem_of_getElem? (i := 0) rfl))
  have N10 := Fr.snoc X10 N9 g_a1
  show OwnR _ _ _ _ _ _ _ (T10.setTop (mkF m 43 #[.val (.ref a1), .val (.ref a2), .val (.int p3), .val (.int p4)] []))
  refine own_leafV X10 hx hlk Bd.returns (hb hby d1_43) (by decide) (by decide) ?_
  show QI Z a1 a2 p3 p4 h0 n0 _ T10.heap _
  rw [show T10.heap = h10 from e10]
  refine ⟨b5, k5, b8, k8, rfl, N10, ⟨K10, (Exa.keep E_a1 K10), (Fld.other W10 (Fld.other W9 (Fld.ext E8 (Fld.other W7 (Fld.other W6 (Fld.ext E5 (Fld.other W4 (Fld.other W3 F2 (Or.inr (slot_ne (Or.inr (hw _ (List.mem_of_getElem? (i := 11) rfl))) (Or.inl (hw _ (List.mem_of_getElem? (i := 13) rfl))) (by decide) (t := .int) (t' := .int) (by decide) (by decide)))) (Or.inr (slot_ne (Or.inr (hw _ (List.mem_of_getElem? (i := 11) rfl))) (Or.inl (hw _ (List.mem_of_getElem? (i := 15) rfl))) (by decide) (t := .int) (t' := (.object "java/lang/Object")) (by decide) (by decide))))) (Or.inl (Nat.ne_of_lt (Nat.lt_of_lt_of_le (Exa.keep E_a1 K4).lt (Nat.le_of_eq g5.symm))))) (Or.inr (slot_ne (Or.inr (hw _ (List.mem_of_getElem? (i := 11) rfl))) (Or.inl (hw _ (List.mem_of_getElem? (i := 20) rfl))) (by decide) (t := .int) (t' := (.array (.object "java/lang/Object"))) (by decide) (by decide))))) (Or.inr (slot_ne (Or.inr (hw _ (List.mem_of_getElem? (i := 11) rfl))) (Or.inl (hw _ (List.mem_of_getElem? (i := 22) rfl))) (by decide) (t := .int) (t' := (.array .int)) (by decide) (by decide)))) (Or.inr (slot_ne (Or.inr (hw _ (List.mem_of_getElem? (i := 11) rfl))) (Or.inl (hw _ (List.mem_of_getElem? (i := 24) rfl))) (by decide) (t := .int) (t' := .int) (by decide) (by decide)))), (Fld.other W10 (Fld.other W9 (Fld.ext E8 (Fld.other W7 (Fld.other W6 (Fld.ext E5 (Fld.other W4 F3 (Or.inr (slot_ne (Or.inl (hw _ (List.mem_of_getElem? (i := 13) rfl))) (Or.inl (hw _ (List.mem_of_getElem? (i := 15) rfl))) (by decide) (t := .int) (t' := (.object "java/lang/Object")) (by decide) (by decide))))) (Or.inl (Nat.ne_of_lt (Nat.lt_of_lt_of_le (Exa.keep E_a1 K4).lt (Nat.le_of_eq g5.symm))))) (Or.inr (slot_ne (Or.inl (hw _ (List.mem_of_getElem? (i := 13) rfl))) (Or.inl (hw _ (List.mem_of_getElem? (i := 20) rfl))) (by decide) (t := .int) (t' := (.array (.object "java/lang/Object"))) (by decide) (by decide))))) (Or.inr (slot_ne (Or.inl (hw _ (List.mem_of_getElem? (i := 13) rfl))) (Or.inl (hw _ (List.mem_of_getElem? (i := 22) rfl))) (by decide) (t := .int) (t' := (.array .int)) (by decide) (by decide)))) (Or.inr (slot_ne (Or.inl (hw _ (List.mem_of_getElem? (i := 13) rfl))) (Or.inl (hw _ (List.mem_of_getElem? (i := 24) rfl))) (by decide) (t := .int) (t' := .int) (by decide) (by decide)))), (Fld.other W10 (Fld.other W9 (Fld.ext E8 (Fld.other W7 (Fld.other W6 (Fld.ext E5 F4) (Or.inl (Nat.ne_of_lt (Nat.lt_of_lt_of_le (Exa.keep E_a1 K4).lt (Nat.le_of_eq g5.symm))))) (Or.inr (slot_ne (Or.inl (hw _ (List.mem_of_getElem? (i := 15) rfl))) (Or.inl (hw _ (List.mem_of_getElem? (i := 20) rfl))) (by decide) (t := (.object "java/lang/Object")) (t' := (.array (.object "java/lang/Object"))) (by decide) (by decide))))) (Or.inr (slot_ne (Or.inl (hw _ (List.mem_of_getElem? (i := 15) rfl))) (Or.inl (hw _ (List.mem_of_getElem? (i := 22) rfl))) (by decide) (t := (.object "java/lang/Object")) (t' := (.array .int)) (by decide) (by decide)))) (Or.inr (slot_ne (Or.inl (hw _ (List.mem_of_getElem? (i := 15) rfl))) (Or.inl (hw _ (List.mem_of_getElem? (i := 24) rfl))) (by decide) (t := (.object "java/lang/Object")) (t' := .int) (by decide) (by decide)))), (Fld.other W10 (Fld.other W9 (Fld.ext E8 F7) (Or.inr (slot_ne (Or.inl (hw _ (List.mem_of_getElem? (i := 20) rfl))) (Or.inl (hw _ (List.mem_of_getElem? (i := 22) rfl))) (by decide) (t := (.array (.object "java/lang/Object"))) (t' := (.array .int)) (by decide) (by decide)))) (Or.inr (slot_ne (Or.inl (hw _ (List.mem_of_getElem? (i := 20) rfl))) (Or.inl (hw _ (List.mem_of_getElem? (i := 24) rfl))) (by decide) (t := (.array (.object "java/lang/Object"))) (t' := .int) (by decide) (by decide)))), (Fld.other W10 F9 (Or.inr (slot_ne (Or.inl (hw _ (List.mem_of_getElem? (i := 22) rfl))) (Or.inl (hw _ (List.mem_of_getElem? (i := 24) rfl))) (by decide) (t := (.array .int)) (t' := .int) (by decide) (by decide)))), F10, (Arv.other (Arv.other (Arv.ext (Arv.other V6 W7 (Ne.symm (Nat.ne_of_lt (Nat.lt_of_lt_of_le (Exa.keep E_a1 K4).lt (Nat.le_of_eq g5.symm))))) E8) W9 (Ne.symm (Nat.ne_of_lt (Nat.lt_of_lt_of_le (Exa.keep E_a1 K4).lt (Nat.le_of_eq g5.symm))))) W10 (Ne.symm (Nat.ne_of_lt (Nat.lt_of_lt_of_le (Exa.keep E_a1 K4).lt (Nat.le_of_eq g5.symm))))), (Exa.wr W10 (Exa.wr W9 (Exa.ext E8 (Exa.wr W7 (Exa.wr W6 AE5))))), (Arv.other (Arv.other V8 W9 (Ne.symm (Nat.ne_of_lt (Nat.lt_of_lt_of_le (Exa.keep E_a1 K7).lt (Nat.le_of_eq g8.symm))))) W10 (Ne.symm (Nat.ne_of_lt (Nat.lt_of_lt_of_le (Exa.keep E_a1 K7).lt (Nat.le_of_eq g8.symm))))), sz_b5, gn_b5, sz_b8, gn_b8⟩⟩
theorem ef_rmTs (m : MethodId) (x0 : Addr) (x1 : Int32) (x2 : Int32) : entryFrame m #[(.ref x0), (.int x1), (.int x2)] 3 = mkF m 0 #[.val (.ref x0), .val (.int x1), .val (.int x2)] [] := by first | (simp [entryFrame, mkF, argsToLocals, Value.category]; done) | rfl
theorem d3_0 : decode prog_34_method_2_code 0 = .ok (.iload_n 1, 1) := by decide +kernel
theorem d3_1 : decode prog_34_method_2_code 1 = .ok (.ifCond .le 21, 3) := by decide +kernel
theorem d3_4 : decode prog_34_method_2_code 4 = .ok (.iload_n 1, 1) := by decide +kernel
theorem d3_5 : decode prog_34_method_2_code 5 = .ok (.i2l, 1) := by decide +kernel
theorem d3_6 : decode prog_34_method_2_code 6 = .ok (.iload_n 2, 1) := by decide +kernel
theorem d3_7 : decode prog_34_method_2_code 7 = .ok (.i2l, 1) := by decide +kernel
theorem d3_8 : decode prog_34_method_2_code 8 = .ok (.ladd, 1) := by decide +kernel
theorem d3_9 : decode prog_34_method_2_code 9 = .ok (.aload_n 0, 1) := by decide +kernel
theorem d3_10 : decode prog_34_method_2_code 10 = .ok (.getfield 13, 3) := by decide +kernel
theorem d3_13 : decode prog_34_method_2_code 13 = .ok (.i2l, 1) := by decide +kernel
theorem d3_14 : decode prog_34_method_2_code 14 = .ok (.lcmp, 1) := by decide +kernel
theorem d3_15 : decode prog_34_method_2_code 15 = .ok (.ifCond .le 7, 3) := by decide +kernel
theorem d3_18 : decode prog_34_method_2_code 18 = .ok (.iconst 1, 1) := by decide +kernel
theorem d3_19 : decode prog_34_method_2_code 19 = .ok (.goto 4, 3) := by decide +kernel
theorem d3_23 : decode prog_34_method_2_code 23 = .ok (.ireturn, 1) := by decide +kernel
theorem d3_22 : decode prog_34_method_2_code 22 = .ok (.iconst 0, 1) := by decide +kernel
def QTs (Z : State) (p2 : Int32) (p3 : Int32) (x1 : Int32) (h0 : Heap) (n0 : Nat) (v : Option Value) (h : Heap) (L : List Loc) : Prop := v = some (.int (own_turns p2 p3 x1)) ∧ Fr n0 L ∧ h = h0
set_option maxRecDepth 65536 in
set_option maxHeartbeats 40000000 in
theorem rmTs (l : Launch) (Z : State) (a0 : Array Value) (hw : ∀ d ∈ tables_1, d.before a0 Z = true) (ws : List Jvm.Cond) (a1 : Addr) (p2 : Int32) (p3 : Int32) (x1 : Int32) (h0 : Heap) (n0 : Nat) (Z0 : n0 ≤ h0.size) (E_a1 : Exa Z h0 a1 "com/example/tercet/tercet/core/Pages") (F_limit_a1 : Fld Z h0 a1 "com/example/tercet/tercet/core/Pages" "limit" "I" (.int x1)) :
    MetFree l (⟨"com/example/tercet/tercet/core/Pages", "turns", "(II)Z"⟩ : MethodName) (head1 (Jvm.Cond.code (⟨"com/example/tercet/tercet/core/Pages", "turns", "(II)Z"⟩ : MethodName) prog_34_method_2_code 3 (some .boolean) :: ws) ({ frames := 0, cells := 0, slots := 0, locals := 0 } : Room)) (fun a U => a = #[(.ref a1), (.int p2), (.int p3)] ∧ Z.Warmed39 U.vm ∧ U.heap = h0) (fun _ _ _ _ _ => True) (fun _ U o U' => ∃ v L, o = .returned v ∧ QTs Z p2 p3 x1 h0 n0 v U'.heap L ∧ FrameEnd U o U' L ({ frames := 0, cells := 0, slots := 0, locals := 0 } : Room).cells ({ frames := 0, cells := 0, slots := 0, locals := 0 } : Room).slots) := by
  refine MetFree.of_bodySF (plainFor_of_name pn_com_example_tercet_tercet_core_Pages) hisR ?_
  intro p e s m args below meth c s₁ Bd hml0 hP hK
  obtain ⟨rfl, hZ, hh⟩ := hP
  have hx := Bd.exec
  have hby := Bd.bytes
  have hlk := BodyLoose.notSynchronized Bd
  have hml : c.maxLocals = 3 := hml0
  have hown : s.vm.findClass "com/example/tercet/tercet/core/Pages" = some m.cls := findClass_of_methodNamed Bd.named
  have hnm := (name_of_methodNamed Bd.named Bd.method).1
  have X0 : Stand p l e ({ frames := 0, cells := 0, slots := 0, locals := 0 } : Room) s m #[(.ref a1), (.int p2), (.int p3)] below meth c s₁ [] 0 0 := Stand.of_body Bd
  have e0 : s₁.heap = h0 := by rw [← hh, Bd.state]; rfl
  have N0 := Fr.nil n0
  refine OwnR.of (s := s) (Q := QTs Z p2 p3 x1 h0 n0) (fun t k => castTop (ef_rmTs m a1 p2 p3) k) ?_
  show OwnR _ _ _ _ _ _ _ (s₁.setTop (mkF m 0 #[.val (.ref a1), .val (.int p2), .val (.int p3)] []))
  refine OwnR.of (fun _ hr => XS.iloadN X0.here hx rfl (hb hby d3_0) rfl hr) ?_
  show OwnR _ _ _ _ _ _ _ (s₁.setTop (mkF m 1 #[.val (.ref a1), .val (.int p2), .val (.int p3)] [(.int p2)]))
  by_cases hc1_1 : (0 : Int32) < p2
  · skip
    refine OwnR.of (fun _ hr => XS.ifNo X0.here hx rfl (hb hby d3_1) rfl ((if0 _ _).trans (tlt hc1_1).2.2.2) hr) ?_
    show OwnR _ _ _ _ _ _ _ (s₁.setTop (mkF m 4 #[.val (.ref a1), .val (.int p2), .val (.int p3)] []))
    refine OwnR.of (fun _ hr => XS.iloadN X0.here hx rfl (hb hby d3_4) rfl hr) ?_
    show OwnR _ _ _ _ _ _ _ (s₁.setTop (mkF m 5 #[.val (.ref a1), .val (.int p2), .val (.int p3)] [(.int p2)]))
    refine OwnR.of (fun _ hr => XS.i2l X0.here hx rfl (hb hby d3_5) rfl hr) ?_
    show OwnR _ _ _ _ _ _ _ (s₁.setTop (mkF m 6 #[.val (.ref a1), .val (.int p2), .val (.int p3)] [(.long (p2.toInt64))]))
    refine OwnR.of (fun _ hr => XS.iloadN X0.here hx rfl (hb hby d3_6) rfl hr) ?_
    show OwnR _ _ _ _ _ _ _ (s₁.setTop (mkF m 7 #[.val (.ref a1), .val (.int p2), .val (.int p3)] [(.int p3), (.long (p2.toInt64))]))
    refine OwnR.of (fun _ hr => XS.i2l X0.here hx rfl (hb hby d3_7) rfl hr) ?_
    show OwnR _ _ _ _ _ _ _ (s₁.setTop (mkF m 8 #[.val (.ref a1), .val (.int p2), .val (.int p3)] [(.long (p3.toInt64)), (.long (p2.toInt64))]))
    refine OwnR.of (fun _ hr => XS.ladd X0.here hx rfl (hb hby d3_8) rfl hr) ?_
    show OwnR _ _ _ _ _ _ _ (s₁.setTop (mkF m 9 #[.val (.ref a1), .val (.int p2), .val (.int p3)] [(.long ((p2.toInt64) + (p3.toInt64)))]))
    refine OwnR.of (fun _ hr => XS.aloadN X0.here hx rfl (hb hby d3_9) rfl rfl hr) ?_
    show OwnR _ _ _ _ _ _ _ (s₁.setTop (mkF m 10 #[.val (.ref a1), .val (.int p2), .val (.int p3)] [(.ref a1), (.long ((p2.toInt64) + (p3.toInt64)))]))
    obtain ⟨T2, X2, e2, st2⟩ := getF X0 hx hZ hown (host := "") (Or.inl (hw _ (List.mem_of_getElem? (i := 12) rfl))) Via.refl e0 F_limit_a1 (g := (mkF m 10 #[.val (.ref a1), .val (.int p2), .val (.int p3)] [(.ref a1), (.long ((p2.toInt64) + (p3.toInt64)))])) rfl rfl (hb hby d3_10)
    refine OwnR.of (st2) ?_
    show OwnR _ _ _ _ _ _ _ (T2.setTop (mkF m 13 #[.val (.ref a1), .val (.int p2), .val (.int p3)] [(.int x1), (.long ((p2.toInt64) + (p3.toInt64)))]))
    refine OwnR.of (fun _ hr => XS.i2l X2.here hx rfl (hb hby d3_13) rfl hr) ?_
    show OwnR _ _ _ _ _ _ _ (T2.setTop (mkF m 14 #[.val (.ref a1), .val (.int p2), .val (.int p3)] [(.long (x1.toInt64)), (.long ((p2.toInt64) + (p3.toInt64)))]))
    refine OwnR.of (fun _ hr => XS.lcmp X2.here hx rfl (hb hby d3_14) rfl hr) ?_
    show OwnR _ _ _ _ _ _ _ (T2.setTop (mkF m 15 #[.val (.ref a1), .val (.int p2), .val (.int p3)] [(.int (lcmpW ((p2.toInt64) + (p3.toInt64)) (x1.toInt64)))]))
    by_cases hc15_3 : (x1.toInt64) < ((p2.toInt64) + (p3.toInt64))
    · skip
      refine OwnR.of (fun _ hr => XS.ifNo X2.here hx rfl (hb hby d3_15) rfl ((if0 _ _).trans (tlt ((own_lcgt _ _).mpr hc15_3)).2.2.2) hr) ?_
      show OwnR _ _ _ _ _ _ _ (T2.setTop (mkF m 18 #[.val (.ref a1), .val (.int p2), .val (.int p3)] []))
      refine OwnR.of (fun _ hr => XS.iconst X2.here hx rfl (hb hby d3_18) hr) ?_
      show OwnR _ _ _ _ _ _ _ (T2.setTop (mkF m 19 #[.val (.ref a1), .val (.int p2), .val (.int p3)] [(.int (1 : Int32))]))
      refine OwnR.of (fun _ hr => XS.goto X2.here hx rfl (pc0 := 19) (pc' := 23) rfl (hb hby d3_19) (by decide) (by decide) hr) ?_
      show OwnR _ _ _ _ _ _ _ (T2.setTop (mkF m 23 #[.val (.ref a1), .val (.int p2), .val (.int p3)] [(.int (1 : Int32))]))
      refine own_leafN X2 hx hlk (t := .boolean) Bd.returns (by simp) (hb hby d3_23) (z' := (1 : Int32)) rfl (by decide) (by decide) ?_
      show QTs Z p2 p3 x1 h0 n0 _ T2.heap _
      rw [show T2.heap = h0 from e2]
      refine ⟨?_, N0, rfl⟩
      show (some (.int (1 : Int32)) : Option Value) = some (.int (own_turns p2 p3 x1))
      simp only [own_turns, if_pos hc1_1, if_pos hc15_3]
    · skip
      refine OwnR.of (fun _ hr => XS.ifYes X2.here hx rfl (pc0 := 15) (pc' := 22) rfl (hb hby d3_15) rfl ((if0 _ _).trans (flt ((not_congr (own_lcgt _ _)).mpr hc15_3)).2.2.2) (by decide) (by decide) hr) ?_
      show OwnR _ _ _ _ _ _ _ (T2.setTop (mkF m 22 #[.val (.ref a1), .val (.int p2), .val (.int p3)] []))
      refine OwnR.of (fun _ hr => XS.iconst X2.here hx rfl (hb hby d3_22) hr) ?_
      show OwnR _ _ _ _ _ _ _ (T2.setTop (mkF m 23 #[.val (.ref a1), .val (.int p2), .val (.int p3)] [(.int (0 : Int32))]))
      refine own_leafN X2 hx hlk (t := .boolean) Bd.returns (by simp) (hb hby d3_23) (z' := (0 : Int32)) rfl (by decide) (by decide) ?_
      show QTs Z p2 p3 x1 h0 n0 _ T2.heap _
      rw [show T2.heap = h0 from e2]
      refine ⟨?_, N0, rfl⟩
      show (some (.int (0 : Int32)) : Option Value) = some (.int (own_turns p2 p3 x1))
      simp only [own_turns, if_pos hc1_1, if_neg hc15_3]
  · skip
    refine OwnR.of (fun _ hr => XS.ifYes X0.here hx rfl (pc0 := 1) (pc' := 22) rfl (hb hby d3_1) rfl ((if0 _ _).trans (flt hc1_1).2.2.2) (by decide) (by decide) hr) ?_
    show OwnR _ _ _ _ _ _ _ (s₁.setTop (mkF m 22 #[.val (.ref a1), .val (.int p2), .val (.int p3)] []))
    refine OwnR.of (fun _ hr => XS.iconst X0.here hx rfl (hb hby d3_22) hr) ?_
    show OwnR _ _ _ _ _ _ _ (s₁.setTop (mkF m 23 #[.val (.ref a1), .val (.int p2), .val (.int p3)] [(.int (0 : Int32))]))
    refine own_leafN X0 hx hlk (t := .boolean) Bd.returns (by simp) (hb hby d3_23) (z' := (0 : Int32)) rfl (by decide) (by decide) ?_
    show QTs Z p2 p3 x1 h0 n0 _ s₁.heap _
    rw [show s₁.heap = h0 from e0]
    refine ⟨?_, N0, rfl⟩
    show (some (.int (0 : Int32)) : Option Value) = some (.int (own_turns p2 p3 x1))
    simp only [own_turns, if_neg hc1_1]
theorem pn_com_example_tercet_tercet_core_PagesTurnsPinLaw : plainName "com/example/tercet/tercet/core/PagesTurnsPinLaw" = true := by first | (simp [plainName, overriddenIn]; done) | decide +kernel
theorem ef_rmEx (m : MethodId) (x0 : Int32) (x1 : Int32) (x2 : Int32) : entryFrame m #[(.int x0), (.int x1), (.int x2)] 5 = mkF m 0 #[.val (.int x0), .val (.int x1), .val (.int x2), .unset, .unset] [] := by first | (simp [entryFrame, mkF, argsToLocals, Value.category]; done) | rfl
theorem d4_0 : decode method_2_code 0 = .ok (.iload_n 0, 1) := by decide +kernel
theorem d4_1 : decode method_2_code 1 = .ok (.ifCond .gt 5, 3) := by decide +kernel
theorem d4_6 : decode method_2_code 6 = .ok (.iload_n 2, 1) := by decide +kernel
theorem d4_7 : decode method_2_code 7 = .ok (.i2l, 1) := by decide +kernel
theorem d4_8 : decode method_2_code 8 = .ok (.iload_n 0, 1) := by decide +kernel
theorem d4_9 : decode method_2_code 9 = .ok (.i2l, 1) := by decide +kernel
theorem d4_10 : decode method_2_code 10 = .ok (.lsub, 1) := by decide +kernel
theorem d4_11 : decode method_2_code 11 = .ok (.lstore_n 3, 1) := by decide +kernel
theorem d4_12 : decode method_2_code 12 = .ok (.iload_n 1, 1) := by decide +kernel
theorem d4_13 : decode method_2_code 13 = .ok (.i2l, 1) := by decide +kernel
theorem d4_14 : decode method_2_code 14 = .ok (.lload_n 3, 1) := by decide +kernel
theorem d4_15 : decode method_2_code 15 = .ok (.lcmp, 1) := by decide +kernel
theorem d4_16 : decode method_2_code 16 = .ok (.ifCond .le 7, 3) := by decide +kernel
theorem d4_19 : decode method_2_code 19 = .ok (.iconst 1, 1) := by decide +kernel
theorem d4_20 : decode method_2_code 20 = .ok (.goto 4, 3) := by decide +kernel
theorem d4_24 : decode method_2_code 24 = .ok (.ireturn, 1) := by decide +kernel
theorem d4_23 : decode method_2_code 23 = .ok (.iconst 0, 1) := by decide +kernel
theorem d4_4 : decode method_2_code 4 = .ok (.iconst 0, 1) := by decide +kernel
theorem d4_5 : decode method_2_code 5 = .ok (.ireturn, 1) := by decide +kernel
def QEx (Z : State) (p1 : Int32) (p2 : Int32) (p3 : Int32) (h0 : Heap) (n0 : Nat) (v : Option Value) (h : Heap) (L : List Loc) : Prop := v = some (.int (own_exp p1 p2 p3)) ∧ Fr n0 L ∧ h = h0
set_option maxRecDepth 65536 in
set_option maxHeartbeats 40000000 in
theorem rmEx (l : Launch) (Z : State) (a0 : Array Value) (hw : ∀ d ∈ tables_1, d.before a0 Z = true) (ws : List Jvm.Cond) (p1 : Int32) (p2 : Int32) (p3 : Int32) (h0 : Heap) (n0 : Nat) (Z0 : n0 ≤ h0.size) :
    MetFree l (⟨"com/example/tercet/tercet/core/PagesTurnsPinLaw", "expect", "(III)Z"⟩ : MethodName) (head1 (Jvm.Cond.code (⟨"com/example/tercet/tercet/core/PagesTurnsPinLaw", "expect", "(III)Z"⟩ : MethodName) method_2_code 5 (some .boolean) :: ws) ({ frames := 0, cells := 0, slots := 0, locals := 0 } : Room)) (fun a U => a = #[(.int p1), (.int p2), (.int p3)] ∧ Z.Warmed39 U.vm ∧ U.heap = h0) (fun _ _ _ _ _ => True) (fun _ U o U' => ∃ v L, o = .returned v ∧ QEx Z p1 p2 p3 h0 n0 v U'.heap L ∧ FrameEnd U o U' L ({ frames := 0, cells := 0, slots := 0, locals := 0 } : Room).cells ({ frames := 0, cells := 0, slots := 0, locals := 0 } : Room).slots) := by
  refine MetFree.of_bodySF (plainFor_of_name pn_com_example_tercet_tercet_core_PagesTurnsPinLaw) hisR ?_
  intro p e s m args below meth c s₁ Bd hml0 hP hK
  obtain ⟨rfl, hZ, hh⟩ := hP
  have hx := Bd.exec
  have hby := Bd.bytes
  have hlk := BodyLoose.notSynchronized Bd
  have hml : c.maxLocals = 5 := hml0
  have hown : s.vm.findClass "com/example/tercet/tercet/core/PagesTurnsPinLaw" = some m.cls := findClass_of_methodNamed Bd.named
  have hnm := (name_of_methodNamed Bd.named Bd.method).1
  have X0 : Stand p l e ({ frames := 0, cells := 0, slots := 0, locals := 0 } : Room) s m #[(.int p1), (.int p2), (.int p3)] below meth c s₁ [] 0 0 := Stand.of_body Bd
  have e0 : s₁.heap = h0 := by rw [← hh, Bd.state]; rfl
  have N0 := Fr.nil n0
  refine OwnR.of (s := s) (Q := QEx Z p1 p2 p3 h0 n0) (fun t k => castTop (ef_rmEx m p1 p2 p3) k) ?_
  show OwnR _ _ _ _ _ _ _ (s₁.setTop (mkF m 0 #[.val (.int p1), .val (.int p2), .val (.int p3), .unset, .unset] []))
  refine OwnR.of (fun _ hr => XS.iloadN X0.here hx rfl (hb hby d4_0) rfl hr) ?_
  show OwnR _ _ _ _ _ _ _ (s₁.setTop (mkF m 1 #[.val (.int p1), .val (.int p2), .val (.int p3), .unset, .unset] [(.int p1)]))
  by_cases hc1_4 : (0 : Int32) < p1
  · skip
    refine OwnR.of (fun _ hr => XS.ifYes X0.here hx rfl (pc0 := 1) (pc' := 6) rfl (hb hby d4_1) rfl ((if0 _ _).trans (tlt hc1_4).2.2.1) (by decide) (by decide) hr) ?_
    show OwnR _ _ _ _ _ _ _ (s₁.setTop (mkF m 6 #[.val (.int p1), .val (.int p2), .val (.int p3), .unset, .unset] []))
    refine OwnR.of (fun _ hr => XS.iloadN X0.here hx rfl (hb hby d4_6) rfl hr) ?_
    show OwnR _ _ _ _ _ _ _ (s₁.setTop (mkF m 7 #[.val (.int p1), .val (.int p2), .val (.int p3), .unset, .unset] [(.int p3)]))
    refine OwnR.of (fun _ hr => XS.i2l X0.here hx rfl (hb hby d4_7) rfl hr) ?_
    show OwnR _ _ _ _ _ _ _ (s₁.setTop (mkF m 8 #[.val (.int p1), .val (.int p2), .val (.int p3), .unset, .unset] [(.long (p3.toInt64))]))
    refine OwnR.of (fun _ hr => XS.iloadN X0.here hx rfl (hb hby d4_8) rfl hr) ?_
    show OwnR _ _ _ _ _ _ _ (s₁.setTop (mkF m 9 #[.val (.int p1), .val (.int p2), .val (.int p3), .unset, .unset] [(.int p1), (.long (p3.toInt64))]))
    refine OwnR.of (fun _ hr => XS.i2l X0.here hx rfl (hb hby d4_9) rfl hr) ?_
    show OwnR _ _ _ _ _ _ _ (s₁.setTop (mkF m 10 #[.val (.int p1), .val (.int p2), .val (.int p3), .unset, .unset] [(.long (p1.toInt64)), (.long (p3.toInt64))]))
    refine OwnR.of (fun _ hr => XS.lsub X0.here hx rfl (hb hby d4_10) rfl hr) ?_
    show OwnR _ _ _ _ _ _ _ (s₁.setTop (mkF m 11 #[.val (.int p1), .val (.int p2), .val (.int p3), .unset, .unset] [(.long ((p3.toInt64) - (p1.toInt64)))]))
    refine OwnR.of (fun _ hr => XS.lstoreN X0.here hx rfl (hb hby d4_11) rfl (l' := #[.val (.int p1), .val (.int p2), .val (.int p3), .val (.long ((p3.toInt64) - (p1.toInt64))), .second]) rfl hr) ?_
    show OwnR _ _ _ _ _ _ _ (s₁.setTop (mkF m 12 #[.val (.int p1), .val (.int p2), .val (.int p3), .val (.long ((p3.toInt64) - (p1.toInt64))), .second] []))
    refine OwnR.of (fun _ hr => XS.iloadN X0.here hx rfl (hb hby d4_12) rfl hr) ?_
    show OwnR _ _ _ _ _ _ _ (s₁.setTop (mkF m 13 #[.val (.int p1), .val (.int p2), .val (.int p3), .val (.long ((p3.toInt64) - (p1.toInt64))), .second] [(.int p2)]))
    refine OwnR.of (fun _ hr => XS.i2l X0.here hx rfl (hb hby d4_13) rfl hr) ?_
    show OwnR _ _ _ _ _ _ _ (s₁.setTop (mkF m 14 #[.val (.int p1), .val (.int p2), .val (.int p3), .val (.long ((p3.toInt64) - (p1.toInt64))), .second] [(.long (p2.toInt64))]))
    refine OwnR.of (fun _ hr => XS.lloadN X0.here hx rfl (hb hby d4_14) rfl hr) ?_
    show OwnR _ _ _ _ _ _ _ (s₁.setTop (mkF m 15 #[.val (.int p1), .val (.int p2), .val (.int p3), .val (.long ((p3.toInt64) - (p1.toInt64))), .second] [(.long ((p3.toInt64) - (p1.toInt64))), (.long (p2.toInt64))]))
    refine OwnR.of (fun _ hr => XS.lcmp X0.here hx rfl (hb hby d4_15) rfl hr) ?_
    show OwnR _ _ _ _ _ _ _ (s₁.setTop (mkF m 16 #[.val (.int p1), .val (.int p2), .val (.int p3), .val (.long ((p3.toInt64) - (p1.toInt64))), .second] [(.int (lcmpW (p2.toInt64) ((p3.toInt64) - (p1.toInt64))))]))
    by_cases hc16_5 : ((p3.toInt64) - (p1.toInt64)) < (p2.toInt64)
    · skip
      refine OwnR.of (fun _ hr => XS.ifNo X0.here hx rfl (hb hby d4_16) rfl ((if0 _ _).trans (tlt ((own_lcgt _ _).mpr hc16_5)).2.2.2) hr) ?_
      show OwnR _ _ _ _ _ _ _ (s₁.setTop (mkF m 19 #[.val (.int p1), .val (.int p2), .val (.int p3), .val (.long ((p3.toInt64) - (p1.toInt64))), .second] []))
      refine OwnR.of (fun _ hr => XS.iconst X0.here hx rfl (hb hby d4_19) hr) ?_
      show OwnR _ _ _ _ _ _ _ (s₁.setTop (mkF m 20 #[.val (.int p1), .val (.int p2), .val (.int p3), .val (.long ((p3.toInt64) - (p1.toInt64))), .second] [(.int (1 : Int32))]))
      refine OwnR.of (fun _ hr => XS.goto X0.here hx rfl (pc0 := 20) (pc' := 24) rfl (hb hby d4_20) (by decide) (by decide) hr) ?_
      show OwnR _ _ _ _ _ _ _ (s₁.setTop (mkF m 24 #[.val (.int p1), .val (.int p2), .val (.int p3), .val (.long ((p3.toInt64) - (p1.toInt64))), .second] [(.int (1 : Int32))]))
      refine own_leafN X0 hx hlk (t := .boolean) Bd.returns (by simp) (hb hby d4_24) (z' := (1 : Int32)) rfl (by decide) (by decide) ?_
      show QEx Z p1 p2 p3 h0 n0 _ s₁.heap _
      rw [show s₁.heap = h0 from e0]
      refine ⟨?_, N0, rfl⟩
      show (some (.int (1 : Int32)) : Option Value) = some (.int (own_exp p1 p2 p3))
      simp only [own_exp, if_pos hc1_4, if_pos hc16_5]
    · skip
      refine OwnR.of (fun _ hr => XS.ifYes X0.here hx rfl (pc0 := 16) (pc' := 23) rfl (hb hby d4_16) rfl ((if0 _ _).trans (flt ((not_congr (own_lcgt _ _)).mpr hc16_5)).2.2.2) (by decide) (by decide) hr) ?_
      show OwnR _ _ _ _ _ _ _ (s₁.setTop (mkF m 23 #[.val (.int p1), .val (.int p2), .val (.int p3), .val (.long ((p3.toInt64) - (p1.toInt64))), .second] []))
      refine OwnR.of (fun _ hr => XS.iconst X0.here hx rfl (hb hby d4_23) hr) ?_
      show OwnR _ _ _ _ _ _ _ (s₁.setTop (mkF m 24 #[.val (.int p1), .val (.int p2), .val (.int p3), .val (.long ((p3.toInt64) - (p1.toInt64))), .second] [(.int (0 : Int32))]))
      refine own_leafN X0 hx hlk (t := .boolean) Bd.returns (by simp) (hb hby d4_24) (z' := (0 : Int32)) rfl (by decide) (by decide) ?_
      show QEx Z p1 p2 p3 h0 n0 _ s₁.heap _
      rw [show s₁.heap = h0 from e0]
      refine ⟨?_, N0, rfl⟩
      show (some (.int (0 : Int32)) : Option Value) = some (.int (own_exp p1 p2 p3))
      simp only [own_exp, if_pos hc1_4, if_neg hc16_5]
  · skip
    refine OwnR.of (fun _ hr => XS.ifNo X0.here hx rfl (hb hby d4_1) rfl ((if0 _ _).trans (flt hc1_4).2.2.1) hr) ?_
    show OwnR _ _ _ _ _ _ _ (s₁.setTop (mkF m 4 #[.val (.int p1), .val (.int p2), .val (.int p3), .unset, .unset] []))
    refine OwnR.of (fun _ hr => XS.iconst X0.here hx rfl (hb hby d4_4) hr) ?_
    show OwnR _ _ _ _ _ _ _ (s₁.setTop (mkF m 5 #[.val (.int p1), .val (.int p2), .val (.int p3), .unset, .unset] [(.int (0 : Int32))]))
    refine own_leafN X0 hx hlk (t := .boolean) Bd.returns (by simp) (hb hby d4_5) (z' := (0 : Int32)) rfl (by decide) (by decide) ?_
    show QEx Z p1 p2 p3 h0 n0 _ s₁.heap _
    rw [show s₁.heap = h0 from e0]
    refine ⟨?_, N0, rfl⟩
    show (some (.int (0 : Int32)) : Option Value) = some (.int (own_exp p1 p2 p3))
    simp only [own_exp, if_neg hc1_4]
theorem ef_rm0 (m : MethodId) (x0 : Int32) (x1 : Int32) (x2 : Int32) (x3 : Int32) (x4 : Int32) (x5 : Int32) : entryFrame m #[(.int x0), (.int x1), (.int x2), (.int x3), (.int x4), (.int x5)] maxLocals = mkF m 0 #[.val (.int x0), .val (.int x1), .val (.int x2), .val (.int x3), .val (.int x4), .val (.int x5), .unset, .unset, .unset] [] := by first | (simp [entryFrame, mkF, argsToLocals, Value.category, maxLocals]; done) | rfl
theorem pd__Ljava_lang_Object_II_V : parseMethodDescriptor "(Ljava/lang/Object;II)V" = some ⟨[(.object "java/lang/Object"), .int, .int], none⟩ := by decide +kernel
theorem pd__II_Z : parseMethodDescriptor "(II)Z" = some ⟨[.int, .int], some .boolean⟩ := by decide +kernel
theorem pd__III_Z : parseMethodDescriptor "(III)Z" = some ⟨[.int, .int, .int], some .boolean⟩ := by decide +kernel
theorem pd__ILjava_lang_Object__V : parseMethodDescriptor "(ILjava/lang/Object;)V" = some ⟨[.int, (.object "java/lang/Object")], none⟩ := by decide +kernel
def Q0 (Z : State)  (h0 : Heap) (n0 : Nat) (v : Option Value) (h : Heap) (L : List Loc) : Prop := v = some (.int (1 : Int32)) ∧ Fr n0 L
set_option maxRecDepth 65536 in
set_option maxHeartbeats 40000000 in
theorem rm0 (l : Launch) (Z : State) (a0 : Array Value) (hw : ∀ d ∈ tables_1, d.before a0 Z = true) (ws : List Jvm.Cond) (p1 : Int32) (p2 : Int32) (p3 : Int32) (p4 : Int32) (p5 : Int32) (p6 : Int32) (mo : Addr) (h0 : Heap) (n0 : Nat) (Z0 : n0 ≤ h0.size) (M_mo : OwnMir Z "[Ljava/lang/Object;" mo) :
    MetFree l x (head1 (Jvm.Cond.code x code maxLocals ret :: ws) room_1) (fun a U => a = #[(.int p1), (.int p2), (.int p3), (.int p4), (.int p5), (.int p6)] ∧ Z.Warmed39 U.vm ∧ U.heap = h0) (fun _ _ _ _ _ => True) (fun _ U o U' => ∃ v L, o = .returned v ∧ Q0 Z  h0 n0 v U'.heap L ∧ FrameEnd U o U' L 24 128) := by
  refine MetFree.of_bodySF (plainFor_of_name pn_com_example_tercet_tercet_core_PagesTurnsPinLaw) hisR ?_
  intro p e s m args below meth c s₁ Bd hml0 hP hK
  obtain ⟨rfl, hZ, hh⟩ := hP
  have hx := Bd.exec
  have hby := Bd.bytes
  have hlk := BodyLoose.notSynchronized Bd
  have hml : c.maxLocals = 9 := hml0
  have hown : s.vm.findClass "com/example/tercet/tercet/core/PagesTurnsPinLaw" = some m.cls := findClass_of_methodNamed Bd.named
  have hnm := (name_of_methodNamed Bd.named Bd.method).1
  have X0 : Stand p l e room_1 s m #[(.int p1), (.int p2), (.int p3), (.int p4), (.int p5), (.int p6)] below meth c s₁ [] 0 0 := Stand.of_body Bd
  have e0 : s₁.heap = h0 := by rw [← hh, Bd.state]; rfl
  have N0 := Fr.nil n0
  refine OwnR.of (s := s) (Q := Q0 Z  h0 n0) (fun t k => castTop (ef_rm0 m p1 p2 p3 p4 p5 p6) k) ?_
  show OwnR _ _ _ _ _ _ _ (s₁.setTop (mkF m 0 #[.val (.int p1), .val (.int p2), .val (.int p3), .val (.int p4), .val (.int p5), .val (.int p6), .unset, .unset, .unset] []))
  obtain ⟨T7, h7, X7, e7, E7, A7, D7, -, st7⟩ := newO X0 hx hZ hown (hw _ (List.mem_of_getElem? (i := 0) rfl)) (hw _ (List.mem_of_getElem? (i := 1) rfl)) (hw _ (List.mem_of_getElem? (i := 2) rfl)) e0 (g := (mkF m 0 #[.val (.int p1), .val (.int p2), .val (.int p3), .val (.int p4), .val (.int p5), .val (.int p6), .unset, .unset, .unset] [])) rfl (hb hby at_0) (by decide) (by decide)
  obtain ⟨b7, g7⟩ : ∃ z, z = h0.size := ⟨_, rfl⟩
  rw [← g7] at A7 D7 st7
  refine OwnR.of (st7) ?_
  have gn_b7 : n0 ≤ b7 := Nat.le_trans (Nat.le_trans Z0 (Keep.refl h0 []).1) (Nat.le_of_eq g7.symm)
  have sz_b7 : h0.size ≤ b7 := Nat.le_trans (Keep.refl h0 []).1 (Nat.le_of_eq g7.symm)
  have K7 : Keep h0 h7 [] := Keep.ext (Keep.refl h0 []) E7
  have F_pageLength_b7 : Fld Z h7 b7 "com/example/tercet/tercet/core/Pages" "pageLength" "I" (.int (0 : Int32)) := D7 (Or.inr (hw _ (List.mem_of_getElem? (i := 11) rfl))) (ty := .int) (by decide)
  have F_limit_b7 : Fld Z h7 b7 "com/example/tercet/tercet/core/Pages" "limit" "I" (.int (0 : Int32)) := D7 (Or.inl (hw _ (List.mem_of_getElem? (i := 13) rfl))) (ty := .int) (by decide)
  have F_last_b7 : Fld Z h7 b7 "com/example/tercet/tercet/core/Pages" "last" "Ljava/lang/Object;" .null := D7 (Or.inl (hw _ (List.mem_of_getElem? (i := 15) rfl))) (ty := (.object "java/lang/Object")) (by decide)
  have F_pages_b7 : Fld Z h7 b7 "com/example/tercet/tercet/core/Pages" "pages" "[Ljava/lang/Object;" .null := D7 (Or.inl (hw _ (List.mem_of_getElem? (i := 20) rfl))) (ty := (.array (.object "java/lang/Object"))) (by decide)
  have F_firsts_b7 : Fld Z h7 b7 "com/example/tercet/tercet/core/Pages" "firsts" "[I" .null := D7 (Or.inl (hw _ (List.mem_of_getElem? (i := 22) rfl))) (ty := (.array .int)) (by decide)
  have F_count_b7 : Fld Z h7 b7 "com/example/tercet/tercet/core/Pages" "count" "I" (.int (0 : Int32)) := D7 (Or.inl (hw _ (List.mem_of_getElem? (i := 24) rfl))) (ty := .int) (by decide)
  show OwnR _ _ _ _ _ _ _ (T7.setTop (mkF m 3 #[.val (.int p1), .val (.int p2), .val (.int p3), .val (.int p4), .val (.int p5), .val (.int p6), .unset, .unset, .unset] [(.ref b7)]))
  refine OwnR.of (fun _ hr => XS.dup X7.here hx rfl (hb hby at_3) rfl rfl hr) ?_
  show OwnR _ _ _ _ _ _ _ (T7.setTop (mkF m 4 #[.val (.int p1), .val (.int p2), .val (.int p3), .val (.int p4), .val (.int p5), .val (.int p6), .unset, .unset, .unset] [(.ref b7), (.ref b7)]))
  refine OwnR.of (fun _ hr => XS.iconst X7.here hx rfl (hb hby at_4) hr) ?_
  show OwnR _ _ _ _ _ _ _ (T7.setTop (mkF m 5 #[.val (.int p1), .val (.int p2), .val (.int p3), .val (.int p4), .val (.int p5), .val (.int p6), .unset, .unset, .unset] [(.int (0 : Int32)), (.ref b7), (.ref b7)]))
  obtain ⟨T8, h8, k8, X8, e8, E8, A8, AE8, st8⟩ := newPE X7 hx hZ (hw _ (List.mem_of_getElem? (i := 3) rfl)) e7 (g := (mkF m 5 #[.val (.int p1), .val (.int p2), .val (.int p3), .val (.int p4), .val (.int p5), .val (.int p6), .unset, .unset, .unset] [(.int (0 : Int32)), (.ref b7), (.ref b7)])) rfl (hb hby at_5) rfl (by decide) (cap := 0) (by decide) (by decide) (by decide) (by decide) (ad := "[I") rfl
  obtain ⟨b8, g8⟩ : ∃ z, z = h7.size := ⟨_, rfl⟩
  rw [← g8] at A8 AE8 st8
  refine OwnR.of (st8) ?_
  have gn_b8 : n0 ≤ b8 := Nat.le_trans (Nat.le_trans Z0 K7.1) (Nat.le_of_eq g8.symm)
  have sz_b8 : h0.size ≤ b8 := Nat.le_trans K7.1 (Nat.le_of_eq g8.symm)
  have K8 : Keep h0 h8 [] := Keep.ext K7 E8
  have V8 : Arv Z h8 b8 k8 .int (0 : Int32) [] (.int (0 : Int32)) := (Arv.new A8 (by decide)).pad (pad_rep [] (.int (0 : Int32)) 0)
  show OwnR _ _ _ _ _ _ _ (T8.setTop (mkF m 7 #[.val (.int p1), .val (.int p2), .val (.int p3), .val (.int p4), .val (.int p5), .val (.int p6), .unset, .unset, .unset] [(.ref b8), (.ref b7), (.ref b7)]))
  refine OwnR.of (fun _ hr => XS.iloadN X8.here hx rfl (hb hby at_7) rfl hr) ?_
  show OwnR _ _ _ _ _ _ _ (T8.setTop (mkF m 8 #[.val (.int p1), .val (.int p2), .val (.int p3), .val (.int p4), .val (.int p5), .val (.int p6), .unset, .unset, .unset] [(.int p1), (.ref b8), (.ref b7), (.ref b7)]))
  refine OwnR.of (fun _ hr => XS.iloadN X8.here hx rfl (hb hby at_8) rfl hr) ?_
  show OwnR _ _ _ _ _ _ _ (T8.setTop (mkF m 9 #[.val (.int p1), .val (.int p2), .val (.int p3), .val (.int p4), .val (.int p5), .val (.int p6), .unset, .unset, .unset] [(.int p2), (.int p1), (.ref b8), (.ref b7), (.ref b7)]))
  obtain ⟨_, _, ⟨T9, L9, kc9, ns9⟩, -, X9, ⟨Lc9, hQ9, l9, y9, z9⟩, st9⟩ := X8.specialBack hx (y := (⟨"com/example/tercet/tercet/core/Pages", "<init>", "(Ljava/lang/Object;II)V"⟩ : MethodName)) rfl hown (mvT hZ (hw _ (List.mem_of_getElem? (i := 4) rfl))) (mvT hZ (hw _ (List.mem_of_getElem? (i := 5) rfl))) (mvT hZ (hw _ (List.mem_of_getElem? (i := 6) rfl))) (by decide) (backOf (W := 1) (rmI l Z a0 hw [] b7 b8 p1 p2 h8 n0 (Nat.le_trans Z0 K8.1) (Exa.ext E8 A7) (Fld.ext E8 F_pageLength_b7) (Fld.ext E8 F_limit_b7) (Fld.ext E8 F_last_b7) (Fld.ext E8 F_pages_b7) (Fld.ext E8 F_firsts_b7) (Fld.ext E8 F_count_b7) AE8 gn_b7) hZ (hw _ (List.mem_of_getElem? (i := 6) rfl)) (hw _ (List.mem_of_getElem? (i := 2) rfl)) (by decide) (by decide)) (g := (mkF m 9 #[.val (.int p1), .val (.int p2), .val (.int p3), .val (.int p4), .val (.int p5), .val (.int p6), .unset, .unset, .unset] [(.int p2), (.int p1), (.ref b8), (.ref b7), (.ref b7)])) rfl (by rw [hml]; rfl) (Steps.refl _) (a := b7) (argsL := [(.ref b8), (.int p1), (.int p2)]) (rest := [(.ref b7)]) (lenOf pd__Ljava_lang_Object_II_V rfl) rfl (by show 2 * 0 + _ ≤ _; exact Nat.le_of_eq rfl) (hb hby at_9) (fun _ _ => ⟨rfl, e8, (by decide : 2 + 2 ≤ _), (by decide : 7 + 2 ≤ _)⟩)
  dsimp only [Pt.U, Pt.locs, Pt.cells, Pt.slots] at X9 l9 y9 z9 st9 hQ9
  subst l9 y9 z9
  obtain ⟨b_9, kb_9, c_9, kc_9, rfl, N9q, P9_0, P9_1, P9_2, P9_3, P9_4, P9_5, P9_6, P9_7, P9_8, P9_9, P9_10, P9_11, P9_12, P9_13, P9_14⟩ := hQ9
  have K9 : Keep h0 T9.heap [] := Keep.trans K8 P9_0 (allS (Or.inr sz_b7) all0)
  have sz_b_9 : h0.size ≤ b_9 := Nat.le_trans K8.1 P9_11
  have sz_c_9 : h0.size ≤ c_9 := Nat.le_trans K8.1 P9_13
  have N9 := Fr.app N0 N9q
  refine OwnR.of (fun _ hr => st9.trans hr) ?_
  show OwnR _ _ _ _ _ _ _ (T9.setTop (mkF m 12 #[.val (.int p1), .val (.int p2), .val (.int p3), .val (.int p4), .val (.int p5), .val (.int p6), .unset, .unset, .unset] [(.ref b7)]))
  refine OwnR.of (fun _ hr => XS.astore X9.here hx rfl (hb hby at_12) rfl rfl (l' := #[.val (.int p1), .val (.int p2), .val (.int p3), .val (.int p4), .val (.int p5), .val (.int p6), .val (.ref b7), .unset, .unset]) rfl hr) ?_
  show OwnR _ _ _ _ _ _ _ (T9.setTop (mkF m 14 #[.val (.int p1), .val (.int p2), .val (.int p3), .val (.int p4), .val (.int p5), .val (.int p6), .val (.ref b7), .unset, .unset] []))
  refine OwnR.of (fun _ hr => XS.aload X9.here hx rfl (hb hby at_14) rfl rfl hr) ?_
  show OwnR _ _ _ _ _ _ _ (T9.setTop (mkF m 16 #[.val (.int p1), .val (.int p2), .val (.int p3), .val (.int p4), .val (.int p5), .val (.int p6), .val (.ref b7), .unset, .unset] [(.ref b7)]))
  refine OwnR.of (fun _ hr => XS.iloadN X9.here hx rfl (hb hby at_16) rfl hr) ?_
  show OwnR _ _ _ _ _ _ _ (T9.setTop (mkF m 17 #[.val (.int p1), .val (.int p2), .val (.int p3), .val (.int p4), .val (.int p5), .val (.int p6), .val (.ref b7), .unset, .unset] [(.int p3), (.ref b7)]))
  refine OwnR.of (fun _ hr => XS.iloadN X9.here hx rfl (hb hby at_17) rfl hr) ?_
  show OwnR _ _ _ _ _ _ _ (T9.setTop (mkF m 18 #[.val (.int p1), .val (.int p2), .val (.int p3), .val (.int p4), .val (.int p5), .val (.int p6), .val (.ref b7), .unset, .unset] [(.int p4), (.int p3), (.ref b7)]))
  obtain ⟨cq10, kq10, q10a, q10b, q10c⟩ := isOf hZ rfl P9_1
  obtain ⟨_, _, ⟨T10, L10, kc10, ns10⟩, -, X10, ⟨Lc10, hQ10, l10, y10, z10⟩, st10⟩ := X9.virtualBack hx (y := (⟨"com/example/tercet/tercet/core/Pages", "turns", "(II)Z"⟩ : MethodName)) (z := (⟨"com/example/tercet/tercet/core/Pages", "turns", "(II)Z"⟩ : MethodName)) hown (mvT hZ (hw _ (List.mem_of_getElem? (i := 25) rfl))) (mvT hZ (hw _ (List.mem_of_getElem? (i := 26) rfl))) (notFace_of_selects (args := #[]) (mvT hZ (hw _ (List.mem_of_getElem? (i := 28) rfl)))) (mvT hZ (hw _ (List.mem_of_getElem? (i := 28) rfl))) (mvT hZ (hw _ (List.mem_of_getElem? (i := 27) rfl))) (by decide) (backOf (W := 0) (rmTs l Z a0 hw [] b7 p3 p4 p1 (T9.heap) n0 (Nat.le_trans Z0 K9.1) P9_1 P9_3) hZ (hw _ (List.mem_of_getElem? (i := 29) rfl)) (hw _ (List.mem_of_getElem? (i := 2) rfl)) (by decide) (by decide)) q10a q10c (g := (mkF m 18 #[.val (.int p1), .val (.int p2), .val (.int p3), .val (.int p4), .val (.int p5), .val (.int p6), .val (.ref b7), .unset, .unset] [(.int p4), (.int p3), (.ref b7)])) rfl (by rw [hml]; rfl) (Steps.refl _) (argsL := [(.int p3), (.int p4)]) (rest := []) (lenOf pd__II_Z rfl) rfl (by show 2 * 0 + _ ≤ _; exact Nat.le_of_eq rfl) (hb hby at_18) (fun _ _ => ⟨rfl, rfl, (by decide : 4 + 0 ≤ _), (by decide : 9 + 0 ≤ _)⟩)
  dsimp only [Pt.U, Pt.locs, Pt.cells, Pt.slots] at X10 l10 y10 z10 st10 hQ10
  subst l10 y10 z10
  obtain ⟨rfl, N10q, e10⟩ := hQ10
  have N10 := Fr.app N9 N10q
  refine OwnR.of (fun _ hr => st10.trans hr) ?_
  show OwnR _ _ _ _ _ _ _ (T10.setTop (mkF m 21 #[.val (.int p1), .val (.int p2), .val (.int p3), .val (.int p4), .val (.int p5), .val (.int p6), .val (.ref b7), .unset, .unset] [(.int (own_turns p3 p4 p1))]))
  refine OwnR.of (fun _ hr => XS.iloadN X10.here hx rfl (hb hby at_21) rfl hr) ?_
  show OwnR _ _ _ _ _ _ _ (T10.setTop (mkF m 22 #[.val (.int p1), .val (.int p2), .val (.int p3), .val (.int p4), .val (.int p5), .val (.int p6), .val (.ref b7), .unset, .unset] [(.int p3), (.int (own_turns p3 p4 p1))]))
  refine OwnR.of (fun _ hr => XS.iloadN X10.here hx rfl (hb hby at_22) rfl hr) ?_
  show OwnR _ _ _ _ _ _ _ (T10.setTop (mkF m 23 #[.val (.int p1), .val (.int p2), .val (.int p3), .val (.int p4), .val (.int p5), .val (.int p6), .val (.ref b7), .unset, .unset] [(.int p4), (.int p3), (.int (own_turns p3 p4 p1))]))
  refine OwnR.of (fun _ hr => XS.iloadN X10.here hx rfl (hb hby at_23) rfl hr) ?_
  show OwnR _ _ _ _ _ _ _ (T10.setTop (mkF m 24 #[.val (.int p1), .val (.int p2), .val (.int p3), .val (.int p4), .val (.int p5), .val (.int p6), .val (.ref b7), .unset, .unset] [(.int p1), (.int p4), (.int p3), (.int (own_turns p3 p4 p1))]))
  obtain ⟨_, _, ⟨T11, L11, kc11, ns11⟩, -, X11, ⟨Lc11, hQ11, l11, y11, z11⟩, st11⟩ := Jvm.LawKit.callS X10 hx (y := (⟨"com/example/tercet/tercet/core/PagesTurnsPinLaw", "expect", "(III)Z"⟩ : MethodName)) hown (mvT hZ (hw _ (List.mem_of_getElem? (i := 30) rfl))) (mvT hZ (hw _ (List.mem_of_getElem? (i := 31) rfl))) (mvT hZ (hw _ (List.mem_of_getElem? (i := 32) rfl))) (mvT hZ (hw _ (List.mem_of_getElem? (i := 33) rfl))) (by decide) (backOf (W := 1) (rmEx l Z a0 hw [] p3 p4 p1 (T9.heap) n0 (Nat.le_trans Z0 K9.1) ) hZ (hw _ (List.mem_of_getElem? (i := 33) rfl)) (hw _ (List.mem_of_getElem? (i := 32) rfl)) (by decide) (by decide)) (g := (mkF m 24 #[.val (.int p1), .val (.int p2), .val (.int p3), .val (.int p4), .val (.int p5), .val (.int p6), .val (.ref b7), .unset, .unset] [(.int p1), (.int p4), (.int p3), (.int (own_turns p3 p4 p1))])) rfl (by rw [hml]; rfl) (argsL := [(.int p3), (.int p4), (.int p1)]) (rest := [(.int (own_turns p3 p4 p1))]) (lenOf pd__III_Z rfl) rfl (by show 2 * 0 + _ ≤ _; exact Nat.le_of_eq rfl) (hb hby at_24) (fun _ _ => ⟨rfl, e10, (by decide : 4 + 0 ≤ _), (by decide : 9 + 0 ≤ _)⟩)
  dsimp only [Pt.U, Pt.locs, Pt.cells, Pt.slots] at X11 l11 y11 z11 st11 hQ11
  subst l11 y11 z11
  obtain ⟨rfl, N11q, e11⟩ := hQ11
  have N11 := Fr.app N10 N11q
  refine OwnR.of (st11) ?_
  show OwnR _ _ _ _ _ _ _ (T11.setTop (mkF m 27 #[.val (.int p1), .val (.int p2), .val (.int p3), .val (.int p4), .val (.int p5), .val (.int p6), .val (.ref b7), .unset, .unset] [(.int (own_exp p3 p4 p1)), (.int (own_turns p3 p4 p1))]))
  have hc27_12 : (own_turns p3 p4 p1) = (own_exp p3 p4 p1) := by
    refine Classical.byContradiction fun hbad => ?_
    exact hbad (own_law _ _ _)
  refine OwnR.of (fun _ hr => XS.icmpNo X11.here hx rfl (hb hby at_27) rfl (teq hc27_12).2 hr) ?_
  show OwnR _ _ _ _ _ _ _ (T11.setTop (mkF m 30 #[.val (.int p1), .val (.int p2), .val (.int p3), .val (.int p4), .val (.int p5), .val (.int p6), .val (.ref b7), .unset, .unset] []))
  refine OwnR.of (fun _ hr => XS.iconst X11.here hx rfl (hb hby at_30) hr) ?_
  show OwnR _ _ _ _ _ _ _ (T11.setTop (mkF m 31 #[.val (.int p1), .val (.int p2), .val (.int p3), .val (.int p4), .val (.int p5), .val (.int p6), .val (.ref b7), .unset, .unset] [(.int (1 : Int32))]))
  refine OwnR.of (fun _ hr => XS.goto X11.here hx rfl (pc0 := 31) (pc' := 35) rfl (hb hby at_31) (by decide) (by decide) hr) ?_
  show OwnR _ _ _ _ _ _ _ (T11.setTop (mkF m 35 #[.val (.int p1), .val (.int p2), .val (.int p3), .val (.int p4), .val (.int p5), .val (.int p6), .val (.ref b7), .unset, .unset] [(.int (1 : Int32))]))
  refine OwnR.of (fun _ hr => XS.istore X11.here hx rfl (hb hby at_35) rfl (l' := #[.val (.int p1), .val (.int p2), .val (.int p3), .val (.int p4), .val (.int p5), .val (.int p6), .val (.ref b7), .val (.int (1 : Int32)), .unset]) rfl hr) ?_
  show OwnR _ _ _ _ _ _ _ (T11.setTop (mkF m 37 #[.val (.int p1), .val (.int p2), .val (.int p3), .val (.int p4), .val (.int p5), .val (.int p6), .val (.ref b7), .val (.int (1 : Int32)), .unset] []))
  refine OwnR.of (fun _ hr => XS.aload X11.here hx rfl (hb hby at_37) rfl rfl hr) ?_
  show OwnR _ _ _ _ _ _ _ (T11.setTop (mkF m 39 #[.val (.int p1), .val (.int p2), .val (.int p3), .val (.int p4), .val (.int p5), .val (.int p6), .val (.ref b7), .val (.int (1 : Int32)), .unset] [(.ref b7)]))
  refine OwnR.of (fun _ hr => XS.iconst X11.here hx rfl (hb hby at_39) hr) ?_
  show OwnR _ _ _ _ _ _ _ (T11.setTop (mkF m 40 #[.val (.int p1), .val (.int p2), .val (.int p3), .val (.int p4), .val (.int p5), .val (.int p6), .val (.ref b7), .val (.int (1 : Int32)), .unset] [(.int (1 : Int32)), (.ref b7)]))
  refine OwnR.of (fun _ hr => XS.iconst X11.here hx rfl (hb hby at_40) hr) ?_
  show OwnR _ _ _ _ _ _ _ (T11.setTop (mkF m 41 #[.val (.int p1), .val (.int p2), .val (.int p3), .val (.int p4), .val (.int p5), .val (.int p6), .val (.ref b7), .val (.int (1 : Int32)), .unset] [(.int (0 : Int32)), (.int (1 : Int32)), (.ref b7)]))
  obtain ⟨T13, h13, k13, X13, e13, E13, A13, AE13, st13⟩ := newPE X11 hx hZ (hw _ (List.mem_of_getElem? (i := 3) rfl)) e11 (g := (mkF m 41 #[.val (.int p1), .val (.int p2), .val (.int p3), .val (.int p4), .val (.int p5), .val (.int p6), .val (.ref b7), .val (.int (1 : Int32)), .unset] [(.int (0 : Int32)), (.int (1 : Int32)), (.ref b7)])) rfl (hb hby at_41) rfl (by decide) (cap := 0) (by decide) (by decide) (by decide) (by decide) (ad := "[I") rfl
  obtain ⟨b13, g13⟩ : ∃ z, z = T9.heap.size := ⟨_, rfl⟩
  rw [← g13] at A13 AE13 st13
  refine OwnR.of (st13) ?_
  have gn_b13 : n0 ≤ b13 := Nat.le_trans (Nat.le_trans Z0 K9.1) (Nat.le_of_eq g13.symm)
  have sz_b13 : h0.size ≤ b13 := Nat.le_trans K9.1 (Nat.le_of_eq g13.symm)
  have K13 : Keep h0 h13 [] := Keep.ext K9 E13
  have V13 : Arv Z h13 b13 k13 .int (0 : Int32) [] (.int (0 : Int32)) := (Arv.new A13 (by decide)).pad (pad_rep [] (.int (0 : Int32)) 0)
  show OwnR _ _ _ _ _ _ _ (T13.setTop (mkF m 43 #[.val (.int p1), .val (.int p2), .val (.int p3), .val (.int p4), .val (.int p5), .val (.int p6), .val (.ref b7), .val (.int (1 : Int32)), .unset] [(.ref b13), (.int (1 : Int32)), (.ref b7)]))
  obtain ⟨cq14, kq14, q14a, q14b, q14c⟩ := isOf hZ e13 (Exa.ext E13 P9_1)
  obtain ⟨_, _, ⟨T14, L14, kc14, ns14⟩, -, X14, ⟨Lc14, hQ14, l14, y14, z14⟩, st14⟩ := X13.virtualBack hx (y := (⟨"com/example/tercet/tercet/core/Pages", "turn", "(ILjava/lang/Object;)V"⟩ : MethodName)) (z := (⟨"com/example/tercet/tercet/core/Pages", "turn", "(ILjava/lang/Object;)V"⟩ : MethodName)) hown (mvT hZ (hw _ (List.mem_of_getElem? (i := 34) rfl))) (mvT hZ (hw _ (List.mem_of_getElem? (i := 35) rfl))) (notFace_of_selects (args := #[]) (mvT hZ (hw _ (List.mem_of_getElem? (i := 37) rfl)))) (mvT hZ (hw _ (List.mem_of_getElem? (i := 37) rfl))) (mvT hZ (hw _ (List.mem_of_getElem? (i := 36) rfl))) (by decide) (backOf (W := 0) (rmT_1 l Z a0 hw [] b7 (1 : Int32) b13 p2 p1 b8 b_9 c_9 kb_9 kc_9 b8 (0 : Int32) mo h13 n0 (Nat.le_trans Z0 K13.1) (Exa.ext E13 P9_1) (Fld.ext E13 P9_2) (Fld.ext E13 P9_3) (Fld.ext E13 P9_4) (Fld.ext E13 P9_5) (Fld.ext E13 P9_6) (Fld.ext E13 P9_7) (Arv.ext P9_8 E13) (Arv.ext P9_10 E13) (Exa.ext E13 P9_9) AE13 (Exa.ext E13 (AE8.keep P9_0)) M_mo gn_b7 (Nat.ne_of_lt (Nat.lt_of_lt_of_le (Exa.ext E8 A7).lt P9_11)) (Nat.ne_of_lt (Nat.lt_of_lt_of_le (Exa.ext E8 A7).lt P9_13))) hZ (hw _ (List.mem_of_getElem? (i := 38) rfl)) (hw _ (List.mem_of_getElem? (i := 2) rfl)) (by decide) (by decide)) q14a q14c (g := (mkF m 43 #[.val (.int p1), .val (.int p2), .val (.int p3), .val (.int p4), .val (.int p5), .val (.int p6), .val (.ref b7), .val (.int (1 : Int32)), .unset] [(.ref b13), (.int (1 : Int32)), (.ref b7)])) rfl (by rw [hml]; rfl) (Steps.refl _) (argsL := [(.int (1 : Int32)), (.ref b13)]) (rest := []) (lenOf pd__ILjava_lang_Object__V rfl) rfl (by show 2 * 0 + _ ≤ _; exact Nat.le_of_eq rfl) (hb hby at_43) (fun _ _ => ⟨rfl, e13, (by decide : 5 + 2 ≤ _), (by decide : 9 + 4 ≤ _)⟩)
  dsimp only [Pt.U, Pt.locs, Pt.cells, Pt.slots] at X14 l14 y14 z14 st14 hQ14
  subst l14 y14 z14
  obtain ⟨b_14, kb_14, c_14, kc_14, rfl, N14q, P14_0, P14_1, P14_2, P14_3, P14_4, P14_5, P14_6, P14_7, P14_8, P14_9, P14_10, P14_11, P14_12, P14_13, P14_14, P14_15⟩ := hQ14
  have K14 : Keep h0 T14.heap [] := Keep.trans K13 P14_0 (allS (Or.inr sz_b7) all0)
  have sz_b_14 : h0.size ≤ b_14 := Nat.le_trans K13.1 P14_12
  have sz_c_14 : h0.size ≤ c_14 := Nat.le_trans K13.1 P14_14
  have N14 := Fr.app N11 N14q
  refine OwnR.of (fun _ hr => st14.trans hr) ?_
  show OwnR _ _ _ _ _ _ _ (T14.setTop (mkF m 46 #[.val (.int p1), .val (.int p2), .val (.int p3), .val (.int p4), .val (.int p5), .val (.int p6), .val (.ref b7), .val (.int (1 : Int32)), .unset] []))
  refine OwnR.of (fun _ hr => XS.aload X14.here hx rfl (hb hby at_46) rfl rfl hr) ?_
  show OwnR _ _ _ _ _ _ _ (T14.setTop (mkF m 48 #[.val (.int p1), .val (.int p2), .val (.int p3), .val (.int p4), .val (.int p5), .val (.int p6), .val (.ref b7), .val (.int (1 : Int32)), .unset] [(.ref b7)]))
  refine OwnR.of (fun _ hr => XS.iload X14.here hx rfl (hb hby at_48) rfl hr) ?_
  show OwnR _ _ _ _ _ _ _ (T14.setTop (mkF m 50 #[.val (.int p1), .val (.int p2), .val (.int p3), .val (.int p4), .val (.int p5), .val (.int p6), .val (.ref b7), .val (.int (1 : Int32)), .unset] [(.int p5), (.ref b7)]))
  refine OwnR.of (fun _ hr => XS.iload X14.here hx rfl (hb hby at_50) rfl hr) ?_
  show OwnR _ _ _ _ _ _ _ (T14.setTop (mkF m 52 #[.val (.int p1), .val (.int p2), .val (.int p3), .val (.int p4), .val (.int p5), .val (.int p6), .val (.ref b7), .val (.int (1 : Int32)), .unset] [(.int p6), (.int p5), (.ref b7)]))
  obtain ⟨cq15, kq15, q15a, q15b, q15c⟩ := isOf hZ rfl P14_1
  obtain ⟨_, _, ⟨T15, L15, kc15, ns15⟩, -, X15, ⟨Lc15, hQ15, l15, y15, z15⟩, st15⟩ := X14.virtualBack hx (y := (⟨"com/example/tercet/tercet/core/Pages", "turns", "(II)Z"⟩ : MethodName)) (z := (⟨"com/example/tercet/tercet/core/Pages", "turns", "(II)Z"⟩ : MethodName)) hown (mvT hZ (hw _ (List.mem_of_getElem? (i := 25) rfl))) (mvT hZ (hw _ (List.mem_of_getElem? (i := 26) rfl))) (notFace_of_selects (args := #[]) (mvT hZ (hw _ (List.mem_of_getElem? (i := 28) rfl)))) (mvT hZ (hw _ (List.mem_of_getElem? (i := 28) rfl))) (mvT hZ (hw _ (List.mem_of_getElem? (i := 27) rfl))) (by decide) (backOf (W := 0) (rmTs l Z a0 hw [] b7 p5 p6 p2 (T14.heap) n0 (Nat.le_trans Z0 K14.1) P14_1 P14_3) hZ (hw _ (List.mem_of_getElem? (i := 29) rfl)) (hw _ (List.mem_of_getElem? (i := 2) rfl)) (by decide) (by decide)) q15a q15c (g := (mkF m 52 #[.val (.int p1), .val (.int p2), .val (.int p3), .val (.int p4), .val (.int p5), .val (.int p6), .val (.ref b7), .val (.int (1 : Int32)), .unset] [(.int p6), (.int p5), (.ref b7)])) rfl (by rw [hml]; rfl) (Steps.refl _) (argsL := [(.int p5), (.int p6)]) (rest := []) (lenOf pd__II_Z rfl) rfl (by show 2 * 0 + _ ≤ _; exact Nat.le_of_eq rfl) (hb hby at_52) (fun _ _ => ⟨rfl, rfl, (by decide : 7 + 0 ≤ _), (by decide : 13 + 0 ≤ _)⟩)
  dsimp only [Pt.U, Pt.locs, Pt.cells, Pt.slots] at X15 l15 y15 z15 st15 hQ15
  subst l15 y15 z15
  obtain ⟨rfl, N15q, e15⟩ := hQ15
  have N15 := Fr.app N14 N15q
  refine OwnR.of (fun _ hr => st15.trans hr) ?_
  show OwnR _ _ _ _ _ _ _ (T15.setTop (mkF m 55 #[.val (.int p1), .val (.int p2), .val (.int p3), .val (.int p4), .val (.int p5), .val (.int p6), .val (.ref b7), .val (.int (1 : Int32)), .unset] [(.int (own_turns p5 p6 p2))]))
  refine OwnR.of (fun _ hr => XS.iload X15.here hx rfl (hb hby at_55) rfl hr) ?_
  show OwnR _ _ _ _ _ _ _ (T15.setTop (mkF m 57 #[.val (.int p1), .val (.int p2), .val (.int p3), .val (.int p4), .val (.int p5), .val (.int p6), .val (.ref b7), .val (.int (1 : Int32)), .unset] [(.int p5), (.int (own_turns p5 p6 p2))]))
  refine OwnR.of (fun _ hr => XS.iload X15.here hx rfl (hb hby at_57) rfl hr) ?_
  show OwnR _ _ _ _ _ _ _ (T15.setTop (mkF m 59 #[.val (.int p1), .val (.int p2), .val (.int p3), .val (.int p4), .val (.int p5), .val (.int p6), .val (.ref b7), .val (.int (1 : Int32)), .unset] [(.int p6), (.int p5), (.int (own_turns p5 p6 p2))]))
  refine OwnR.of (fun _ hr => XS.iloadN X15.here hx rfl (hb hby at_59) rfl hr) ?_
  show OwnR _ _ _ _ _ _ _ (T15.setTop (mkF m 60 #[.val (.int p1), .val (.int p2), .val (.int p3), .val (.int p4), .val (.int p5), .val (.int p6), .val (.ref b7), .val (.int (1 : Int32)), .unset] [(.int p2), (.int p6), (.int p5), (.int (own_turns p5 p6 p2))]))
  obtain ⟨_, _, ⟨T16, L16, kc16, ns16⟩, -, X16, ⟨Lc16, hQ16, l16, y16, z16⟩, st16⟩ := Jvm.LawKit.callS X15 hx (y := (⟨"com/example/tercet/tercet/core/PagesTurnsPinLaw", "expect", "(III)Z"⟩ : MethodName)) hown (mvT hZ (hw _ (List.mem_of_getElem? (i := 30) rfl))) (mvT hZ (hw _ (List.mem_of_getElem? (i := 31) rfl))) (mvT hZ (hw _ (List.mem_of_getElem? (i := 32) rfl))) (mvT hZ (hw _ (List.mem_of_getElem? (i := 33) rfl))) (by decide) (backOf (W := 1) (rmEx l Z a0 hw [] p5 p6 p2 (T14.heap) n0 (Nat.le_trans Z0 K14.1) ) hZ (hw _ (List.mem_of_getElem? (i := 33) rfl)) (hw _ (List.mem_of_getElem? (i := 32) rfl)) (by decide) (by decide)) (g := (mkF m 60 #[.val (.int p1), .val (.int p2), .val (.int p3), .val (.int p4), .val (.int p5), .val (.int p6), .val (.ref b7), .val (.int (1 : Int32)), .unset] [(.int p2), (.int p6), (.int p5), (.int (own_turns p5 p6 p2))])) rfl (by rw [hml]; rfl) (argsL := [(.int p5), (.int p6), (.int p2)]) (rest := [(.int (own_turns p5 p6 p2))]) (lenOf pd__III_Z rfl) rfl (by show 2 * 0 + _ ≤ _; exact Nat.le_of_eq rfl) (hb hby at_60) (fun _ _ => ⟨rfl, e15, (by decide : 7 + 0 ≤ _), (by decide : 13 + 0 ≤ _)⟩)
  dsimp only [Pt.U, Pt.locs, Pt.cells, Pt.slots] at X16 l16 y16 z16 st16 hQ16
  subst l16 y16 z16
  obtain ⟨rfl, N16q, e16⟩ := hQ16
  have N16 := Fr.app N15 N16q
  refine OwnR.of (st16) ?_
  show OwnR _ _ _ _ _ _ _ (T16.setTop (mkF m 63 #[.val (.int p1), .val (.int p2), .val (.int p3), .val (.int p4), .val (.int p5), .val (.int p6), .val (.ref b7), .val (.int (1 : Int32)), .unset] [(.int (own_exp p5 p6 p2)), (.int (own_turns p5 p6 p2))]))
  have hc63_17 : (own_turns p5 p6 p2) = (own_exp p5 p6 p2) := by
    refine Classical.byContradiction fun hbad => ?_
    exact hbad (own_law _ _ _)
  refine OwnR.of (fun _ hr => XS.icmpNo X16.here hx rfl (hb hby at_63) rfl (teq hc63_17).2 hr) ?_
  show OwnR _ _ _ _ _ _ _ (T16.setTop (mkF m 66 #[.val (.int p1), .val (.int p2), .val (.int p3), .val (.int p4), .val (.int p5), .val (.int p6), .val (.ref b7), .val (.int (1 : Int32)), .unset] []))
  refine OwnR.of (fun _ hr => XS.iconst X16.here hx rfl (hb hby at_66) hr) ?_
  show OwnR _ _ _ _ _ _ _ (T16.setTop (mkF m 67 #[.val (.int p1), .val (.int p2), .val (.int p3), .val (.int p4), .val (.int p5), .val (.int p6), .val (.ref b7), .val (.int (1 : Int32)), .unset] [(.int (1 : Int32))]))
  refine OwnR.of (fun _ hr => XS.goto X16.here hx rfl (pc0 := 67) (pc' := 71) rfl (hb hby at_67) (by decide) (by decide) hr) ?_
  show OwnR _ _ _ _ _ _ _ (T16.setTop (mkF m 71 #[.val (.int p1), .val (.int p2), .val (.int p3), .val (.int p4), .val (.int p5), .val (.int p6), .val (.ref b7), .val (.int (1 : Int32)), .unset] [(.int (1 : Int32))]))
  refine OwnR.of (fun _ hr => XS.istore X16.here hx rfl (hb hby at_71) rfl (l' := #[.val (.int p1), .val (.int p2), .val (.int p3), .val (.int p4), .val (.int p5), .val (.int p6), .val (.ref b7), .val (.int (1 : Int32)), .val (.int (1 : Int32))]) rfl hr) ?_
  show OwnR _ _ _ _ _ _ _ (T16.setTop (mkF m 73 #[.val (.int p1), .val (.int p2), .val (.int p3), .val (.int p4), .val (.int p5), .val (.int p6), .val (.ref b7), .val (.int (1 : Int32)), .val (.int (1 : Int32))] []))
  refine OwnR.of (fun _ hr => XS.iload X16.here hx rfl (hb hby at_73) rfl hr) ?_
  show OwnR _ _ _ _ _ _ _ (T16.setTop (mkF m 75 #[.val (.int p1), .val (.int p2), .val (.int p3), .val (.int p4), .val (.int p5), .val (.int p6), .val (.ref b7), .val (.int (1 : Int32)), .val (.int (1 : Int32))] [(.int (1 : Int32))]))
  refine OwnR.of (fun _ hr => XS.ifNo X16.here hx rfl (hb hby at_75) rfl ((if0 _ _).trans (feq (by decide : ¬ ((1 : Int32) = (0 : Int32)))).1) hr) ?_
  show OwnR _ _ _ _ _ _ _ (T16.setTop (mkF m 78 #[.val (.int p1), .val (.int p2), .val (.int p3), .val (.int p4), .val (.int p5), .val (.int p6), .val (.ref b7), .val (.int (1 : Int32)), .val (.int (1 : Int32))] []))
  refine OwnR.of (fun _ hr => XS.iload X16.here hx rfl (hb hby at_78) rfl hr) ?_
  show OwnR _ _ _ _ _ _ _ (T16.setTop (mkF m 80 #[.val (.int p1), .val (.int p2), .val (.int p3), .val (.int p4), .val (.int p5), .val (.int p6), .val (.ref b7), .val (.int (1 : Int32)), .val (.int (1 : Int32))] [(.int (1 : Int32))]))
  refine OwnR.of (fun _ hr => XS.ifNo X16.here hx rfl (hb hby at_80) rfl ((if0 _ _).trans (feq (by decide : ¬ ((1 : Int32) = (0 : Int32)))).1) hr) ?_
  show OwnR _ _ _ _ _ _ _ (T16.setTop (mkF m 83 #[.val (.int p1), .val (.int p2), .val (.int p3), .val (.int p4), .val (.int p5), .val (.int p6), .val (.ref b7), .val (.int (1 : Int32)), .val (.int (1 : Int32))] []))
  refine OwnR.of (fun _ hr => XS.iconst X16.here hx rfl (hb hby at_83) hr) ?_
  show OwnR _ _ _ _ _ _ _ (T16.setTop (mkF m 84 #[.val (.int p1), .val (.int p2), .val (.int p3), .val (.int p4), .val (.int p5), .val (.int p6), .val (.ref b7), .val (.int (1 : Int32)), .val (.int (1 : Int32))] [(.int (1 : Int32))]))
  refine OwnR.of (fun _ hr => XS.goto X16.here hx rfl (pc0 := 84) (pc' := 88) rfl (hb hby at_84) (by decide) (by decide) hr) ?_
  show OwnR _ _ _ _ _ _ _ (T16.setTop (mkF m 88 #[.val (.int p1), .val (.int p2), .val (.int p3), .val (.int p4), .val (.int p5), .val (.int p6), .val (.ref b7), .val (.int (1 : Int32)), .val (.int (1 : Int32))] [(.int (1 : Int32))]))
  refine own_leafN X16 hx hlk (t := .boolean) Bd.returns (by simp) (hb hby at_88) (z' := (1 : Int32)) rfl (by decide) (by decide) ?_
  show Q0 Z  h0 n0 _ T16.heap _
  rw [show T16.heap = T14.heap from e16]
  refine ⟨?_, N16⟩
  show (some (.int (1 : Int32)) : Option Value) = some (.int (1 : Int32))
  rfl
set_option maxRecDepth 65536 in
set_option maxHeartbeats 40000000 in
theorem comes_1 {Post : Tables → Env → Array Value → State → Outcome → State → Prop} (hpost : ∀ tb e args s v u, (limb_1_1.after args s (.returned v) u = true ∧ limb_1_2.after args s (.returned v) u = true ∧ True) → FrameEnd s (.returned v) u (Jvm.fieldLocs frame_1_writes args s ++ Jvm.arrayLocs frame_1_arrays args s ++ Jvm.staticLocs frame_1_statics s) 24 128 → Post tb e args s (.returned v) u) :
    ArmFor flags0 classFile x code maxLocals ret World_1 tables_1 room_1 Calls_1 rest_1 Pre_1 Post := by
  intro l hfl _ _ p e ha hc hk s m args below hf hA hF happ hP
  obtain ⟨hcalls, hrest, hpre⟩ := hP
  obtain ⟨-, -, -, hnamed, -, -, -, hat⟩ := (Spec.applies_iff hf).mp happ
  obtain ⟨hg, hn⟩ := and_e (Cond.before_iff.mp (show (Jvm.Cond.and given_1 narrow_1).before args s = true from hpre))
  obtain ⟨ga1, gb1⟩ := and_e hg
  obtain ⟨ga2, gb2⟩ := and_e gb1
  obtain ⟨ga3, gb3⟩ := and_e gb2
  obtain ⟨ga4, gb4⟩ := and_e gb3
  obtain ⟨ga5, gb5⟩ := and_e gb4
  obtain ⟨ga6, gb6⟩ := and_e gb5
  obtain ⟨w0, w1, w2, w3, w4, w5, rfl⟩ : ∃ w0 w1 w2 w3 w4 w5 : Value, args = #[w0, w1, w2, w3, w4, w5] := by
    have hs : args.size = 6 := by simpa [Cond.value, given_1] using ga1
    obtain ⟨L⟩ := args
    match L, hs with
    | [w0, w1, w2, w3, w4, w5], _ => exact ⟨w0, w1, w2, w3, w4, w5, rfl⟩
  have hw := fun d (hd : d ∈ tables_1) => atoms_spec (ws := Jvm.Cond.code x code maxLocals ret :: tables_1) hat d (List.mem_cons_of_mem _ hd)
  have hfit : Fit s := fun {y c} hc i hi => by
    obtain ⟨ha, rfl⟩ := Array.getElem?_eq_some_iff.mp hc
    have q := List.all_eq_true.mp ((Array.all_eq_true_iff_forall_mem.mp hF) _ (Array.getElem_mem ha)) i (List.mem_range.mpr hi)
    simpa [Array.getElem?_eq_getElem hi] using q
  obtain ⟨i0, ei0⟩ := is_v ga2
  obtain rfl : w0 = (.int i0) := Option.some.inj ei0
  obtain ⟨i1, ei1⟩ := is_v ga3
  obtain rfl : w1 = (.int i1) := Option.some.inj ei1
  obtain ⟨i2, ei2⟩ := is_v ga4
  obtain rfl : w2 = (.int i2) := Option.some.inj ei2
  obtain ⟨i3, ei3⟩ := is_v ga5
  obtain rfl : w3 = (.int i3) := Option.some.inj ei3
  obtain ⟨i4, ei4⟩ := is_v ga6
  obtain rfl : w4 = (.int i4) := Option.some.inj ei4
  obtain ⟨i5, ei5⟩ := is_v gb6
  obtain rfl : w5 = (.int i5) := Option.some.inj ei5
  obtain ⟨⟨cM, kM, mo, m1, m2, m3, -⟩, -⟩ := hcalls
  have Mo : OwnMir s "[Ljava/lang/Object;" mo := ⟨cM, kM, m1, m2, m3⟩
  obtain ⟨n, o, h1, h2, h3, _, L, rfl, ⟨rfl, N⟩, hq⟩ := rm0 l s _ hw tables_1 i0 i1 i2 i3 i4 i5 mo s.heap s.heap.size (Nat.le_refl _) Mo p e ha hc hk s m _ below hf ((Spec.applies_iff_loose hf).mp happ).1 ⟨rfl, State.Warmed39.refl s, rfl⟩ trivial
  refine ⟨n, _, h1, h2, h3, hpost _ _ _ _ _ _ ⟨Cond.after_iff.mpr rfl, Cond.after_iff.mpr (eq_i res_at (Term.int_eval (1)) rfl), trivial⟩ ⟨hq.1, hq.2.1, (hq.2.2.sift fun y hy => Or.inr (N y hy)).mono (by decide) (by decide)⟩⟩
theorem main_1_1 : Claimed_1_1 := comes_1 fun _ _ _ _ _ _ h hF => ⟨h.1, hF⟩
theorem main_1_2 : Claimed_1_2 := comes_1 fun _ _ _ _ _ _ h hF => ⟨h.2.1, hF⟩
end Jvm.Pilot.@@N@@
namespace Jvm.Pilot.@@N@@
open Jvm Jvm.ClassFile Sem Op Lib Jvm.Free Jvm.Stand Jvm.Pilot.@@N@@.Jvm.D
/-! MADE BY PROGRAM (witnessworld.py) out of the Statement's table words and the real class files: 14 classes; the members and pool entries that the words name. The judged class is class 1, her method 2. -/
namespace start1
open Jvm.ClassFile
def u (s : String) : CpInfo := .utf8 (stringToUtf16 s)
/-- a pool by its gaps: so many unusable entries, then the entry; so many at the end -/
def gap : Nat → List CpInfo → List CpInfo
  | 0, r => r
  | n + 1, r => .unusable :: gap n r
def poolList (es : List (Nat × CpInfo)) (last : Nat) : List CpInfo := es.foldr (fun e r => gap e.1 (e.2 :: r)) (gap last [])
def pool (es : List (Nat × CpInfo)) (last : Nat) : Array CpInfo := ⟨poolList es last⟩
def fileOf (pool : Array CpInfo) (this : Nat) (attrs : Array Attribute := #[]) (ms : Array MethodInfo := #[]) (fl : Nat := 33) (sup : Nat := 0) (ifs : Array Nat := #[]) (fds : Array FieldInfo := #[]) : ClassFile where
  minorVersion := 0
  majorVersion := 65
  constantPool := pool
  accessFlags := fl
  thisClass := this
  superClass := sup
  interfaces := ifs
  fields := fds
  methods := ms
  attributes := attrs
def plain (name : String) (sup : Option ClassId) : Class where
  name := name
  kind := .ordinary
  loader := none
  accessFlags := 33
  super := sup
  interfaces := #[]
  cf := none
  fields := #[]
  methods := #[]
  instanceTypes := #[]
  staticTypes := #[]
  resolved := #[]
  callSites := []
  init := .initialized
  statics := none
  mirror := none

def pool0 : Array CpInfo := pool [(5, u "<init>"), (0, u "()V"), (1, .class_ 10), (1, u "java/lang/Object"), (0, u "getClass"), (0, u "()Ljava/lang/Class;")] 111

def k0c0 : Code := { maxStack := 0, maxLocals := 1, code := object_method_1_code, exceptionTable := #[], attributes := #[] }
def k0m0 : Method := { name := "<init>", desc := "()V", sig := { parameters := [], returnType := none }, accessFlags := 1, code := some k0c0 }
def k0m1 : Method := { name := "getClass", desc := "()Ljava/lang/Class;", sig := { parameters := [], returnType := some (.object "java/lang/Class") }, accessFlags := 273, code := none }
/-- java/lang/Object -/
def k0 : Class := { plain "java/lang/Object" none with
  accessFlags := 33
  interfaces := #[]
  cf := some (fileOf pool0 8 #[] #[{ accessFlags := 1, nameIndex := 5, descriptorIndex := 6, attributes := #[] }, { accessFlags := 273, nameIndex := 11, descriptorIndex := 12, attributes := #[] }] 33 0 #[] #[])
  fields := #[]
  methods := #[k0m0, k0m1]
  instanceTypes := #[]
  staticTypes := #[]
  resolved := Array.replicate 124 none
  statics := none }

def pool1 : Array CpInfo := pool [(2, .class_ 4), (1, u "java/lang/Object"), (0, u "<init>"), (0, u "()V"), (0, .class_ 8), (0, u "com/example/tercet/tercet/core/Pages"), (0, .methodref 7 10), (0, .nameAndType 5 11), (0, u "(Ljava/lang/Object;II)V"), (0, .methodref 7 13), (0, .nameAndType 14 15), (0, u "turns"), (0, u "(II)Z"), (0, .methodref 17 18), (0, .class_ 19), (0, .nameAndType 20 21), (0, u "com/example/tercet/tercet/core/PagesTurnsPinLaw"), (0, u "expect"), (0, u "(III)Z"), (0, .methodref 7 23), (0, .nameAndType 24 25), (0, u "turn"), (0, u "(ILjava/lang/Object;)V"), (3, u "law"), (0, u "(IIIIII)Z")] 2

def k1m0 : Method := { name := "<init>", desc := "()V", sig := { parameters := [], returnType := none }, accessFlags := 1, code := none }
def k1c1 : Code := { maxStack := 4, maxLocals := 5, code := method_2_code, exceptionTable := #[], attributes := #[] }
def k1m1 : Method := { name := "expect", desc := "(III)Z", sig := { parameters := [.int, .int, .int], returnType := some .boolean }, accessFlags := 10, code := some k1c1 }
def k1c2 : Code := { maxStack := 5, maxLocals := 9, code := code, exceptionTable := #[], attributes := #[] }
def k1m2 : Method := { name := "law", desc := "(IIIIII)Z", sig := { parameters := [.int, .int, .int, .int, .int, .int], returnType := some .boolean }, accessFlags := 9, code := some k1c2 }
/-- com/example/tercet/tercet/core/PagesTurnsPinLaw -/
def k1 : Class := { plain "com/example/tercet/tercet/core/PagesTurnsPinLaw" (some 0) with
  accessFlags := 49
  interfaces := #[]
  cf := some (fileOf pool1 17 #[] #[{ accessFlags := 1, nameIndex := 5, descriptorIndex := 6, attributes := #[] }, { accessFlags := 10, nameIndex := 20, descriptorIndex := 21, attributes := #[] }, { accessFlags := 9, nameIndex := 29, descriptorIndex := 30, attributes := #[] }] 49 2 #[] #[])
  fields := #[]
  methods := #[k1m0, k1m1, k1m2]
  instanceTypes := #[]
  staticTypes := #[]
  resolved := Array.replicate 33 none
  statics := none }

def pool2 : Array CpInfo := pool [(1, .methodref 2 3), (0, .class_ 4), (0, .nameAndType 5 6), (0, u "java/lang/Object"), (0, u "<init>"), (0, u "()V"), (0, .fieldref 8 9), (0, .class_ 10), (0, .nameAndType 11 12), (0, u "com/example/tercet/tercet/core/Pages"), (0, u "pageLength"), (0, u "I"), (0, .fieldref 8 14), (0, .nameAndType 15 12), (0, u "limit"), (0, .fieldref 8 17), (0, .nameAndType 18 19), (0, u "last"), (0, u "Ljava/lang/Object;"), (0, .fieldref 8 21), (0, .nameAndType 22 23), (0, u "pages"), (0, u "[Ljava/lang/Object;"), (0, .fieldref 8 25), (0, .nameAndType 26 27), (0, u "firsts"), (0, u "[I"), (0, .fieldref 8 29), (0, .nameAndType 30 12), (0, u "count"), (6, .methodref 38 39), (0, .class_ 40), (0, .nameAndType 41 42), (0, u "java/util/Arrays"), (0, u "copyOf"), (0, u "([Ljava/lang/Object;I)[Ljava/lang/Object;"), (0, .methodref 38 44), (0, .nameAndType 41 45), (0, u "([II)[I"), (6, u "found"), (4, u "FIRST_PAGE_BYTES"), (2, u "PAGE_BYTES"), (3, u "(Ljava/lang/Object;II)V"), (3, u "turns"), (0, u "(II)Z"), (2, u "turn"), (0, u "(ILjava/lang/Object;)V")] 14

def k2c0 : Code := { maxStack := 5, maxLocals := 4, code := prog_34_method_1_code, exceptionTable := #[], attributes := #[] }
def k2m0 : Method := { name := "<init>", desc := "(Ljava/lang/Object;II)V", sig := { parameters := [(.object "java/lang/Object"), .int, .int], returnType := none }, accessFlags := 0, code := some k2c0 }
def k2c1 : Code := { maxStack := 4, maxLocals := 3, code := prog_34_method_2_code, exceptionTable := #[], attributes := #[] }
def k2m1 : Method := { name := "turns", desc := "(II)Z", sig := { parameters := [.int, .int], returnType := some .boolean }, accessFlags := 0, code := some k2c1 }
def k2c2 : Code := { maxStack := 4, maxLocals := 3, code := prog_34_method_4_code, exceptionTable := #[], attributes := #[] }
def k2m2 : Method := { name := "turn", desc := "(ILjava/lang/Object;)V", sig := { parameters := [.int, (.object "java/lang/Object")], returnType := none }, accessFlags := 0, code := some k2c2 }
/-- com/example/tercet/tercet/core/Pages -/
def k2 : Class := { plain "com/example/tercet/tercet/core/Pages" (some 0) with
  accessFlags := 48
  interfaces := #[]
  cf := some (fileOf pool2 8 #[] #[{ accessFlags := 0, nameIndex := 5, descriptorIndex := 64, attributes := #[] }, { accessFlags := 0, nameIndex := 68, descriptorIndex := 69, attributes := #[] }, { accessFlags := 0, nameIndex := 72, descriptorIndex := 73, attributes := #[] }] 48 2 #[] #[{ accessFlags := 24, nameIndex := 57, descriptorIndex := 12, attributes := #[] }, { accessFlags := 24, nameIndex := 60, descriptorIndex := 12, attributes := #[] }, { accessFlags := 18, nameIndex := 11, descriptorIndex := 12, attributes := #[] }, { accessFlags := 2, nameIndex := 15, descriptorIndex := 12, attributes := #[] }, { accessFlags := 2, nameIndex := 18, descriptorIndex := 19, attributes := #[] }, { accessFlags := 2, nameIndex := 22, descriptorIndex := 23, attributes := #[] }, { accessFlags := 2, nameIndex := 26, descriptorIndex := 27, attributes := #[] }, { accessFlags := 2, nameIndex := 30, descriptorIndex := 12, attributes := #[] }, { accessFlags := 2, nameIndex := 52, descriptorIndex := 12, attributes := #[] }])
  fields := #[{ name := "FIRST_PAGE_BYTES", type := .int, accessFlags := 24, slot := 0, constantValue := 0 }, { name := "PAGE_BYTES", type := .int, accessFlags := 24, slot := 1, constantValue := 0 }, { name := "pageLength", type := .int, accessFlags := 18, slot := 0, constantValue := 0 }, { name := "limit", type := .int, accessFlags := 2, slot := 1, constantValue := 0 }, { name := "last", type := (.object "java/lang/Object"), accessFlags := 2, slot := 2, constantValue := 0 }, { name := "pages", type := (.array (.object "java/lang/Object")), accessFlags := 2, slot := 3, constantValue := 0 }, { name := "firsts", type := (.array .int), accessFlags := 2, slot := 4, constantValue := 0 }, { name := "count", type := .int, accessFlags := 2, slot := 5, constantValue := 0 }, { name := "found", type := .int, accessFlags := 2, slot := 6, constantValue := 0 }]
  methods := #[k2m0, k2m1, k2m2]
  instanceTypes := #[.int, .int, (.object "java/lang/Object"), (.array (.object "java/lang/Object")), (.array .int), .int, .int]
  staticTypes := #[.int, .int]
  resolved := Array.replicate 88 none
  statics := none }

def pool3 : Array CpInfo := pool [(2, .class_ 4), (1, u "java/lang/Object"), (0, u "<init>"), (0, u "()V"), (7, .class_ 16), (1, u "java/util/Arrays"), (57, .class_ 76), (1, u "java/util/Arrays$NaturalOrder"), (9, .methodref 2 87), (0, .nameAndType 88 89), (0, u "getClass"), (0, u "()Ljava/lang/Class;"), (20, .class_ 111), (0, u "[Ljava/lang/Object;"), (1, .class_ 115), (1, u "java/util/Arrays$LegacyMergeSort"), (1, u "Z"), (32, .methodref 151 152), (0, .class_ 153), (0, .nameAndType 154 155), (0, u "java/lang/System"), (0, u "arraycopy"), (0, u "(Ljava/lang/Object;ILjava/lang/Object;II)V"), (144, .methodref 14 301), (0, .nameAndType 302 303), (0, u "copyOf"), (0, u "([Ljava/lang/Object;ILjava/lang/Class;)[Ljava/lang/Object;"), (0, .methodref 305 306), (0, .class_ 307), (0, .nameAndType 308 309), (0, u "java/lang/Math"), (0, u "min"), (0, u "(II)I"), (65, .class_ 376), (0, u "java/util/Arrays$ArrayList"), (68, u "$assertionsDisabled"), (269, u "MIN_ARRAY_SORT_GRAN"), (0, u "I"), (2, u "INSERTIONSORT_THRESHOLD"), (140, u "([Ljava/lang/Object;I)[Ljava/lang/Object;"), (10, u "([II)[I"), (103, .class_ 976), (0, u "java/util/Arrays$ArrayItr")] 52

def k3m0 : Method := { name := "<init>", desc := "()V", sig := { parameters := [], returnType := none }, accessFlags := 2, code := none }
def k3c1 : Code := { maxStack := 3, maxLocals := 2, code := jdk_65_method_119_code, exceptionTable := #[], attributes := #[] }
def k3m1 : Method := { name := "copyOf", desc := "([Ljava/lang/Object;I)[Ljava/lang/Object;", sig := { parameters := [(.array (.object "java/lang/Object")), .int], returnType := some (.array (.object "java/lang/Object")) }, accessFlags := 9, code := some k3c1 }
def k3c2 : Code := { maxStack := 6, maxLocals := 4, code := jdk_65_method_120_code, exceptionTable := #[], attributes := #[] }
def k3m2 : Method := { name := "copyOf", desc := "([Ljava/lang/Object;ILjava/lang/Class;)[Ljava/lang/Object;", sig := { parameters := [(.array (.object "java/lang/Object")), .int, (.object "java/lang/Class")], returnType := some (.array (.object "java/lang/Object")) }, accessFlags := 9, code := some k3c2 }
def k3c3 : Code := { maxStack := 6, maxLocals := 3, code := jdk_65_method_123_code, exceptionTable := #[], attributes := #[] }
def k3m3 : Method := { name := "copyOf", desc := "([II)[I", sig := { parameters := [(.array .int), .int], returnType := some (.array .int) }, accessFlags := 9, code := some k3c3 }
/-- java/util/Arrays -/
def k3 : Class := { plain "java/util/Arrays" (some 0) with
  accessFlags := 49
  interfaces := #[]
  cf := some (fileOf pool3 14 #[.nestMembers #[975, 375, 113, 74]] #[{ accessFlags := 2, nameIndex := 5, descriptorIndex := 6, attributes := #[] }, { accessFlags := 9, nameIndex := 302, descriptorIndex := 860, attributes := #[] }, { accessFlags := 9, nameIndex := 302, descriptorIndex := 303, attributes := #[] }, { accessFlags := 9, nameIndex := 302, descriptorIndex := 871, attributes := #[] }] 49 2 #[] #[{ accessFlags := 26, nameIndex := 715, descriptorIndex := 716, attributes := #[] }, { accessFlags := 26, nameIndex := 719, descriptorIndex := 716, attributes := #[] }, { accessFlags := 4120, nameIndex := 445, descriptorIndex := 117, attributes := #[] }])
  fields := #[{ name := "MIN_ARRAY_SORT_GRAN", type := .int, accessFlags := 26, slot := 0, constantValue := 0 }, { name := "INSERTIONSORT_THRESHOLD", type := .int, accessFlags := 26, slot := 1, constantValue := 0 }, { name := "$assertionsDisabled", type := .boolean, accessFlags := 4120, slot := 2, constantValue := 0 }]
  methods := #[k3m0, k3m1, k3m2, k3m3]
  instanceTypes := #[]
  staticTypes := #[.int, .int, .boolean]
  resolved := Array.replicate 1029 none
  statics := none }

def pool4 : Array CpInfo := pool [(1, .class_ 2), (0, u "java/lang/Math"), (1, .class_ 6), (1, u "java/lang/Object"), (0, u "<init>"), (0, u "()V"), (89, .class_ 100), (1, u "java/lang/Math$RandomNumberGeneratorHolder"), (71, u "negativeZeroFloatBits"), (0, u "J"), (2, u "negativeZeroDoubleBits"), (24, u "min"), (43, u "$assertionsDisabled"), (0, u "Z"), (88, u "(II)I"), (2, u "twoToTheDoubleScaleDown"), (0, u "D"), (4, u "twoToTheDoubleScaleUp"), (9, u "E"), (3, u "PI"), (2, u "TAU"), (2, u "DEGREES_TO_RADIANS"), (0, u "RADIANS_TO_DEGREES")] 94

def k4m0 : Method := { name := "<init>", desc := "()V", sig := { parameters := [], returnType := none }, accessFlags := 2, code := none }
def k4c1 : Code := { maxStack := 2, maxLocals := 2, code := jdk_29_method_69_code, exceptionTable := #[], attributes := #[] }
def k4m1 : Method := { name := "min", desc := "(II)I", sig := { parameters := [.int, .int], returnType := some .int }, accessFlags := 9, code := some k4c1 }
/-- java/lang/Math -/
def k4 : Class := { plain "java/lang/Math" (some 0) with
  accessFlags := 49
  interfaces := #[]
  cf := some (fileOf pool4 1 #[.nestMembers #[98]] #[{ accessFlags := 2, nameIndex := 7, descriptorIndex := 8, attributes := #[] }, { accessFlags := 9, nameIndex := 201, descriptorIndex := 335, attributes := #[] }] 49 4 #[] #[{ accessFlags := 25, nameIndex := 354, descriptorIndex := 339, attributes := #[] }, { accessFlags := 25, nameIndex := 358, descriptorIndex := 339, attributes := #[] }, { accessFlags := 25, nameIndex := 361, descriptorIndex := 339, attributes := #[] }, { accessFlags := 26, nameIndex := 364, descriptorIndex := 339, attributes := #[] }, { accessFlags := 26, nameIndex := 365, descriptorIndex := 339, attributes := #[] }, { accessFlags := 26, nameIndex := 172, descriptorIndex := 173, attributes := #[] }, { accessFlags := 26, nameIndex := 176, descriptorIndex := 173, attributes := #[] }, { accessFlags := 8, nameIndex := 344, descriptorIndex := 339, attributes := #[] }, { accessFlags := 8, nameIndex := 338, descriptorIndex := 339, attributes := #[] }, { accessFlags := 4120, nameIndex := 245, descriptorIndex := 246, attributes := #[] }])
  fields := #[{ name := "E", type := .double, accessFlags := 25, slot := 0, constantValue := 0 }, { name := "PI", type := .double, accessFlags := 25, slot := 1, constantValue := 0 }, { name := "TAU", type := .double, accessFlags := 25, slot := 2, constantValue := 0 }, { name := "DEGREES_TO_RADIANS", type := .double, accessFlags := 26, slot := 3, constantValue := 0 }, { name := "RADIANS_TO_DEGREES", type := .double, accessFlags := 26, slot := 4, constantValue := 0 }, { name := "negativeZeroFloatBits", type := .long, accessFlags := 26, slot := 5, constantValue := 0 }, { name := "negativeZeroDoubleBits", type := .long, accessFlags := 26, slot := 6, constantValue := 0 }, { name := "twoToTheDoubleScaleUp", type := .double, accessFlags := 8, slot := 7, constantValue := 0 }, { name := "twoToTheDoubleScaleDown", type := .double, accessFlags := 8, slot := 8, constantValue := 0 }, { name := "$assertionsDisabled", type := .boolean, accessFlags := 4120, slot := 9, constantValue := 0 }]
  methods := #[k4m0, k4m1]
  instanceTypes := #[]
  staticTypes := #[.double, .double, .double, .double, .double, .long, .long, .double, .double, .boolean]
  resolved := Array.replicate 460 none
  statics := none }

def pool5 : Array CpInfo := pool [(2, .class_ 4), (1, u "java/lang/Object"), (0, u "<init>"), (0, u "()V"), (1, .class_ 10), (1, u "java/lang/System"), (0, u "allowSecurityManager"), (0, u "I"), (16, u "cons"), (0, u "Ljava/io/Console;"), (77, .class_ 110), (1, u "java/lang/System$CallersHolder"), (43, u "initialErrStream"), (0, u "Ljava/io/PrintStream;"), (19, u "security"), (0, u "Ljava/lang/SecurityManager;"), (31, .class_ 209), (0, u "java/lang/System$1"), (7, u "props"), (0, u "Ljava/util/Properties;"), (2, u "lineSeparator"), (0, u "Ljava/lang/String;"), (96, .class_ 321), (1, u "java/lang/System$LoggerFinder"), (5, .class_ 328), (0, u "java/lang/System$Logger"), (67, u "err"), (2, u "out"), (91, u "notSupportedJnuEncoding"), (15, u "in"), (17, u "initialIn"), (0, u "Ljava/io/InputStream;"), (35, u "bootLayer"), (0, u "Ljava/lang/ModuleLayer;"), (99, .class_ 664), (0, u "java/lang/System$2"), (9, u "NEVER"), (2, u "MAYBE"), (49, u "arraycopy"), (0, u "(Ljava/lang/Object;ILjava/lang/Object;II)V"), (72, .class_ 802), (0, u "java/lang/System$Logger$Level")] 31

def k5m0 : Method := { name := "<init>", desc := "()V", sig := { parameters := [], returnType := none }, accessFlags := 2, code := none }
def k5m1 : Method := { name := "arraycopy", desc := "(Ljava/lang/Object;ILjava/lang/Object;II)V", sig := { parameters := [(.object "java/lang/Object"), .int, (.object "java/lang/Object"), .int, .int], returnType := none }, accessFlags := 265, code := none }
/-- java/lang/System -/
def k5 : Class := { plain "java/lang/System" (some 0) with
  accessFlags := 49
  interfaces := #[]
  cf := some (fileOf pool5 8 #[.nestMembers #[319, 327, 801, 108, 663, 208]] #[{ accessFlags := 2, nameIndex := 5, descriptorIndex := 6, attributes := #[] }, { accessFlags := 265, nameIndex := 727, descriptorIndex := 728, attributes := #[] }] 49 2 #[] #[{ accessFlags := 25, nameIndex := 507, descriptorIndex := 526, attributes := #[] }, { accessFlags := 25, nameIndex := 399, descriptorIndex := 155, attributes := #[] }, { accessFlags := 25, nameIndex := 396, descriptorIndex := 155, attributes := #[] }, { accessFlags := 10, nameIndex := 525, descriptorIndex := 526, attributes := #[] }, { accessFlags := 26, nameIndex := 674, descriptorIndex := 12, attributes := #[] }, { accessFlags := 26, nameIndex := 677, descriptorIndex := 12, attributes := #[] }, { accessFlags := 10, nameIndex := 11, descriptorIndex := 12, attributes := #[] }, { accessFlags := 74, nameIndex := 175, descriptorIndex := 176, attributes := #[] }, { accessFlags := 10, nameIndex := 491, descriptorIndex := 222, attributes := #[] }, { accessFlags := 74, nameIndex := 29, descriptorIndex := 30, attributes := #[] }, { accessFlags := 74, nameIndex := 154, descriptorIndex := 155, attributes := #[] }, { accessFlags := 10, nameIndex := 217, descriptorIndex := 218, attributes := #[] }, { accessFlags := 10, nameIndex := 221, descriptorIndex := 222, attributes := #[] }, { accessFlags := 8, nameIndex := 562, descriptorIndex := 563, attributes := #[] }])
  fields := #[{ name := "in", type := (.object "java/io/InputStream"), accessFlags := 25, slot := 0, constantValue := 0 }, { name := "out", type := (.object "java/io/PrintStream"), accessFlags := 25, slot := 1, constantValue := 0 }, { name := "err", type := (.object "java/io/PrintStream"), accessFlags := 25, slot := 2, constantValue := 0 }, { name := "initialIn", type := (.object "java/io/InputStream"), accessFlags := 10, slot := 3, constantValue := 0 }, { name := "NEVER", type := .int, accessFlags := 26, slot := 4, constantValue := 0 }, { name := "MAYBE", type := .int, accessFlags := 26, slot := 5, constantValue := 0 }, { name := "allowSecurityManager", type := .int, accessFlags := 10, slot := 6, constantValue := 0 }, { name := "security", type := (.object "java/lang/SecurityManager"), accessFlags := 74, slot := 7, constantValue := 0 }, { name := "notSupportedJnuEncoding", type := (.object "java/lang/String"), accessFlags := 10, slot := 8, constantValue := 0 }, { name := "cons", type := (.object "java/io/Console"), accessFlags := 74, slot := 9, constantValue := 0 }, { name := "initialErrStream", type := (.object "java/io/PrintStream"), accessFlags := 74, slot := 10, constantValue := 0 }, { name := "props", type := (.object "java/util/Properties"), accessFlags := 10, slot := 11, constantValue := 0 }, { name := "lineSeparator", type := (.object "java/lang/String"), accessFlags := 10, slot := 12, constantValue := 0 }, { name := "bootLayer", type := (.object "java/lang/ModuleLayer"), accessFlags := 8, slot := 13, constantValue := 0 }]
  methods := #[k5m0, k5m1]
  instanceTypes := #[]
  staticTypes := #[(.object "java/io/InputStream"), (.object "java/io/PrintStream"), (.object "java/io/PrintStream"), (.object "java/io/InputStream"), .int, .int, .int, (.object "java/lang/SecurityManager"), (.object "java/lang/String"), (.object "java/io/Console"), (.object "java/io/PrintStream"), (.object "java/util/Properties"), (.object "java/lang/String"), (.object "java/lang/ModuleLayer")]
  resolved := Array.replicate 834 none
  statics := none }

def pool6 : Array CpInfo := pool [(1, .class_ 2), (0, u "java/lang/Class"), (0, .class_ 4), (0, u "java/lang/Object")] 0

/-- java/lang/Class -/
def k6 : Class := { plain "java/lang/Class" (some 0) with
  accessFlags := 49
  interfaces := #[]
  cf := some (fileOf pool6 1 #[] #[] 49 3 #[] #[])
  fields := #[]
  methods := #[]
  instanceTypes := #[]
  staticTypes := #[]
  resolved := Array.replicate 5 none
  statics := none }

def pool7 : Array CpInfo := pool [(1, u "java/lang/Cloneable"), (0, .class_ 1), (0, u "java/lang/Object"), (0, .class_ 3)] 3

/-- java/lang/Cloneable -/
def k7 : Class := { plain "java/lang/Cloneable" (some 0) with
  accessFlags := 1537
  interfaces := #[]
  cf := some (fileOf pool7 2 #[] #[] 1537 4 #[] #[])
  fields := #[]
  methods := #[]
  instanceTypes := #[]
  staticTypes := #[]
  resolved := Array.replicate 8 none
  statics := none }

def pool8 : Array CpInfo := pool [(1, u "java/io/Serializable"), (0, .class_ 1), (0, u "java/lang/Object"), (0, .class_ 3)] 3

/-- java/io/Serializable -/
def k8 : Class := { plain "java/io/Serializable" (some 0) with
  accessFlags := 1537
  interfaces := #[]
  cf := some (fileOf pool8 2 #[] #[] 1537 4 #[] #[])
  fields := #[]
  methods := #[]
  instanceTypes := #[]
  staticTypes := #[]
  resolved := Array.replicate 8 none
  statics := none }

/-- the primitive byte -/
def k9 : Class := { plain "byte" none with kind := .primitive 'B', accessFlags := 0x411 }
/-- [B -/
def k10 : Class := { plain "[B" (some 0) with kind := .array 9 .byte, interfaces := #[7, 8], accessFlags := 1041 }

/-- the primitive int -/
def k11 : Class := { plain "int" none with kind := .primitive 'I', accessFlags := 0x411 }
/-- [I -/
def k12 : Class := { plain "[I" (some 0) with kind := .array 11 .int, interfaces := #[7, 8], accessFlags := 1041 }

/-- [Ljava/lang/Object; -/
def k13 : Class := { plain "[Ljava/lang/Object;" (some 0) with kind := .array 0 (.object "java/lang/Object"), interfaces := #[7, 8], accessFlags := 1041, mirror := some 0 }

def heap : Heap := #[{ cls := 6, slots := #[], vm := .mirror 13 }]
def classes : Array Class := #[k0, k1, k2, k3, k4, k5, k6, k7, k8, k9, k10, k11, k12, k13]
def interned : List (Array UInt16 × Addr) := []
def slotsUsed : Nat := 0
def theMethod : MethodId := ⟨1, 2⟩
def args0 : Array Value := #[.int 5, .int 7, .int 9, .int 3, .int 2, .int 1]
def aboutOver (below : List Frame) : State where
  vm := { classes := classes, interned := interned.toArray }
  heap := heap
  slotsUsed := slotsUsed
  threads := #[{ frames := .invoking theMethod args0 :: below }]
def below0 : List Frame := [.native { method := ⟨0, 0⟩, args := #[] }]
def about1 : State := aboutOver below0
def p0 : Program := .bare "" "" ""
def e0 : Env := launch0.env 0 0 0
theorem w_frames : about1.frames = Frame.invoking theMethod args0 :: below0 := rfl
set_option maxRecDepth 65536 in
theorem w_args : argsFit about1.vm theMethod args0 = true := by decide +kernel
set_option maxRecDepth 65536 in
theorem w_heap : heapFits about1 = true := by decide +kernel
set_option maxRecDepth 65536 in
theorem w_runnable : about1.curStatus? = some .runnable := by decide +kernel
set_option maxRecDepth 65536 in
theorem w_alone : about1.alone = true := by decide +kernel
set_option maxRecDepth 65536 in
theorem w_named : about1.methodNamed? x = some theMethod := by decide +kernel
set_option maxRecDepth 65536 in
theorem w_hears : about1.hears theMethod below0 = true := by decide +kernel
set_option maxRecDepth 65536 in
theorem w_ripe : about1.ripe theMethod args0 below0 = true := by decide +kernel
theorem w_running : about1.status = .running := rfl
set_option maxRecDepth 65536 in
theorem w_room : about1.hasRoom e0.platform room_1 = true :=
  launch0.hasRoom_least _ room_1 (by decide +kernel) (by decide +kernel) (by decide +kernel) (by decide +kernel) (by decide +kernel) (by decide +kernel)
theorem allAtoms_all (ts : List Jvm.Cond) (a : Array Jvm.Value) (st : Jvm.State) : (allAtoms ts).before a st = ts.all (fun c => c.before a st) := by
  induction ts with
  | nil => rfl
  | cons c t ih =>
    show (Jvm.Cond.and c (allAtoms t)).before a st = _
    rw [Jvm.Cond.before_and, ih, List.all_cons]
def words1 : List Jvm.Cond := Jvm.Cond.code x code maxLocals ret :: tables_1
/-- a 'code' word, met by the world's own term for the bytes: nothing is compared byte by byte -/
theorem code_word {y : MethodName} {bytes : ByteArray} {mx : Nat} {rt : Option FieldType} {a : Array Value} {s : State} {m : MethodId} {meth : Method} {c : Code} (h1 : s.methodNamed? y = some m) (h2 : s.vm.method? m = some meth) (h3 : meth.code = some c) (h4 : c.code = bytes)
    (h5 : (c.maxLocals == mx && c.exceptionTable.isEmpty && decide (c.maxStack ≤ mostOperands) && decide (meth.sig.returnType = rt) && !meth.locks && decide (parseMethodDescriptor y.desc = some meth.sig)) = true) : (Jvm.Cond.code y bytes mx rt).before a s = true := by
  simp only [Bool.and_eq_true, beq_iff_eq, Bool.not_eq_true', decide_eq_true_eq] at h5
  obtain ⟨⟨⟨⟨⟨g1, g2⟩, g3⟩, g4⟩, g5⟩, g6⟩ := h5
  simp [Cond.before, Cond.holds, Cond.value, h1, h2, h3, h4, g1, g2, g3, g4, g5, g6]
def isCode : Jvm.Cond → Bool
  | .code _ _ _ _ => true
  | _ => false
theorem all_split {L : List Jvm.Cond} {P : Jvm.Cond → Bool} (h1 : L.all (fun c => isCode c || P c) = true) (h2 : ∀ c ∈ L.filter isCode, P c = true) : L.all P = true := by
  refine List.all_eq_true.mpr fun c hc => ?_
  have h := List.all_eq_true.mp h1 c hc
  rcases Bool.eq_false_or_eq_true (isCode c) with hi | hi
  · exact h2 c (List.mem_filter.mpr ⟨hc, hi⟩)
  · simpa [hi] using h
set_option maxRecDepth 65536 in
theorem w_c0 : (Jvm.Cond.code x code maxLocals ret).before args0 about1 = true := code_word (m := ⟨1, 2⟩) (meth := k1m2) (c := k1c2) (by decide +kernel) rfl rfl rfl (by decide +kernel)
set_option maxRecDepth 65536 in
theorem w_c1 : (Jvm.Cond.code ({ cls := "com/example/tercet/tercet/core/Pages", name := "<init>", desc := "(Ljava/lang/Object;II)V" } : Jvm.MethodName) prog_34_method_1_code (4 : Nat) (Option.none : Option Jvm.ClassFile.FieldType)).before args0 about1 = true := code_word (m := ⟨2, 0⟩) (meth := k2m0) (c := k2c0) (by decide +kernel) rfl rfl rfl (by decide +kernel)
set_option maxRecDepth 65536 in
theorem w_c2 : (Jvm.Cond.code ({ cls := "java/lang/Object", name := "<init>", desc := "()V" } : Jvm.MethodName) object_method_1_code (1 : Nat) (Option.none : Option Jvm.ClassFile.FieldType)).before args0 about1 = true := code_word (m := ⟨0, 0⟩) (meth := k0m0) (c := k0c0) (by decide +kernel) rfl rfl rfl (by decide +kernel)
set_option maxRecDepth 65536 in
theorem w_c3 : (Jvm.Cond.code ({ cls := "com/example/tercet/tercet/core/Pages", name := "turns", desc := "(II)Z" } : Jvm.MethodName) prog_34_method_2_code (3 : Nat) (Option.some Jvm.ClassFile.FieldType.boolean)).before args0 about1 = true := code_word (m := ⟨2, 1⟩) (meth := k2m1) (c := k2c1) (by decide +kernel) rfl rfl rfl (by decide +kernel)
set_option maxRecDepth 65536 in
theorem w_c4 : (Jvm.Cond.code ({ cls := "com/example/tercet/tercet/core/PagesTurnsPinLaw", name := "expect", desc := "(III)Z" } : Jvm.MethodName) method_2_code (5 : Nat) (Option.some Jvm.ClassFile.FieldType.boolean)).before args0 about1 = true := code_word (m := ⟨1, 1⟩) (meth := k1m1) (c := k1c1) (by decide +kernel) rfl rfl rfl (by decide +kernel)
set_option maxRecDepth 65536 in
theorem w_c5 : (Jvm.Cond.code ({ cls := "com/example/tercet/tercet/core/Pages", name := "turn", desc := "(ILjava/lang/Object;)V" } : Jvm.MethodName) prog_34_method_4_code (3 : Nat) (Option.none : Option Jvm.ClassFile.FieldType)).before args0 about1 = true := code_word (m := ⟨2, 2⟩) (meth := k2m2) (c := k2c2) (by decide +kernel) rfl rfl rfl (by decide +kernel)
set_option maxRecDepth 65536 in
theorem w_c6 : (Jvm.Cond.code ({ cls := "java/util/Arrays", name := "copyOf", desc := "([Ljava/lang/Object;I)[Ljava/lang/Object;" } : Jvm.MethodName) jdk_65_method_119_code (2 : Nat) (Option.some (Jvm.ClassFile.FieldType.array (Jvm.ClassFile.FieldType.object "java/lang/Object")))).before args0 about1 = true := code_word (m := ⟨3, 1⟩) (meth := k3m1) (c := k3c1) (by decide +kernel) rfl rfl rfl (by decide +kernel)
set_option maxRecDepth 65536 in
theorem w_c7 : (Jvm.Cond.code ({ cls := "java/util/Arrays", name := "copyOf", desc := "([Ljava/lang/Object;ILjava/lang/Class;)[Ljava/lang/Object;" } : Jvm.MethodName) jdk_65_method_120_code (4 : Nat) (Option.some (Jvm.ClassFile.FieldType.array (Jvm.ClassFile.FieldType.object "java/lang/Object")))).before args0 about1 = true := code_word (m := ⟨3, 2⟩) (meth := k3m2) (c := k3c2) (by decide +kernel) rfl rfl rfl (by decide +kernel)
set_option maxRecDepth 65536 in
theorem w_c8 : (Jvm.Cond.code ({ cls := "java/lang/Math", name := "min", desc := "(II)I" } : Jvm.MethodName) jdk_29_method_69_code (2 : Nat) (Option.some Jvm.ClassFile.FieldType.int)).before args0 about1 = true := code_word (m := ⟨4, 1⟩) (meth := k4m1) (c := k4c1) (by decide +kernel) rfl rfl rfl (by decide +kernel)
set_option maxRecDepth 65536 in
theorem w_c9 : (Jvm.Cond.code ({ cls := "java/util/Arrays", name := "copyOf", desc := "([II)[I" } : Jvm.MethodName) jdk_65_method_123_code (3 : Nat) (Option.some (Jvm.ClassFile.FieldType.array Jvm.ClassFile.FieldType.int))).before args0 about1 = true := code_word (m := ⟨3, 3⟩) (meth := k3m3) (c := k3c3) (by decide +kernel) rfl rfl rfl (by decide +kernel)
def codes1 : List Jvm.Cond := [Jvm.Cond.code x code maxLocals ret, Jvm.Cond.code ({ cls := "com/example/tercet/tercet/core/Pages", name := "<init>", desc := "(Ljava/lang/Object;II)V" } : Jvm.MethodName) prog_34_method_1_code (4 : Nat) (Option.none : Option Jvm.ClassFile.FieldType), Jvm.Cond.code ({ cls := "java/lang/Object", name := "<init>", desc := "()V" } : Jvm.MethodName) object_method_1_code (1 : Nat) (Option.none : Option Jvm.ClassFile.FieldType), Jvm.Cond.code ({ cls := "com/example/tercet/tercet/core/Pages", name := "turns", desc := "(II)Z" } : Jvm.MethodName) prog_34_method_2_code (3 : Nat) (Option.some Jvm.ClassFile.FieldType.boolean), Jvm.Cond.code ({ cls := "com/example/tercet/tercet/core/PagesTurnsPinLaw", name := "expect", desc := "(III)Z" } : Jvm.MethodName) method_2_code (5 : Nat) (Option.some Jvm.ClassFile.FieldType.boolean), Jvm.Cond.code ({ cls := "com/example/tercet/tercet/core/Pages", name := "turn", desc := "(ILjava/lang/Object;)V" } : Jvm.MethodName) prog_34_method_4_code (3 : Nat) (Option.none : Option Jvm.ClassFile.FieldType), Jvm.Cond.code ({ cls := "java/util/Arrays", name := "copyOf", desc := "([Ljava/lang/Object;I)[Ljava/lang/Object;" } : Jvm.MethodName) jdk_65_method_119_code (2 : Nat) (Option.some (Jvm.ClassFile.FieldType.array (Jvm.ClassFile.FieldType.object "java/lang/Object"))), Jvm.Cond.code ({ cls := "java/util/Arrays", name := "copyOf", desc := "([Ljava/lang/Object;ILjava/lang/Class;)[Ljava/lang/Object;" } : Jvm.MethodName) jdk_65_method_120_code (4 : Nat) (Option.some (Jvm.ClassFile.FieldType.array (Jvm.ClassFile.FieldType.object "java/lang/Object"))), Jvm.Cond.code ({ cls := "java/lang/Math", name := "min", desc := "(II)I" } : Jvm.MethodName) jdk_29_method_69_code (2 : Nat) (Option.some Jvm.ClassFile.FieldType.int), Jvm.Cond.code ({ cls := "java/util/Arrays", name := "copyOf", desc := "([II)[I" } : Jvm.MethodName) jdk_65_method_123_code (3 : Nat) (Option.some (Jvm.ClassFile.FieldType.array Jvm.ClassFile.FieldType.int))]
set_option maxRecDepth 65536 in
theorem codes_eq : words1.filter isCode = codes1 := rfl
theorem w_codes : ∀ c ∈ words1.filter isCode, c.before args0 about1 = true := by
  rw [codes_eq]
  intro c hc
  simp only [codes1, List.mem_cons, List.not_mem_nil, or_false] at hc
  rcases hc with rfl | rfl | rfl | rfl | rfl | rfl | rfl | rfl | rfl | rfl
  · exact w_c0
  · exact w_c1
  · exact w_c2
  · exact w_c3
  · exact w_c4
  · exact w_c5
  · exact w_c6
  · exact w_c7
  · exact w_c8
  · exact w_c9
set_option maxRecDepth 65536 in
theorem w_t1 : (words1.take 24).all (fun c => isCode c || c.before args0 about1) = true := by decide +kernel
set_option maxRecDepth 65536 in
theorem w_t2 : ((words1.drop 24).take 24).all (fun c => isCode c || c.before args0 about1) = true := by decide +kernel
set_option maxRecDepth 65536 in
theorem w_t3 : ((words1.drop 24).drop 24).all (fun c => isCode c || c.before args0 about1) = true := by decide +kernel
theorem w_tables : (allAtoms (Jvm.Cond.code x code maxLocals ret :: tables_1)).before args0 about1 = true := by
  rw [allAtoms_all]
  show words1.all (fun c => c.before args0 about1) = true
  refine all_split ?_ w_codes
  rw [← List.take_append_drop 24 words1, List.all_append, w_t1, ← List.take_append_drop 24 (words1.drop 24), List.all_append, w_t2, w_t3]
  rfl
set_option maxRecDepth 65536 in
theorem w_case : (Jvm.Cond.and given_1 narrow_1).before args0 about1 = true := by decide +kernel
theorem w_applies : (headSpec (Jvm.Cond.code x code maxLocals ret :: tables_1) room_1).applies x e0.platform about1 = true :=
  (Spec.applies_iff w_frames).mpr ⟨w_running, w_runnable, w_alone, w_named, w_hears, w_ripe, w_room, w_tables⟩
theorem atStart : AtStart classFile x code maxLocals ret World_1 tables_1 room_1 Calls_1 rest_1 Pre_1 launch0 p0 e0 about1 theMethod args0 below0 :=
  ⟨lists_1, trivial, launch0.admits_env _ _ _, launch0.least_env, fairChoices_fair.cas, fairChoices_fair.clock, w_frames, w_args, w_heap, w_applies, ⟨⟨13, k13, 0, by decide +kernel, rfl, rfl, _, rfl, rfl⟩, trivial⟩, trivial, w_case⟩
end start1
theorem witness_1 : WitnessClaimed_1 := ⟨start1.p0, start1.e0, start1.about1, start1.theMethod, start1.args0, start1.below0, start1.atStart⟩
end Jvm.Pilot.@@N@@
